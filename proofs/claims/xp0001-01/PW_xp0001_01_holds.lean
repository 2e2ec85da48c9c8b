import PyProof.Rows.All
import Wide.All
import OpenK.AllK
import Wide.FinOn
import PySem.Challenge.RW_xp0001_01

section
open PySem PySem.W PySem.Calls PyProof.Rows
open Sem (wp)
set_option Elab.async false
set_option maxRecDepth 100000
set_option maxHeartbeats 400000
namespace Mine
theorem fresh_KA : True := by
  w_top off
  trivial
/-! a bytearray asks the whole stack whether a decoder holds it: what is true where no decoder stands on the stack -/
def badCode (c : Code) : Bool := match c with | .builtin id _ => Builtin.Bytes.decodersThatHold.contains id | _ => false
def unc (st : List (Code × Pos)) : Bool := st.any fun x => badCode x.1
theorem unc_cons (c : Code) (p : Pos) (l : List (Code × Pos)) : unc ((c, p) :: l) = (badCode c || unc l) := rfl

def wpK {α : Type} (M : Model) (A : Around) (t : Sem α) (Q : α → Shared → Prop) (E : Value → Shared → Prop) (s : Shared) : Prop :=
  ∀ Γ p, Γ.In A → unc ((Γ.code, p) :: Γ.below) = false → wp M Γ t (fun a _ s' => Q a s') (fun e _ s' => E e s') p s
def codeK (M : Model) (A : Around) (c : Code) (R : Result → Shared → Prop) (s : Shared) : Prop :=
  ∀ Γ p, Γ.code = c → Γ.Below A → unc Γ.below = false → wpCode M Γ R p s

section
variable {α β : Type} {M : Model} {A : Around} {E : Value → Shared → Prop} {s : Shared}
theorem wpK_of {t : Sem α} {Q : α → Shared → Prop} (h : wpAny M A t Q E s) : wpK M A t Q E s := fun Γ p hΓ _ => h Γ p hΓ
theorem codeK_of {c : Code} {R : Result → Shared → Prop} (h : codeAny M A c R s) : codeK M A c R s := fun Γ p hc hΓ _ => h Γ p hc hΓ
theorem wpK_mono {t : Sem α} {Q Q' : α → Shared → Prop} {E' : Value → Shared → Prop} (h : wpK M A t Q E s) (hQ : ∀ a s, Q a s → Q' a s) (hE : ∀ e s, E e s → E' e s) : wpK M A t Q' E' s :=
  fun Γ p hΓ hu => Sem.wp_mono M Γ t (fun a _ s => hQ a s) (fun e _ s => hE e s) p s (h Γ p hΓ hu)
theorem wpK_bind {m : Sem α} {f : α → Sem β} {Q : β → Shared → Prop} (h : wpK M A m (fun a s' => wpK M A (f a) Q E s') E s) : wpK M A (m >>= f) Q E s := fun Γ p hΓ hu => by
  rw [Sem.wp_bind']
  exact Sem.wp_mono M Γ m (fun a p' s' h' => h' Γ p' hΓ hu) (fun _ _ _ h' => h') p s (h Γ p hΓ hu)
/-- what comes first asks nothing of the stack -/
theorem wpK_bindA {m : Sem α} {f : α → Sem β} {Q : β → Shared → Prop} (h : wpAny M A m (fun a s' => wpK M A (f a) Q E s') E s) : wpK M A (m >>= f) Q E s := wpK_bind (wpK_of h)
theorem wpK_holding {vs : List Value} {m : Sem α} {Q : α → Shared → Prop} (h : wpK M A m Q E s) : wpK M A (holding vs m) Q E s := fun Γ p hΓ hu => by
  rw [Sem.wp_holding]; exact h Γ p hΓ hu
theorem wpK_keep {vs : List Value} {m : Sem α} {Q : α → Shared → Prop} (h : wpK M A m Q E s) : wpK M A (m.keep vs) Q E s := fun Γ p hΓ hu => by
  have := h Γ p hΓ hu
  simpa using this
theorem wpK_onRaise {m : Sem α} {k : Value → Sem Unit} {Q : α → Shared → Prop} (h : wpK M A m Q (fun e s' => wpK M A (k e) (fun _ s'' => E e s'') E s') s) : wpK M A (m.onRaise k) Q E s := fun Γ p hΓ hu => by
  rw [Sem.wp_onRaise]
  exact Sem.wp_mono M Γ m (fun _ _ _ h' => h') (fun e p' s' h' => h' Γ p' hΓ hu) p s (h Γ p hΓ hu)
theorem wpK_stack {Q : List (Code × Pos) → Shared → Prop} (h : ∀ st, unc st = false → (∀ g, A.guards = some g → guardsOf st = g) → Q st s) : wpK M A stack Q E s := fun Γ p hΓ hu => by
  unfold stack
  rw [Sem.wp_stack]
  exact h _ hu fun g hg => by rw [guardsOf_cons]; exact hΓ.2.2.2.1 g hg
theorem wpK_runValue {c : Code} {Q : Value → Shared → Prop}
    (hc : codeK M A c (fun r s' => match r with | .ok (.ret v) => Q v s' | .ok _ => False | .error e => E e s') s) :
    wpK M A (runValue c) Q E s := fun Γ p hΓ hu => by rw [Sem.wp_runValue]; exact hc _ p rfl (hΓ.enter c none p (by intro x; cases x)) hu
theorem wpK_call {f : Value} {pos : List Value} {kw : List (Str × Value)} {Q : Value → Shared → Prop}
    (hc : codeK M A (.call f ⟨pos, kw⟩) (fun r s' => match r with | .ok (.ret v) => Q v s' | .ok _ => False | .error e => E e s') s) :
    wpK M A (call f pos kw) Q E s := wpK_runValue hc
theorem codeK_of_tree {c : Code} {R : Result → Shared → Prop} (hb : badCode c = false)
    (h : wpK M (A.under c) (M.den c) (fun fin s' => match fin with | .done f => R (.ok f) s' | .again c' => c'.quiet = true ∧ codeK M A c' R s')
      (fun e s' => R (.error e) s') s) : codeK M A c R s := fun Γ p hc hΓ hu => by
  rw [wpCode_iff_wp, hc]
  refine Sem.wp_mono M Γ _ (fun fin p' s' h' => ?_) (fun _ _ _ h' => h') p s (h Γ p (hc ▸ hΓ.in) (by rw [unc_cons, hc, hb, hu]; rfl))
  cases fin with
  | done f => exact h'
  | again c' => exact ⟨h'.1, h'.2 (Γ.goto c') p' rfl (hΓ.goto c') hu⟩
theorem codeK_mono {c : Code} {R R' : Result → Shared → Prop} (h : codeK M A c R s) (hR : ∀ r s, R r s → R' r s) : codeK M A c R' s :=
  fun Γ p hc hΓ hu => wpCode_mono hR (h Γ p hc hΓ hu)
theorem wpK_pure {a : α} {Q : α → Shared → Prop} (h : Q a s) : wpK M A (pure a) Q E s := wpK_of (wpAny_pure h)
theorem wpK_ite_neg {c : Prop} [Decidable c] {a b : Sem α} {Q : α → Shared → Prop} (hc : ¬ c) (h : wpK M A b Q E s) : wpK M A (if c then a else b) Q E s := by rw [if_neg hc]; exact h
theorem wpK_ite_pos {c : Prop} [Decidable c] {a b : Sem α} {Q : α → Shared → Prop} (hc : c) (h : wpK M A a Q E s) : wpK M A (if c then a else b) Q E s := by rw [if_pos hc]; exact h
end

section
variable {w : World} {A : Around} {E : Value → Shared → Prop} {R : Result → Shared → Prop} {s : Shared} {env : Env}
theorem wpK_execs_cons {M : Model} {st rest} {Q : Flow → Shared → Prop}
    (h : wpK M A (exec st env) (fun f s' => match f with | .next => wpK M A (execs rest env) Q E s' | f => Q f s') E s) : wpK M A (execs (st :: rest) env) Q E s := fun Γ p hΓ hu => by
  rw [execs_cons, Sem.wp_bind']
  refine Sem.wp_mono M Γ _ (fun f p' s' h' => ?_) (fun _ _ _ h' => h') _ _ (h Γ p hΓ hu)
  cases f <;> first | exact h' Γ p' hΓ hu | exact h'
theorem wp_execs_app {M : Model} {Γ : PySem.Ctx} {Q : Flow → Pos → Shared → Prop} {X : Value → Pos → Shared → Prop} {rest : List Stmt} : ∀ {pre : List Stmt} {p : Pos} {s : Shared},
    wp M Γ (execs pre env) (fun f p' s' => match f with | .next => wp M Γ (execs rest env) Q X p' s' | f => Q f p' s') X p s → wp M Γ (execs (pre ++ rest) env) Q X p s
  | [], p, s, h => by rwa [show execs [] env = pure Flow.next from rfl, Sem.wp_pure'] at h
  | st :: pre, p, s, h => by
    rw [execs_cons, Sem.wp_bind'] at h
    show wp M Γ (execs (st :: (pre ++ rest)) env) _ _ p s
    rw [execs_cons, Sem.wp_bind']
    refine Sem.wp_mono M Γ _ (fun f p' s' h' => ?_) (fun _ _ _ h' => h') _ _ h
    cases f with
    | next => exact wp_execs_app h'
    | _ => rw [Sem.wp_pure'] at h' ⊢; exact h'
/-- the statements ahead ask nothing of the stack -/
theorem wpK_execs_app {M : Model} {pre rest : List Stmt} {Q : Flow → Shared → Prop}
    (h : wpAny M A (execs pre env) (fun f s' => match f with | .next => wpK M A (execs rest env) Q E s' | f => Q f s') E s) : wpK M A (execs (pre ++ rest) env) Q E s := fun Γ p hΓ hu =>
  wp_execs_app (Sem.wp_mono M Γ _ (fun f p' s' h' => by cases f <;> first | exact h' Γ p' hΓ hu | exact h') (fun _ _ _ h' => h') _ _ (h Γ p hΓ))
theorem wpK_Assign_Name {M : Model} {x pos' value pos} {Q : Flow → Shared → Prop}
    (h : wpK M A (eval value env) (fun v s₁ => wpAny M A (storeName env x v) (fun _ => Q .next) E s₁) E s)
    (hs : swapsWith value (some (.Name x pos')) pos.line env = pure false) :
    wpK M A (exec (.Assign [.Name x pos'] value pos) env) Q E s := fun Γ p hΓ hu => by
  simp only [exec_Assign_Name env x pos' value pos hs, Sem.wp_bind', Sem.wp_cmd_standAt, Sem.wp_bindName, Sem.wp_pure']
  exact Sem.wp_mono M Γ _ (fun v _ s₁ h₁ => h₁ Γ _ hΓ) (fun _ _ _ h' => h') _ _ (h Γ _ hΓ hu)
theorem wpK_Call_Name {M : Model} {id : Str} {p pos : Pos} {args : List Expr} {Q : Value → Shared → Prop}
    (h : wpAny M A (eval (.Name id p) env) (fun f s₁ => wpK M A (callWith pos f [] (backTo pos (starEach args env)) []) Q E s₁) E s) :
    wpK M A (eval (.Call (.Name id p) args [] pos) env) Q E s := by
  show wpK M A (do callWith pos (← eval (.Name id p) env) [] (backTo pos (starEach args env)) (backToKw pos (keywordEach [] env))) Q E s
  exact wpK_bindA h
theorem callWithK_type {M : Model} {pos : Pos} {T : String} {first : List Value} {args : List (Bool × Sem Value)} {Q : Value → Shared → Prop} (hplain : args.any (·.1) = false)
    (h : wpAny M A (evalArgs (.type T) true args []) (fun a s₁ => wpK M A (call (.type T) (first ++ a.pos) a.kw) Q E s₁) E s) : wpK M A (callWith pos (.type T) first args []) Q E s := by
  unfold callWith
  refine wpK_bindA (wpAny_holding (wpAny_mono h (fun a s₁ h₁ => wpK_bindA (wpAny_standAt ?_)) fun _ _ x => x))
  simp only [hplain, List.any_nil, Bool.or_false]
  refine wpK_bindA (wpAny_pure ?_)
  exact wpK_bind (wpK_mono h₁ (fun r s₂ hr => wpK_of (wpAny_bind (wpAny_holding (wpAny_point (wpAny_pure hr))))) fun _ _ x => x)
end
/-- what is asked of the call, where no decoder stands on the stack -/
abbrev WalkK (q : Program) (loose : List Str) (XP : (Str → Option Value) → Heap → Prop) (YP : World → Heap → Prop) (r : RowW) (d : DefRec) (kwd : List (Str × Expr)) : Prop :=
  ∀ (w : World) (s₀ s₁ : Shared) (mg mb : Str → Option Value), Ground q loose r.records XP w s₀ mg mb s₁.heap → YP w s₁.heap → ∀ (a : Addr) (o : Obj) (pm cd doc dV kV : Value), s₁.heap.get? a = some o →
    o.data = .func { docDef d.name d.params d.body d.scope pm cd doc with defaults := dV, kwdefaults := kV } → s₁.heap.CodeRec cd d.name → Dflts mg s₁.heap d.params kwd dV kV → mg d.name = some (.ref a) → s₁.gens = #[] →
    ∀ (args : List WData) (vals : List Value) (as : List Addr), r.claim.pre args = true → WData.layableAll args = true → ReadsAllW r.records (classAt s₀.heap) s₁.heap vals args as → WellAll w.params s₁.heap vals args → (∀ a ∈ as, (a == sysModules) = false) →
      wpK (model r.prog w) callerA (call (.ref a) vals) (fun v s' => GoodWG r.claim (classAt s₀.heap) (ExcName.means s₀.heap) args s₁ (.ok (.ret v)) s')
        (fun e s' => GoodWG r.claim (classAt s₀.heap) (ExcName.means s₀.heap) args s₁ (.error e) s') s₁

/-- a thread that starts with the caller alone has a clean stack -/
theorem runs_of_clean {prog : Program} {w : World} {t : Sem PySem.Fin} {s : Shared} {R : Result → Shared → Prop} (sleeps : s.asleep)
    (h : wpK (model prog w) callerA t (fun z s' => ∃ f, z = .done f ∧ R (.ok f) s' ∧ leftWithCleanup s'.gens = false) (fun e s' => R (.error e) s' ∧ leftWithCleanup s'.gens = false) s) :
    ∃ n r s' s'', runN (denote table) prog w n s ⟨t, .builtin "claim.caller" {}, default, []⟩ = .halted (outcomeOf r) s' ∧
      schedN (denote table) prog w n (.single s ⟨t, .builtin "claim.caller" {}, default, []⟩) = .halted (outcomeOf r) s' ∧ s'.forget = s''.forget ∧ R r s'' := by
  have start := h _ default caller_in (by decide)
  have start' := Sem.wp_mono _ _ t (post' := Sem.finPost (model prog w) ⟨.builtin "claim.caller" {}, none, none, [], none⟩ fun r s' => R r s' ∧ leftWithCleanup s'.gens = false)
    (fun z _ _ ⟨f, hz, hf⟩ => by subst hz; exact hf) (fun _ _ _ he => he) _ _ start
  obtain ⟨n, r, sa, sb, hsched, hrun, hforget, hr⟩ := wp_halts_full (M := model prog w) (R := R) sleeps start'
  exact ⟨n, r, sb, sa, hrun, hsched, hforget, hr⟩

end Mine
namespace Mine.PySem.W
/-- the head for a call that must have a clean stack: named as the library's head names its own, that «k_head» lays it -/
theorem holds_open {r : OpenRow} {q : Program} {loose : List Str} {Xt : Shared → Bool} {XP : (Str → Option Value) → Heap → Prop} {α : Type} {Yf : Shared → α} {Ya : World → α} {YP : World → Heap → Prop} {d : DefRec} {kwd : List (Str × Expr)} {N : Nat}
    (left : LeftO r.prog q loose Xt Yf Ya N) (hY : ∀ w s, Yf s = Ya w → YP w s.heap) (hYk : ∀ w h h', YP w h → (∀ b o, h.get? b = some o → h'.get? b = some o) → YP w h')
    (hX : ∀ s, Xt s = true → XP (s.heap.nsMap mainGlobals) s.heap) (hXk : ∀ mg h h', XP mg h → (∀ b o, h.get? b = some o → h'.get? b = some o) → XP mg h')
    (hdef : defOf q r.name = some (d, kwd)) (hp : r.prog.theDef r.name = some (d.params, d.body, d.scope)) (hk : kwWritten? d.params.kwonlyargs d.params.kw_defaults = some kwd) (hRf : ∀ s, Xt s = true → RecFacts r.records s.heap) (hwr : (!r.writes || r.records.isEmpty) = true)
    (said : r.wellSaid = true) (ok : (chainsOk q && opensWell r.prog && (frees r.toRowW && r.within.isEmpty)) = true) (hb : r.prog.bare) (hw : r.toRowW.promised)
    (walk : WalkK q loose XP YP r.toRowW d kwd) : r.Holds := by
  simp only [Bool.and_eq_true] at ok
  obtain ⟨⟨chains, opens⟩, free, within⟩ := ok
  obtain ⟨same, unsh, hand, apart, makers⟩ := frees_parts free
  have within : r.toRowW.claim.within = [] := List.isEmpty_iff.mp within
  refine ⟨said, hw, ⟨hb, opens, by show r.makers.map _ = []; rw [makers]; rfl⟩, hw.witness, fun w => ?_⟩
  refine ⟨(left.behind hX chains w).1, fun st after => ?_⟩
  obtain ⟨s₀, fence, gens₀, s, ran, sleeps, gens, top, ground, y⟩ := (left.behind (XP := fun mg h => XP mg h ∧ RecFacts r.records h) (fun s hs => ⟨hX s hs, hRf s hs⟩) chains w).2 st after
  have facts := ground.X.2
  have bare : Ground q loose [] XP w s (s.heap.nsMap mainGlobals) (s.heap.nsMap builtinsNs) s.heap := ⟨ground.T, ground.B, ground.D, ground.TE, ground.TD, ground.W, ground.X.1, ground.cls, ground.has, ground.apart, ground.once, ground.K⟩
  have full : Ground q loose r.records XP w s _ _ s.heap := facts.ground bare
  have gens : s.gens = #[] := Array.eq_empty_of_size_eq_zero (beq_iff_eq.mp gens)
  refine ⟨s₀, fence, gens₀, s, ran, fun n hn => ?_, facts.1, facts.2.1, fun args pre layable ord perm => ?_⟩
  · obtain rfl : n = r.name := by split at hn <;> simp_all
    exact pinned_of_view top bare hdef hp hk
  · obtain ⟨⟨vs, s₁⟩, laid⟩ := Option.isSome_iff_exists.mp (layAllW_isSome (P := w.params) (ord := ord) full.has args r.args s (pre_splitW pre).1)
    have keeps := layAllW_keeps _ _ _ laid
    have rest := layAllW_rest _ _ _ laid
    obtain ⟨as, reads, fresh, old⟩ := reads_layAllW perm _ _ _ laid layable s₁.heap (fun _ _ e => e)
    have L : Laid r.records w s s₁ args vs as := ⟨⟨ord, perm, laid⟩, reads, fresh, old, keeps, rest.1.trans gens, rest.2.2.1⟩
    have here := full.keeps hXk keeps
    obtain ⟨a, o, pm, cd, doc, dV, kV, h1, h2, h3, h4, h5⟩ := here.fn hdef
    have run := walk w s s₁ _ _ here (hYk _ _ _ (hY w s y) keeps) a o pm cd doc dV kV h2 h3 h4 h5 (defOf_name hdef ▸ h1) L.gens args vs as pre layable L.reads L.well (L.low full.low)
    have ends : ∀ (res : Result) (s' : Shared), GoodWG r.claim (classAt s.heap) (ExcName.means s.heap) args s₁ res s' → _ := fun res s' g =>
      have z := g.laid (c := r.claim) same within (ident_freeW unsh hand apart) L
      And.intro z.1 (And.intro z.2.1 (And.intro z.2.2 (namesKept_of ran top r.keeps keeps g.2.1.old)))
    obtain ⟨k, res, s', s'', ran', sched, forget, hcase, hos, hnames⟩ := runs_of_clean (prog := r.prog) (w := w) (s := s₁)
      (t := do match ← nsGet mainNs r.name with
        | some f => do ret (← PySem.call f vs)
        | none => unsupported "claim.caller:no-such-global")
      (R := fun res s' => r.claim.Ends s args vs s₁ res s' ∧ s'.os = s.os ∧ namesKept r.prog r.keeps s.heap s'.heap)
      (Shared.asleep_of_life rest.2.2.2 sleeps)
      (wpK_bindA (wpAny_nsGet here.T.g (by
        rw [h1]
        exact wpK_bind (wpK_mono run (fun v s' g => wpK_pure (have z := ends _ _ g; ⟨_, rfl, ⟨z.1, z.2.1, z.2.2.2⟩, leftWithCleanup_false_of_bare z.2.2.1⟩)) fun e s' g => (have z := ends _ _ g; ⟨⟨z.1, z.2.1, z.2.2.2⟩, leftWithCleanup_false_of_bare z.2.2.1⟩)))))
    obtain ⟨heaps, _, _, oss, _⟩ := Shared.forget_eq forget
    have ended := hcase.congr heaps
    have life : s'.heap.life = s.heap.life := (runN_life _ _ _ ran').trans rest.2.2.2
    refine ⟨vs, s₁, laid, k, _, s', sched, ?_, fun _ i x hx => absurd hx (by rw [gens]; simp), fun q => ⟨heaps ▸ hnames, noTable hwr q⟩, by rw [life], Shared.rest_eq (oss.trans hos)⟩
    rcases ended with ⟨v, hv, e1, e2, e3, e4, e5⟩ | ⟨e, ob, cls, he, e1, e2, e3, e4, e5⟩
    · subst hv; exact .inl ⟨v, rfl, e1, e2, e3, fun b o y _ => e4 b o y, e5⟩
    · subst he; exact .inr ⟨e, ob, cls, rfl, e1, e2, e3, e4, fun b o y _ => e5 b o y⟩
end Mine.PySem.W

end

section
open PySem PySem.W PyProof.Rows
set_option Elab.async false
set_option maxRecDepth 100000
namespace Mine
theorem fresh_HeadK : True := by
  w_top off
  trivial
set_option maxHeartbeats 8000000 in
open_top hd for PySem.Challenge.rw_xp0001_01
end Mine

end

section
open PySem PySem.W PySem.Calls PyProof.Rows
set_option Elab.async false
set_option maxRecDepth 100000
set_option maxHeartbeats 400000
namespace Mine
theorem fresh_B0 : True := by
  w_top off
  trivial
abbrev PG : Program := PySem.Challenge.rw_xp0001_01.row.prog
noncomputable abbrev KK (w : World) : Frag := hd.heap_39 w.params

/-- what every heap below the law holds -/
structure Wd (w : World) (h : Heap) : Prop where
  X : (KK w).In h
  T : ∃ mg mb, TopRead hd.view_39 (looseW hd.view_39 [Str.ofString "_twin_re_1"]) mg mb h

theorem Wd.keeps {w : World} {h h' : Heap} (W : Wd w h) (k : ∀ b o, h.get? b = some o → h'.get? b = some o) : Wd w h' :=
  ⟨W.X.keeps k, let ⟨mg, mb, T⟩ := W.T; ⟨mg, mb, T.keeps k⟩⟩
theorem Wd.nolimit {w : World} {h : Heap} (W : Wd w h) : h.NoLimit := let ⟨_, _, T⟩ := W.T; T.nolimit

theorem keeps_refl (s : Shared) : Keeps s s := ⟨s.heap, s.toks, rfl, fun _ _ e => e⟩
theorem keeps_tok (s : Shared) (t : Nat) : Keeps s { s with toks := t } := ⟨s.heap, t, rfl, fun _ _ e => e⟩
theorem Keeps.trans {s s' s'' : Shared} (x : Keeps s s') (y : Keeps s' s'') : Keeps s s'' := by
  obtain ⟨h, t, rfl, k⟩ := x
  obtain ⟨h', t', rfl, k'⟩ := y
  exact ⟨h', t', rfl, fun b o e => k' b o (k b o e)⟩

/-- room for k more frames -/
structure Rm (k : Nat) (A : Around) : Prop where
  hh : A.handled = none
  dp : A.depth + k < 900
  un : A.units + 10 * k < 9000
theorem Rm.deeper {k : Nat} {A : Around} {e : Env} (r : Rm (k + 1) A) : Rm k (A.deeper e) := ⟨r.hh, by have := r.dp; show A.depth + 1 + k < 900; omega, by have := r.un; show A.units + 3 + 10 * k < 9000; omega⟩
theorem Rm.tail {k : Nat} {A : Around} (r : Rm (k + 1) A) : Rm k A := ⟨r.hh, by have := r.dp; omega, by have := r.un; omega⟩
theorem Rm.room {k : Nat} {A : Around} (r : Rm k A) : A.depth < recursionLimit := by have := r.dp; show A.depth < 1000; omega
theorem Rm.units {k : Nat} {A : Around} (r : Rm k A) : A.units < cLine := by have := r.un; show A.units < 9900; omega

/-- a call of a def of the text: its frame laid, its body run -/
theorem call_def {w : World} {A : Around} {s : Shared} {f : Addr} {vals : List Value} {Q : Value → Shared → Prop} {E : Value → Shared → Prop}
    {name qual : Str} {params : Arguments} {body : List Stmt} {scope : Scope} {dV kV doc pm cdv ct oc : Value} {an od : Option Addr} {osl : Array (Option Value)} (binds : List (Str × Value))
    (W : Wd w s.heap) (ho : (KK w).lookup f = some ⟨oc, od, .func (fnOf name qual params body scope dV kV doc pm an cdv ct), osl⟩) (hcd : codeIn (KK w) cdv qual = true)
    (hroom : A.depth < recursionLimit) (hbind : bindArgs (fnOf name qual params body scope dV kV doc pm an cdv ct) ⟨vals, []⟩ = pure binds) (hloc : ∀ y ∈ binds, scope.names.lookup y.1 = some .local)
    (hcell : ∀ x ∈ scope.names, x.2 ≠ .cell)
    (h : ∀ h₁ tk, Fr s.heap s.heap.objs.size h₁ (fun y => binds.reverse.lookup y) → Wd w s.heap →
      wpAny (model PG w) (A.deeper (envOf qual scope s.heap.objs.size f cdv)) (execs body (envOf qual scope s.heap.objs.size f cdv))
        (fun fl s' => Q (match fl with | .ret v => v | _ => .none) s') (fun _ _ => False) { s with heap := h₁, toks := tk })
    (hco : scope.isCoroutine = false) (hgen : scope.isGenerator = false) (hk : scope.kind = .function) :
    wpAny (model PG w) A (call (.ref f) vals []) Q E s := by
  refine wpAny_call (codeAny_call_def (fd := fnOf name qual params body scope dV kV doc pm an cdv ct) (body := body) (binds := binds) hroom (W.X _ _ ho) rfl W.nolimit (codeRec_of W.X hcd) rfl (BindsTo.of_eq hbind) hcell hloc (fun h₁ hns hk₁ => ?_) hco hgen hk)
  exact wpAny_mono (h h₁ _ ⟨hns, hk₁, Nat.le_refl _⟩ W) (fun fl s' q => q) fun _ _ e => e.elim

theorem c_neg {w : World} {A : Around} {s : Shared} {i : Int} {t : Tok} {Q : Value → Shared → Prop} {E : Value → Shared → Prop} (R : Rm 1 A) (W : Wd w s.heap)
    (hq : ∀ t' s', Keeps s s' → Q (.int (-i) t') s') : wpAny (model PG w) A (call (.ref 52) [.int i t] []) Q E s := by
  refine call_def [(Str.ofString "a", .int i t)] W rfl (by rfl) R.room (by rfl) (locs rfl) (by decide) (fun h₁ tk F W => ?_) rfl rfl rfl
  repeat walk1
  exact hq _ _ ⟨_, _, rfl, fun b o e => F.keep b o e⟩

theorem c_iadd {w : World} {A : Around} {s : Shared} {i j : Int} {t u : Tok} {Q : Value → Shared → Prop} {E : Value → Shared → Prop} (R : Rm 1 A) (W : Wd w s.heap)
    (hq : ∀ t' s', Keeps s s' → Q (.int (i + j) t') s') : wpAny (model PG w) A (call (.ref 59) [.int i t, .int j u] []) Q E s := by
  refine call_def [(Str.ofString "a", .int i t), (Str.ofString "b", .int j u)] W rfl (by rfl) R.room (by rfl) (locs rfl) (by decide) (fun h₁ tk F W => ?_) rfl rfl rfl
  repeat walk1
  rename Fr _ _ _ _ => F'
  exact hq _ _ ⟨_, _, rfl, fun b o e => F'.keep b o e⟩

theorem c_imul {w : World} {A : Around} {s : Shared} {i j : Int} {t u : Tok} {Q : Value → Shared → Prop} {E : Value → Shared → Prop} (R : Rm 1 A) (W : Wd w s.heap)
    (hj : Builtin.Int.intBits j ≤ 64)
    (hq : ∀ t' s', Keeps s s' → Q (.int (i * j) t') s') : wpAny (model PG w) A (call (.ref 66) [.int i t, .int j u] []) Q E s := by
  refine call_def [(Str.ofString "a", .int i t), (Str.ofString "b", .int j u)] W rfl (by rfl) R.room (by rfl) (locs rfl) (by decide) (fun h₁ tk F W => ?_) rfl rfl rfl
  repeat walk1
  rename Fr _ _ _ _ => F'
  exact hq _ _ ⟨_, _, rfl, fun b o e => F'.keep b o e⟩

/-! tables of ints under ints -/
def lk (t : List (Int × Int)) (k : Int) : Option Int := (t.find? fun p => p.1 = k).map (·.2)
def put (t : List (Int × Int)) (k x : Int) : List (Int × Int) :=
  if t.any (fun p => p.1 = k) then t.map (fun p => if p.1 = k then (p.1, x) else p) else t ++ [(k, x)]
inductive TbR : List (Int × Value) → List (Int × Int) → Prop
  | nil : TbR [] []
  | cons {k x : Int} {tk : Tok} {kvs t} : TbR kvs t → TbR ((k, .int x tk) :: kvs) ((k, x) :: t)
theorem TbR.length {kvs t} (h : TbR kvs t) : kvs.length = t.length := by
  induction h with
  | nil => rfl
  | cons _ ih => simp [ih]
theorem TbR.keys {kvs t} (h : TbR kvs t) : kvs.map (·.1) = t.map (·.1) := by
  induction h with
  | nil => rfl
  | cons _ ih => simp [ih]
theorem TbR.get {kvs t} (h : TbR kvs t) : ∀ {i : Nat} {k : Int} {v : Value}, kvs[i]? = some (k, v) → ∃ x tk, t[i]? = some (k, x) ∧ v = .int x tk := by
  induction h with
  | nil => intro i k v e; simp at e
  | @cons k' x' tk' kvs t _ ih =>
    intro i k v e
    cases i with
    | zero => simp at e; obtain ⟨rfl, rfl⟩ := e; exact ⟨x', tk', by simp, rfl⟩
    | succ i => simp at e; simpa using ih e
theorem TbR.valueAt {kvs t} (h : TbR kvs t) (k : Int) : (lk t k = none ∧ valueAt kvs k = none) ∨ ∃ x tk, lk t k = some x ∧ valueAt kvs k = some (.int x tk) := by
  induction h with
  | nil => exact .inl ⟨rfl, rfl⟩
  | @cons k' x' tk' kvs t _ ih =>
    simp only [lk, PySem.valueAt, List.find?_cons] at ih ⊢
    by_cases hk : k' = k
    · simp only [hk, decide_true, Option.map_some]
      exact .inr ⟨x', tk', rfl, rfl⟩
    · simp only [hk, decide_false]
      exact ih
theorem TbR.append {kvs t kvs' t'} (h : TbR kvs t) (h' : TbR kvs' t') : TbR (kvs ++ kvs') (t ++ t') := by
  induction h with
  | nil => exact h'
  | cons _ ih => exact .cons ih
theorem TbR.stored {kvs t} (h : TbR kvs t) (k x : Int) (tk : Tok) : TbR (stored kvs k (.int x tk)) (put t k x) := by
  have hany : kvs.any (fun kv => kv.1 = k) = t.any (fun p => p.1 = k) := by
    induction h with
    | nil => rfl
    | cons _ ih => simp only [List.any_cons, ih]
  have hmap : TbR (kvs.map fun kv => if kv.1 = k then (kv.1, .int x tk) else kv) (t.map fun p => if p.1 = k then (p.1, x) else p) := by
    clear hany
    induction h with
    | nil => exact .nil
    | @cons k' x' tk' kvs t _ ih =>
      simp only [List.map_cons]
      by_cases hk : k' = k
      · simp only [hk, if_true]; exact .cons ih
      · simp only [hk, if_false]; exact .cons ih
  unfold PySem.stored put
  rw [hany]
  split
  · exact hmap
  · exact h.append (.cons .nil)
theorem put_length_le (t : List (Int × Int)) (k x : Int) : (put t k x).length ≤ t.length + 1 := by
  unfold put; split <;> simp

/-- a dict of ints under ints -/
def IsTb (w : World) (h : Heap) (d : Addr) (t : List (Int × Int)) : Prop := ∃ kvs, h.DictOf (PySem.intKind PG w) d kvs ∧ TbR kvs t ∧ (d == sysModules) = false
theorem IsTb.keeps {w : World} {h h' : Heap} {d : Addr} {t} (x : IsTb w h d t) (k : ∀ b o, h.get? b = some o → h'.get? b = some o) : IsTb w h' d t :=
  let ⟨kvs, a, b, c⟩ := x; ⟨kvs, a.at fun o e => k d o e, b, c⟩

section
variable {w : World} {A : Around} {E : Value → Shared → Prop} {s : Shared} {env : Env} {h₀ : Heap} {L : Addr} {m : Str → Option Value} {x : Str} {pos : Pos} {v : Value} {Q : Value → Shared → Prop}
/-- a name of the builtins -/
theorem nmB (hk : env.scope.kind = .function) (hx : env.kindOf x = some .globalImplicit) (hv : bootBuiltins x = some v) (hg : env.globals = mainGlobals) (hb : env.builtins = builtinsNs) (hd : (x == ("__debug__" : Str)) = false) (hn : x ≠ "__name__")
    (e : nsIn (KK w) mainGlobals x = some none) (W : Wd w s.heap) (h : Q v s) :
    wpAny (model PG w) A (eval (.Name x pos) env) Q E s := by
  obtain ⟨mg, mb, T⟩ := W.T
  exact Name_function_global hk hx (loadGlobal_builtin (hg ▸ T.g) (mg_none_of W.X T.g e) (hb ▸ T.b) ((T.builtins x hn).trans hv) h) hd
/-- a name of the text's top -/
theorem nmG (hk : env.scope.kind = .function) (hx : env.kindOf x = some .globalImplicit) (hg : env.globals = mainGlobals) (hd : (x == ("__debug__" : Str)) = false) (e : nsIn (KK w) mainGlobals x = some (some v)) (W : Wd w s.heap) (h : Q v s) :
    wpAny (model PG w) A (eval (.Name x pos) env) Q E s := by
  obtain ⟨mg, mb, T⟩ := W.T
  exact Name_function_global hk hx (loadGlobal_global (hg ▸ T.g) (mg_of W.X T.g e) h) hd
/-- a local name -/
theorem nmL (hk : env.scope.kind = .function) (hx : env.kindOf x = some .local) (hd : (x == ("__debug__" : Str)) = false) (hn : s.heap.Ns L m) (hL : env.locals = L) (hv : m x = some v) (h : Q v s) :
    wpAny (model PG w) A (eval (.Name x pos) env) Q E s := wpAny_Name (wpAny_loadName_local hk hx (hL ▸ hn) hv h) hd
theorem nmLd {Q : Value → Shared → Prop} (hk : env.scope.kind = .function) (hx : env.kindOf x = some .local) (hn : s.heap.Ns L m) (hL : env.locals = L) (hv : m x = some v) (h : Q v s) :
    wpAny (model PG w) A (loadName env x) Q E s := wpAny_loadName_local hk hx (hL ▸ hn) hv h
/-- a cell's name -/
theorem nmC {c : Addr} (hk : env.scope.kind = .function) (hx : env.kindOf x = some .cell) (hd : (x == ("__debug__" : Str)) = false) (hc : env.cells.lookup x = some c) (hv : s.heap.IsCell c (some v)) (h : Q v s) :
    wpAny (model PG w) A (eval (.Name x pos) env) Q E s := wpAny_Name (wpAny_loadName_cell hk hx hc hv h) hd
/-- a call of a def of the text: its arguments -/
theorem callF {f : Value} {e : Expr} {rest : List Expr} (W : Wd w s.heap) (hk : keepIn (KK w) f = true)
    (h : wpAny (model PG w) A (spliced (backTo pos (starEach (e :: rest) env))) (fun vs s₁ => (KK w).In s₁.heap ∧ wpAny (model PG w) A (call f vs) Q E s₁) E s)
    (he : starEach (e :: rest) env = (false, eval e env) :: starEach rest env) (hplain : (backTo pos (starEach rest env)).any (·.1) = false) :
    wpAny (model PG w) A (callWith pos f [] (backTo pos (starEach (e :: rest) env)) []) Q E s :=
  callWith_K (h₀ := s.heap) (first := []) W.X hk h he hplain
end

/-- a call of a def of the text with cells -/
theorem call_defC {w : World} {A : Around} {s : Shared} {f : Addr} {vals : List Value} {Q : Value → Shared → Prop} {E : Value → Shared → Prop}
    {name qual : Str} {params : Arguments} {body : List Stmt} {scope : Scope} {dV kV doc pm cdv ct oc : Value} {an od : Option Addr} {osl : Array (Option Value)} (binds : List (Str × Value))
    (W : Wd w s.heap) (ho : (KK w).lookup f = some ⟨oc, od, .func (fnOf name qual params body scope dV kV doc pm an cdv ct), osl⟩) (hcd : codeIn (KK w) cdv qual = true)
    (hroom : A.depth < recursionLimit) (hbind : bindArgs (fnOf name qual params body scope dV kV doc pm an cdv ct) ⟨vals, []⟩ = pure binds)
    (hkind : (binds.all fun y => scope.names.lookup y.1 == some .local || scope.names.lookup y.1 == some .cell) = true)
    (h : ∀ h₁ tk, Fr s.heap s.heap.objs.size h₁ (bindL (envOfC qual scope s.heap.objs.size f cdv).kindOf binds fun _ => none) → Cl s.heap.objs.size (cellsFrom (s.heap.objs.size + 1) scope.names []) h₁ (bindC (envOfC qual scope s.heap.objs.size f cdv).kindOf binds fun _ => none) → Wd w s.heap →
      wpAny (model PG w) (A.deeper (envOfC qual scope s.heap.objs.size f cdv)) (execs body (envOfC qual scope s.heap.objs.size f cdv))
        (fun fl s' => Q (match fl with | .ret v => v | _ => .none) s') (fun _ _ => False) { s with heap := h₁, toks := tk })
    (hco : scope.isCoroutine = false) (hgen : scope.isGenerator = false) (hk : scope.kind = .function) :
    wpAny (model PG w) A (call (.ref f) vals []) Q E s := by
  refine wpAny_call (codeAny_call_cells (fd := fnOf name qual params body scope dV kV doc pm an cdv ct) (body := body) (binds := binds) hroom (W.X _ _ ho) rfl W.nolimit (codeRec_of W.X hcd) rfl hbind rfl (kindsX hkind _) (fun s₁ X => ?_) hco hgen hk)
  obtain ⟨h₁, tk, rfl, _⟩ := X.done
  exact wpAny_mono (h h₁ tk ⟨X.toInCall.ns, X.toInCall.keep, X.toInCall.fresh⟩ ⟨X.cell, X.apart, X.above⟩ W) (fun fl s' q => q) fun _ _ e => e.elim
end Mine

end

section
open PySem PySem.W PySem.Calls PyProof.Rows
set_option Elab.async false
set_option maxRecDepth 100000
set_option maxHeartbeats 400000
namespace Mine
theorem fresh_B1 : True := by
  w_top off
  trivial
variable {w : World} {A : Around} {E : Value → Shared → Prop} {s : Shared} {env : Env} {h₀ : Heap} {target : Expr} {body : List Stmt} {Q : Flow → Shared → Prop}

/-- the end of a turn: the frame, the turn's own objects and the carried ones; each carried one is an elder one or new -/
def StepE (h₀ : Heap) (L : Addr) (own : List (Addr × Obj)) (old : List Addr) (h₁ : Heap) (J : (Str → Option Value) → List (Addr × Obj) → Prop) (s₁ : Shared) (s₂ : Shared) : Prop :=
  ∃ h' tk m' news', s₂ = { s₁ with heap := h', toks := tk } ∧ Fr h₀ L h' m' ∧ News h₀ L h' (own ++ news') ∧ (∀ p ∈ news', p.1 ∈ old ∨ h₁.get? p.1 = none ∨ ∀ q ∈ own, q.1 ≠ p.1) ∧ J m' news'
def StepJ (h₀ : Heap) (L : Addr) (own : List (Addr × Obj)) (old : List Addr) (h₁ : Heap) (J : (Str → Option Value) → List (Addr × Obj) → Prop) (s₁ : Shared) (Q : Flow → Shared → Prop) (f : Flow) (s₂ : Shared) : Prop :=
  match f with
  | .ret v => Q (.ret v) s₂
  | .brk => Q .next s₂
  | _ => StepE h₀ L own old h₁ J s₁ s₂

theorem turnsJ {I : Addr} {fp wr : List Addr} {n : Nat} {P Md : Nat → Value → Heap → Prop} {St : Nat → Heap → Prop} {m : Str → Option Value} {news : List (Addr × Obj)}
    (W : KTurns PG w A target I fp wr n P Md St) (alive : ∀ i h, St i h → ∀ b ∈ wr, ∃ o, h.get? b = some o)
    (hLf : env.locals ∉ fp) (hwr : ∀ b ∈ wr, h₀.get? b = none) (hnw : ∀ p ∈ news, p.1 ∉ wr) (hst : St 0 s.heap) (F : Fr h₀ env.locals s.heap m) (N : News h₀ env.locals s.heap news)
    (J : Nat → (Str → Option Value) → List (Addr × Obj) → Prop) (h0 : J 0 m news)
    (step : ∀ i v m₁ news₁ h₁ tk₁ own, i < n → P i v h₁ → J i m₁ news₁ → (∀ p ∈ own, p.1 ∈ fp) → (∀ q ∈ news₁, q.1 ∉ wr) → Fr h₀ env.locals h₁ m₁ → News h₀ env.locals h₁ (own ++ news₁) →
      wpAny (model PG w) A (assign target env v) (fun _ s₃ => wpAny (model PG w) A (execs body env)
        (StepJ h₀ env.locals own (news₁.map (·.1)) h₁ (J (i + 1)) { s with heap := h₁, toks := tk₁ } Q) E s₃) E { s with heap := h₁, toks := tk₁ })
    (done : ∀ h' tk m' news', Fr h₀ env.locals h' m' → News h₀ env.locals h' news' → J n m' news' → Q .next { s with heap := h', toks := tk }) :
    TurnsAt PG w A h₀ env target body Q E (.ref I) s := by
  refine ⟨I, fp, wr, n, P, Md, St, m, news, J, rfl, W, hLf, hwr, hnw, hst, F, N, h0, ?_, fun h' tk m' news' F' N' _ j => done h' tk m' news' F' N' j⟩
  intro i v m₁ news₁ h₁ tk₁ own hi hP hJ hoff hown _ hfull hst₁ F₁ N₁
  refine wpAny_mono (step i v m₁ news₁ h₁ tk₁ own hi hP hJ hown hoff F₁ N₁) (fun _ s₃ h₃ => wpAny_mono h₃ (fun f s₄ h₄ => ?_) fun _ _ e => e) fun _ _ e => e
  have fin : StepE h₀ env.locals own (news₁.map (·.1)) h₁ (J (i + 1)) { s with heap := h₁, toks := tk₁ } s₄ → LoopStepU h₀ env.locals wr own (J (i + 1)) { s with heap := h₁, toks := tk₁ } .next s₄ := by
    rintro ⟨h', tk, m', news', rfl, F', N', hf, hJ'⟩
    refine ⟨rfl, h', tk, m', news', rfl, F', N', fun p hp hw => ?_, hJ'⟩
    rcases hf p hp with ho | ho | ho
    · obtain ⟨q, hq, e⟩ := List.mem_map.mp ho
      exact hoff q hq (e ▸ hw)
    · obtain ⟨o, e⟩ := alive _ _ hst₁ _ hw
      rw [e] at ho; cases ho
    · obtain ⟨o, e⟩ := alive _ _ hst₁ _ hw
      exact ho _ (hfull _ (W.sub _ hw) (hwr _ hw) _ e) rfl
  cases f with
  | ret v => exact .ret h₄
  | brk => exact .brk h₄
  | next => exact .next (fin h₄)
  | cont => exact .cont (fin h₄)

/-- the same behind a store of one name -/
theorem asg_name {x : Str} {px : Pos} {v : Value} {m₁ : Str → Option Value} {news₁ own : List (Addr × Obj)} {h₁ : Heap} {tk₁ : Tok} {J : (Str → Option Value) → List (Addr × Obj) → Prop}
    (hx : env.kindOf x = some .local) (hk : env.scope.kind = .function)
    (F : Fr h₀ env.locals h₁ m₁) (N : News h₀ env.locals h₁ (own ++ news₁))
    (h : ∀ h₂ tk₂, Fr h₀ env.locals h₂ (fun y => if y = x then some v else m₁ y) → News h₀ env.locals h₂ (own ++ news₁) →
      wpAny (model PG w) A (execs body env) (StepJ h₀ env.locals own (news₁.map (·.1)) h₂ J { s with heap := h₂, toks := tk₂ } Q) E { s with heap := h₂, toks := tk₂ }) :
    wpAny (model PG w) A (assign (.Name x px) env v) (fun _ s₃ => wpAny (model PG w) A (execs body env)
        (StepJ h₀ env.locals own (news₁.map (·.1)) h₁ J { s with heap := h₁, toks := tk₁ } Q) E s₃) E { s with heap := h₁, toks := tk₁ } := by
  refine wpAny_assign_Name (wpAny_storeName_local hx F.ns (fun h₂ hn hs => ?_) (by rw [hk]; rfl))
  refine wpAny_mono (h h₂ _ (F.set hn hs) (N.set hs)) (fun f s₄ h₄ => ?_) fun _ _ e => e
  have fin : StepE h₀ env.locals own (news₁.map (·.1)) h₂ J { s with heap := h₂, toks := tk₁ + 1 } s₄ → StepE h₀ env.locals own (news₁.map (·.1)) h₁ J { s with heap := h₁, toks := tk₁ } s₄ := by
    rintro ⟨h', tk, m', news', rfl, F', N', hf, hJ'⟩
    refine ⟨h', tk, m', news', rfl, F', N', fun p hp => (hf p hp).imp id (fun e => e.imp (fun e => ?_) id), hJ'⟩
    have hne : p.1 ≠ env.locals := (N' p (List.mem_append_right _ hp)).2.1
    exact (hs.2 _ hne).symm.trans e
  cases f with
  | ret v => exact h₄
  | brk => exact h₄
  | next => exact fin h₄
  | cont => exact fin h₄

/-- the same behind two names out of a tuple -/
theorem asg_pair {x x' : Str} {px px' pt : Pos} {k : Nat} {T : Addr} {v v' : Value} {m₁ : Str → Option Value} {news₁ own : List (Addr × Obj)} {h₁ : Heap} {tk₁ : Tok} {J : (Str → Option Value) → List (Addr × Obj) → Prop}
    (hh : A.handled = none) (hT : h₁.IsTuple T #[v, v'])
    (hx : env.kindOf x = some .local) (hx' : env.kindOf x' = some .local) (hk : env.scope.kind = .function)
    (F : Fr h₀ env.locals h₁ m₁) (N : News h₀ env.locals h₁ (own ++ news₁))
    (h : ∀ h₂ tk₂, Fr h₀ env.locals h₂ (fun y => if y = x' then some v' else if y = x then some v else m₁ y) → News h₀ env.locals h₂ (own ++ news₁) →
      wpAny (model PG w) A (execs body env) (StepJ h₀ env.locals own (news₁.map (·.1)) h₂ J { s with heap := h₂, toks := tk₂ } Q) E { s with heap := h₂, toks := tk₂ }) :
    wpAny (model PG w) A (assign (.Tuple [.Name x px, .Name x' px'] k pt) env (.ref T)) (fun _ s₃ => wpAny (model PG w) A (execs body env)
        (StepJ h₀ env.locals own (news₁.map (·.1)) h₁ J { s with heap := h₁, toks := tk₁ } Q) E s₃) E { s with heap := h₁, toks := tk₁ } := by
  refine wpAny_assign_Tuple hh hT rfl rfl fun h₃ hx₃ => ?_
  have F₃ : Fr h₀ env.locals h₃ m₁ := F.extBut hx₃ (Nat.le_refl _)
  have N₃ : News h₀ env.locals h₃ (own ++ news₁) := N.extBut hx₃ (Nat.le_refl _)
  show wpAny _ _ (do holding [v'] (assign (.Name x px) env v); do holding [] (assign (.Name x' px') env v'); pure ()) _ _ _
  refine wpAny_bind (wpAny_holding (wpAny_assign_Name (wpAny_storeName_local hx F₃.ns (fun h₄ hn₄ hs₄ => ?_) (by rw [hk]; rfl))))
  have F₄ := F₃.set hn₄ hs₄
  refine wpAny_bind (wpAny_holding (wpAny_assign_Name (wpAny_storeName_local hx' F₄.ns (fun h₅ hn₅ hs₅ => wpAny_pure ?_) (by rw [hk]; rfl))))
  have F₅ := F₄.set hn₅ hs₅
  refine wpAny_mono (h h₅ _ F₅ ((N₃.set hs₄).set hs₅)) (fun f s₆ h₆ => ?_) fun _ _ e => e
  have fin : ∀ tk, StepE h₀ env.locals own (news₁.map (·.1)) h₅ J { s with heap := h₅, toks := tk } s₆ → StepE h₀ env.locals own (news₁.map (·.1)) h₁ J { s with heap := h₁, toks := tk₁ } s₆ := by
    rintro _ ⟨h', tk, m', news', rfl, F', N', hf, hJ'⟩
    refine ⟨h', tk, m', news', rfl, F', N', fun p hp => (hf p hp).imp id (fun e => e.imp (fun e => ?_) id), hJ'⟩
    have hne : p.1 ≠ env.locals := (N' p (List.mem_append_right _ hp)).2.1
    have e₃ : h₃.get? p.1 = none := (hs₄.2 _ hne).symm.trans ((hs₅.2 _ hne).symm.trans e)
    cases q : h₁.get? p.1 with
    | none => rfl
    | some o =>
      have : p.1 ≠ h₁.objs.size := Nat.ne_of_lt (Heap.lt_size q)
      rw [hx₃ _ o this q] at e₃; cases e₃
  cases f with
  | ret v => exact h₆
  | brk => exact h₆
  | next => exact fin _ h₆
  | cont => exact fin _ h₆

/-- a dict object of ints under ints -/
def ObTb (w : World) (o : Obj) (t : List (Int × Int)) : Prop := ∃ kvs, o.IsDictOf (PySem.intKind PG w) kvs ∧ TbR kvs t
theorem ObTb.isTb {h : Heap} {d : Addr} {o : Obj} {t} (x : ObTb w o t) (e : h.get? d = some o) (lo : (d == sysModules) = false) : IsTb w h d t :=
  let ⟨kvs, a, b⟩ := x; ⟨kvs, Heap.dictOf_iff.mpr ⟨o, e, a⟩, b, lo⟩

theorem set_tb {L D : Addr} {m : Str → Option Value} {own post : List (Addr × Obj)} {o : Obj} {t : List (Int × Int)} {k x : Int} {tk tk' : Tok} {Q : Unit → Shared → Prop}
    (F : Fr h₀ L s.heap m) (N : News h₀ L s.heap (own ++ (D, o) :: post)) (h1 : ∀ p ∈ own, p.1 ≠ D) (h2 : ∀ p ∈ post, p.1 ≠ D) (hd : ObTb w o t) (hz : t.length ≤ 1000000)
    (h : ∀ h' o', Fr h₀ L h' m → News h₀ L h' (own ++ (D, o') :: post) → ObTb w o' (put t k x) → Q () { s with heap := h', toks := s.toks + 1 }) :
    wpAny (model PG w) A (setItem (.ref D) (.int k tk) (.int x tk')) Q E s := by
  obtain ⟨kvs, hd, hT⟩ := hd
  have hm := N (D, o) (List.mem_append_right _ (.head _))
  refine wpAny_setItem_pairs (hsz := by rw [hT.length, sizeLine_eq]; omega) (intKind_is PG w k tk) (Heap.dictOf_iff.mpr ⟨o, hm.1, hd⟩) fun h' hmm hs => ?_
  obtain ⟨o', ho', hd'⟩ := Heap.dictOf_iff.mp hmm
  exact h h' o' (F.change hs hm.2.1 hm.2.2) (N.setIn h1 h2 hs ho') ⟨_, hd', hT.stored k x tk'⟩

/-- a for over the items of a table that stood before the call -/
theorem for_items {o : Expr} {apos cpos pos pt pk pv : Pos} {x x' : Str} {kk : Nat} {d : Addr} {t : List (Int × Int)} {m : Str → Option Value} {news : List (Addr × Obj)}
    (hh : A.handled = none) (F : Fr h₀ env.locals s.heap m) (N : News h₀ env.locals s.heap news) (hd : IsTb w h₀ d t)
    (hbase : attributeBase o "items" env (eval o env) = eval o env) (hline : (apos.endLine == cpos.line) = true)
    (ho : ∀ Q', Q' (.ref d) s → wpAny (model PG w) A (eval o env) Q' E s)
    (hx : env.kindOf x = some .local) (hx' : env.kindOf x' = some .local) (hk : env.scope.kind = .function)
    (J : Nat → (Str → Option Value) → List (Addr × Obj) → Prop) (h0 : J 0 m news)
    (step : ∀ i a b tka tkb m₁ news₁ h₁ tk₁ own, t[i]? = some (a, b) → J i m₁ news₁ → (∀ p ∈ own, ∀ q ∈ news₁, p.1 ≠ q.1) → Fr h₀ env.locals h₁ (fun y => if y = x' then some (.int b tkb) else if y = x then some (.int a tka) else m₁ y) → News h₀ env.locals h₁ (own ++ news₁) →
      wpAny (model PG w) A (execs body env) (StepJ h₀ env.locals own (news₁.map (·.1)) h₁ (J (i + 1)) { s with heap := h₁, toks := tk₁ } Q) E { s with heap := h₁, toks := tk₁ })
    (done : ∀ h' tk m' news', Fr h₀ env.locals h' m' → News h₀ env.locals h' news' → J t.length m' news' → Q .next { s with heap := h', toks := tk })
    (hs : ∀ x, foldedSetIterable (.Call (.Attribute o "items" apos) [] [] cpos) env x = pure x := by intro _; rfl)
    (hE : PassesOwn (model PG w) A env E := by passes_own) :
    wpAny (model PG w) A (exec (.For (.Tuple [.Name x pk, .Name x' pv] kk pt) (.Call (.Attribute o "items" apos) [] [] cpos) body [] pos) env) Q E s := by
  obtain ⟨kvs, hD, hT, lo⟩ := hd
  have hDs : s.heap.DictOf (PySem.intKind PG w) d kvs := hD.at fun o e => F.keep d o e
  have hdlt : d < h₀.objs.size := by obtain ⟨_, _, _, e, _⟩ := hD; exact Heap.lt_size e
  refine For_turns F (wpAny_Call_items lo hDs hbase hline ho ?_) hs hE
  have F₁ := F.push (o := { cls := .type "dict_items", data := .fields #[.ref d] })
  obtain ⟨ep, hat⟩ := (hDs.at (h' := s.heap.push { cls := .type "dict_items", data := .fields #[.ref d] }) fun o e => Heap.get?_push_of_some _ e).dictAt
  refine wpAny_pyIter_items (knd := PySem.intKind PG w) (d := d) (kvs := kvs) (ep := ep) ⟨_, Heap.get?_push_size _ rfl, rfl, rfl⟩ hat ?_
  generalize hH : s.heap.push { cls := .type "dict_items", data := .fields #[.ref d] } = H at F₁ hat
  have N₁ : News h₀ env.locals H news := hH ▸ fun p hp => ⟨Heap.get?_push_of_some _ (N p hp).1, (N p hp).2⟩
  have F₂ := F₁.push (o := { cls := .type "dict_itemiterator", data := .fields #[.none, .bool false, .ref d, .int 0 0, .int kvs.length 0, .int ep 0, .none, .none] })
  have N₂ : News h₀ env.locals (H.push { cls := .type "dict_itemiterator", data := .fields #[.none, .bool false, .ref d, .int 0 0, .int kvs.length 0, .int ep 0, .none, .none] }) news :=
    fun p hp => ⟨Heap.get?_push_of_some _ (N₁ p hp).1, (N₁ p hp).2⟩
  have hlen : kvs.length = t.length := hT.length
  have hnone : h₀.get? H.objs.size = none := by
    cases q : h₀.get? H.objs.size with
    | none => rfl
    | some o => exact absurd (Heap.lt_size (F₁.keep _ _ q)) (Nat.lt_irrefl _)
  have hLlt : env.locals < H.objs.size := F₁.ns.lt
  have hdH : d < H.objs.size := Nat.lt_of_lt_of_le (Nat.lt_of_lt_of_le hdlt F.above) (Nat.le_of_lt hLlt)
  refine turnsJ (kti_itemsTurns (knd := PySem.intKind PG w) hh H.objs.size d (Nat.ne_of_lt hdH) kvs ep) ?_ ?_ ?_ ?_ ⟨⟨.none, .none, Heap.get?_push_size _ rfl⟩, hat.push _⟩ F₂ N₂ J h0 ?_ ?_
  · rintro i h ⟨⟨ok, ov, e⟩, _⟩ b hb
    rw [List.mem_singleton.mp hb]; exact ⟨_, e⟩
  · intro hm
    rcases List.mem_cons.mp hm with e | hm
    · exact absurd hLlt (e ▸ Nat.lt_irrefl _)
    · exact absurd (Nat.lt_of_lt_of_le hdlt F.above) ((List.mem_singleton.mp hm) ▸ Nat.lt_irrefl _)
  · intro b hb; rw [List.mem_singleton.mp hb]; exact hnone
  · intro p hp hb
    have := Heap.lt_size (N₁ p hp).1
    rw [List.mem_singleton.mp hb] at this; exact Nat.lt_irrefl _ this
  · rintro i v m₁ news₁ h₁ tk₁ own hi ⟨T, key, k, xv, rfl, hget, hkey, hTup⟩ hJ hown hoff F' N'
    have hap : ∀ p ∈ own, ∀ q ∈ news₁, p.1 ≠ q.1 := by
      intro p hp q hq e
      rcases List.mem_cons.mp (hown p hp) with e' | hm
      · exact hoff q hq (by rw [← e, e']; exact List.mem_singleton.mpr rfl)
      · have hf := (N' q (List.mem_append_right _ hq)).2.2
        obtain ⟨_, _, _, e2, _⟩ := hD
        rw [← e, List.mem_singleton.mp hm, e2] at hf; cases hf
    obtain ⟨b, tkb, ht, rfl⟩ := hT.get hget
    obtain ⟨tka, rfl⟩ := Value.isInt_shape hkey
    exact asg_pair hh hTup hx hx' hk F' N' fun h₂ tk₂ F'' N'' => step i k b tka tkb m₁ news₁ h₂ tk₂ own ht hJ hap F'' N''
  · intro h' tk m' news' F' N' hJ
    rw [hlen] at hJ
    exact done h' tk m' news' F' N' hJ
end Mine

end

section
open PySem PySem.W PySem.Calls PyProof.Rows
set_option Elab.async false
set_option maxRecDepth 100000
set_option maxHeartbeats 400000
namespace Mine
theorem fresh_B2 : True := by
  w_top off
  trivial
local macro_rules | `(tactic| walk_at "eval Name") => `(tactic| first
  | (with_unfolding_all refine nmL (by rfl) (by rfl) (by decide) (by first | with_reducible assumption | exact Fr.ns (by with_reducible assumption)) (by rfl) (by first | rfl | assumption) ?_)
  | (with_unfolding_all refine nmC (by rfl) (by rfl) (by decide) (by rfl) (by first | with_reducible assumption | assumption) ?_)
  | (with_unfolding_all refine nmG (by rfl) (by rfl) (by rfl) (by decide) (by rfl) (by first | with_reducible assumption | exact Wd.keeps (by with_reducible assumption) (Fr.keep (by with_reducible assumption))) ?_)
  | (with_unfolding_all refine nmB (by rfl) (by rfl) (by boot_by_name) (by rfl) (by rfl) (by decide) (by decide) (by rfl) (by first | with_reducible assumption | exact Wd.keeps (by with_reducible assumption) (Fr.keep (by with_reducible assumption))) ?_))
local macro_rules | `(tactic| walk_at "loadName") => `(tactic| (with_unfolding_all refine nmLd (by rfl) (by rfl) (by first | with_reducible assumption | exact Fr.ns (by with_reducible assumption)) (by rfl) (by first | rfl | assumption) ?_))
local macro_rules | `(tactic| walk_at "callWith ref") => `(tactic| (with_unfolding_all refine callF (by first | with_reducible assumption | exact Wd.keeps (by with_reducible assumption) (Fr.keep (by with_reducible assumption))) (by rfl) ?_ (by rfl) (by rfl)))
local macro_rules | `(tactic| walk_at "And") => `(tactic| ((with_reducible show Frag.In _ _ ∧ _); refine ⟨by first | exact (Wd.X (by with_reducible assumption)) | exact Wd.X (Wd.keeps (by with_reducible assumption) (Fr.keep (by with_reducible assumption))), ?_⟩; try dsimp only [List.nil_append, List.cons_append]))
local macro_rules | `(tactic| walk_at "mW") => `(tactic| repeat ((fail_if_success (with_reducible show wpAny _ _ (exec (Stmt.For _ _ _ _ _) _) _ _ _)); walk1))
def cp (t : List (Int × Int)) : List (Int × Int) := t.foldl (fun acc p => put acc p.1 p.2) []
def mg1 (acc : List (Int × Int)) (p : Int × Int) : List (Int × Int) := match lk acc p.1 with
  | some x => put acc p.1 (x + p.2)
  | none => put acc p.1 p.2
def mergeC (t t2 : List (Int × Int)) : List (Int × Int) := t2.foldl mg1 (cp t)

theorem take_succ_of {α : Type} {t : List α} {i : Nat} {a : α} (h : t[i]? = some a) : t.take (i + 1) = t.take i ++ [a] := by
  rw [List.take_add_one, h]; rfl
theorem cp_len (l : List (Int × Int)) (n : Nat) (h : l.length ≤ n) : ((l.foldl (fun acc p => put acc p.1 p.2) []).length ≤ n) := by
  have : ∀ (l acc : List (Int × Int)), (l.foldl (fun acc p => put acc p.1 p.2) acc).length ≤ acc.length + l.length := by
    intro l
    induction l with
    | nil => intro acc; simp
    | cons p l ih => intro acc; have h1 := ih (put acc p.1 p.2); have h2 := put_length_le acc p.1 p.2; simp only [List.foldl_cons, List.length_cons]; omega
  have := this l []; simp at this; omega
theorem mg1_len (acc : List (Int × Int)) (p : Int × Int) : (mg1 acc p).length ≤ acc.length + 1 := by
  unfold mg1; split <;> exact put_length_le _ _ _
theorem mergeC_len (l acc : List (Int × Int)) : (l.foldl mg1 acc).length ≤ acc.length + l.length := by
  induction l generalizing acc with
  | nil => simp
  | cons p l ih => have h1 := ih (mg1 acc p); have h2 := mg1_len acc p; simp only [List.foldl_cons, List.length_cons]; omega

theorem c_add {w : World} {A : Around} {s : Shared} {d d2 : Addr} {t t2 : List (Int × Int)} {Q : Value → Shared → Prop} {E : Value → Shared → Prop} (R : Rm 2 A) (W : Wd w s.heap)
    (h1 : IsTb w s.heap d t) (h2 : IsTb w s.heap d2 t2) (sz : t.length + t2.length ≤ 1000000)
    (hq : ∀ r s', Keeps s s' → s.heap.get? r = none → IsTb w s'.heap r (mergeC t t2) → Q (.ref r) s') : wpAny (model PG w) A (call (.ref 38) [.ref d, .ref d2] []) Q E s := by
  refine call_def [(Str.ofString "target", .ref d), (Str.ofString "source", .ref d2)] W rfl (by rfl) R.room (by rfl) (locs rfl) (by decide) (fun h₁ tk F W => ?_) rfl rfl rfl
  have X := W.X
  obtain ⟨mg, mb, T⟩ := W.T
  have N : News s.heap s.heap.objs.size h₁ [] := News.nil
  show wpAny _ _ _ _ _ _
  k_fold
  repeat walk1
  rename_i D _ o lo _ _ hi _ _ h₂ F N
  refine for_items (t := t) R.hh F N h1 rfl rfl (fun Q' hQ' => ld F (by rfl) hQ') rfl rfl rfl
    (fun i m news => m (Str.ofString "new_callers") = some (.ref D) ∧ m (Str.ofString "source") = some (.ref d2) ∧ ∃ o, news = [(D, o)] ∧ ObTb w o ((t.take i).foldl (fun acc p => put acc p.1 p.2) []))
    ⟨rfl, rfl, o, rfl, [], hi, .nil⟩ ?_ ?_
  · rintro i a b tka tkb m₁ news₁ h₃ tk₃ own ht ⟨hm1, hm2, o', rfl, ho'⟩ hap F' N'
    repeat walk1
    refine set_tb F' N' (fun p hp => hap p hp _ (List.mem_singleton.mpr rfl)) (fun _ h => nomatch h) ho' (cp_len _ _ (by rw [List.length_take]; omega)) (fun h' o'' F'' N'' hd'' => ?_)
    repeat walk1
    refine ⟨_, _, _, [(D, o'')], rfl, F'', N'', fun p hp => .inl (by rw [List.mem_singleton.mp hp]; exact List.mem_singleton.mpr rfl), by with_unfolding_all exact hm1, by with_unfolding_all exact hm2, o'', rfl, ?_⟩
    rw [take_succ_of ht, List.foldl_append]; exact hd''
  · rintro h₃ tk₃ m₃ news₃ F₃ N₃ ⟨hm1, hm2, o₃, rfl, ho₃⟩
    rw [List.take_length] at ho₃
    repeat walk1
    refine for_items (t := t2) R.hh F₃ N₃ h2 rfl rfl (fun Q' hQ' => ld F₃ (by with_unfolding_all exact hm2) hQ') rfl rfl rfl
      (fun i m news => m (Str.ofString "new_callers") = some (.ref D) ∧ ∃ o, news = [(D, o)] ∧ ObTb w o ((t2.take i).foldl mg1 (cp t)))
      ⟨hm1, o₃, rfl, ho₃⟩ ?_ ?_
    · rintro i a b tka tkb m₁ news₁ h₄ tk₄ own ht ⟨hm1, o', rfl, ho'⟩ hap F' N'
      repeat walk1
      obtain ⟨kvs, hd, hT⟩ := ho'
      have hD := Heap.dictOf_iff.mpr ⟨o', (N' (D, o') (List.mem_append_right _ (.head _))).1, hd⟩
      refine wpAny_in_of (intKind_is PG w a tka) lo hD.mapOf ?_
      have hz : ((t2.take i).foldl mg1 (cp t)).length ≤ 1000000 := by
        have h1 := mergeC_len (t2.take i) (cp t)
        have h2 : (cp t).length ≤ t.length := cp_len t _ (Nat.le_refl _)
        rw [List.length_take] at h1; omega
      have hs : mg1 ((t2.take i).foldl mg1 (cp t)) (a, b) = (t2.take (i + 1)).foldl mg1 (cp t) := by rw [take_succ_of ht, List.foldl_append]; rfl
      rcases hT.valueAt a with ⟨hl, hv⟩ | ⟨x, tkx, hl, hv⟩
      · rw [hv]
        dsimp only [Option.isSome_none]
        repeat walk1
        refine set_tb F' N' (fun p hp => hap p hp _ (List.mem_singleton.mpr rfl)) (fun _ h => nomatch h) ⟨kvs, hd, hT⟩ hz (fun h' o'' F'' N'' hd'' => ?_)
        repeat walk1
        refine ⟨_, _, _, [(D, o'')], rfl, F'', N'', fun p hp => .inl (by rw [List.mem_singleton.mp hp]; exact List.mem_singleton.mpr rfl), by with_unfolding_all exact hm1, o'', rfl, ?_⟩
        rw [← hs, mg1, hl]; exact hd''
      · rw [hv]
        dsimp only [Option.isSome_some]
        repeat walk1
        refine wpAny_getItem_of (intKind_is PG w a tka) hD.mapOf hv ?_
        repeat walk1
        refine set_tb F' N' (fun p hp => hap p hp _ (List.mem_singleton.mpr rfl)) (fun _ h => nomatch h) ⟨kvs, hd, hT⟩ hz (fun h' o'' F'' N'' hd'' => ?_)
        repeat walk1
        refine ⟨_, _, _, [(D, o'')], rfl, F'', N'', fun p hp => .inl (by rw [List.mem_singleton.mp hp]; exact List.mem_singleton.mpr rfl), by with_unfolding_all exact hm1, o'', rfl, ?_⟩
        rw [← hs, mg1, hl]; exact hd''
    · rintro h₅ tk₅ m₅ news₅ F₅ N₅ ⟨hm1, o₅, rfl, ho₅⟩
      rw [List.take_length] at ho₅
      repeat walk1
      have hn := (N₅ (D, o₅) (.head _))
      refine hq D _ ⟨_, _, rfl, fun b o e => F₅.keep b o e⟩ hn.2.2 (ho₅.isTb hn.1 lo)
end Mine

end

section
open PySem PySem.W PySem.Calls PyProof.Rows
set_option Elab.async false
set_option maxRecDepth 100000
set_option maxHeartbeats 400000
namespace Mine
theorem fresh_B3 : True := by
  w_top off
  trivial
variable {w : World} {A : Around} {E : Value → Shared → Prop} {s : Shared} {env : Env}

/-- the turns of a dict's comprehension -/
theorem dc_loop {kx vx target iter : Expr} {ifs : List Expr} {scope : Scope} {pos : Pos} {it : Value} {D : Addr} {env : Env} {R : Result → Shared → Prop} (I : Nat → Shared → Prop)
    (turn : ∀ n s, I n s → wpAny (model PG w) A (pyNext it) (fun r s₁ => match r with
      | none => R (.ok .next) s₁
      | some v => wpAny (model PG w) A (letOwnedTupleGo target it v) (fun _ s₀ => wpAny (model PG w) A (assign target env v) (fun _ s₂ =>
          wpAny (model PG w) A (forIn ifs true fun c r => if r = true then do let ok ← isTrue c env (eval c env); pure (ForInStep.yield ok) else pure (ForInStep.yield r)) (fun ok s₃ =>
            if ok = true then wpAny (model PG w) A (eval kx env) (fun kv s₄ => wpAny (model PG w) A (eval vx env) (fun vv s₅ =>
              wpAny (model PG w) A (dictSet D kv vv) (fun _ s₆ => ∃ m, m < n ∧ I m s₆) (fun _ _ => False) s₅) (fun _ _ => False) s₄) (fun _ _ => False) s₃
            else ∃ m, m < n ∧ I m s₃) (fun _ _ => False) s₂) (fun _ _ => False) s₀) (fun _ _ => False) s₁) (fun _ _ => False) s)
    (n : Nat) (h : I n s) :
    codeAny (model PG w) A (.compLoop (.DictComp kx vx [⟨target, iter, ifs, 0⟩] scope pos) 0 it (.ref D) env) R s := by
  refine codeAny_loop rfl I (fun n s hI => ?_) n h
  show wpAny _ A ((compTurn (.DictComp kx vx [⟨target, iter, ifs, 0⟩] scope pos) 0 it (.ref D) env).onRaise (fun x => do noteFrame x env; theTreesLotGoes x)) _ _ s
  refine wpAny_noted ?_
  rw [compTurn_dict]
  refine wpAny_bind (wpAny_standAt (wpAny_bind (wpAny_mono (turn n s hI) (fun r s₁ h₁ => ?_) fun _ _ h' => h'.elim)))
  cases r with
  | none => exact wpAny_pure h₁
  | some v =>
    refine wpAny_bind (wpAny_mono h₁ (fun _ s₀ h₀ => ?_) fun _ _ h' => h'.elim)
    refine wpAny_bind (wpAny_mono h₀ (fun _ s₂ h₂ => wpAny_bind (wpAny_mono h₂ (fun ok s₃ h₃ => ?_) fun _ _ h' => h'.elim)) fun _ _ h' => h'.elim)
    cases ok with
    | false => exact wpAny_pure ⟨rfl, h₃⟩
    | true =>
      exact wpAny_bind (wpAny_bind (wpAny_mono h₃ (fun kv s₄ h₄ => wpAny_bind (wpAny_holding (wpAny_mono h₄ (fun vv s₅ h₅ => wpAny_bind (wpAny_standAt (wpAny_holding (wpAny_mono h₅ (fun _ s₆ h₆ => wpAny_pure ⟨rfl, h₆⟩) fun _ _ h' => h'.elim)))) fun _ _ h' => h'.elim))) fun _ _ h' => h'.elim))

/-- what a dict's comprehension over a table's items makes -/
def dcomp (pz : Int → Int → Bool) (kf vf : Int → Int → Int) (t : List (Int × Int)) : List (Int × Int) :=
  t.foldl (fun acc p => if pz p.1 p.2 then put acc (kf p.1 p.2) (vf p.1 p.2) else acc) []
theorem dcomp_len (pz : Int → Int → Bool) (kf vf : Int → Int → Int) (t acc : List (Int × Int)) :
    (t.foldl (fun acc p => if pz p.1 p.2 then put acc (kf p.1 p.2) (vf p.1 p.2) else acc) acc).length ≤ acc.length + t.length := by
  induction t generalizing acc with
  | nil => simp
  | cons p t ih =>
    simp only [List.foldl_cons, List.length_cons]
    split
    · have h1 := ih (put acc (kf p.1 p.2) (vf p.1 p.2)); have h2 := put_length_le acc (kf p.1 p.2) (vf p.1 p.2); omega
    · have h1 := ih acc; omega

theorem dict_comp {kx vx o : Expr} {ifs : List Expr} {x x' : Str} {px px' tp apos cpos : Pos} {kk : Nat} {scope : Scope} {pos : Pos} {cl : List (Str × Addr)} {d : Addr} {t : List (Int × Int)} {Q : Value → Shared → Prop}
    (pz : Int → Int → Bool) (kf vf : Int → Int → Int)
    (hh : A.handled = none) (hd : IsTb w s.heap d t) (hsz : t.length ≤ 1000000)
    (hbase : attributeBase o "items" env (eval o env) = eval o env) (hline : (apos.endLine == cpos.line) = true)
    (ho : ∀ Q', Q' (.ref d) s → wpAny (model PG w) A (eval o env) Q' E s)
    (hclos : closureFor scope env = pure cl) (hcell : ∀ y ∈ scope.names, y.2 ≠ .cell) (hkind : scope.kind = .function)
    (hnames : ∀ y ∈ scope.names, y.2 = .local → scope.names.lookup y.1 = some .local) (hx : scope.names.lookup x = some .local) (hx' : scope.names.lookup x' = some .local) (hxx : x ≠ x')
    (htests : ∀ C a b tka tkb s₃ m₃, (a, b) ∈ t → s₃.heap.Ns C m₃ → m₃ x = some (.int a tka) → m₃ x' = some (.int b tkb) → (∀ b o, s.heap.get? b = some o → s₃.heap.get? b = some o) →
      wpAny (model PG w) A (forIn ifs true fun c r => if r = true then do let ok ← isTrue c (compEnvC scope cl C env) (eval c (compEnvC scope cl C env)); pure (ForInStep.yield ok) else pure (ForInStep.yield r))
        (fun ok s₄ => ok = pz a b ∧ Keeps s₃ s₄) (fun _ _ => False) s₃)
    (hkey : ∀ C a b tka tkb s₃ m₃, (a, b) ∈ t → pz a b = true → s₃.heap.Ns C m₃ → m₃ x = some (.int a tka) → m₃ x' = some (.int b tkb) → (∀ b o, s.heap.get? b = some o → s₃.heap.get? b = some o) →
      wpAny (model PG w) A (eval kx (compEnvC scope cl C env)) (fun v s₄ => (∃ tk, v = .int (kf a b) tk) ∧ Keeps s₃ s₄) (fun _ _ => False) s₃)
    (hval : ∀ C a b tka tkb s₃ m₃, (a, b) ∈ t → pz a b = true → s₃.heap.Ns C m₃ → m₃ x = some (.int a tka) → m₃ x' = some (.int b tkb) → (∀ b o, s.heap.get? b = some o → s₃.heap.get? b = some o) →
      wpAny (model PG w) A (eval vx (compEnvC scope cl C env)) (fun v s₄ => (∃ tk, v = .int (vf a b) tk) ∧ Keeps s₃ s₄) (fun _ _ => False) s₃)
    (hq : ∀ r s', Keeps s s' → s.heap.get? r = none → IsTb w s'.heap r (dcomp pz kf vf t) → Q (.ref r) s')
    (hs : ∀ x, foldedSetIterable (.Call (.Attribute o "items" apos) [] [] cpos) env x = pure x := by intro _; rfl) :
    wpAny (model PG w) A (eval (.DictComp kx vx [⟨.Tuple [.Name x px, .Name x' px'] kk tp, .Call (.Attribute o "items" apos) [] [] cpos, ifs, 0⟩] scope pos) env) Q E s := by
  obtain ⟨kvs, hD, hT, lo⟩ := hd
  rw [arm_eval_DictComp]
  refine wpAny_comprehension_free (use := none) rfl hs hclos hkind hnames (wpAny_Call_items lo hD hbase hline ho ?_)
  have hdlt : d < s.heap.objs.size := by obtain ⟨_, _, _, e, _⟩ := hD; exact Heap.lt_size e
  obtain ⟨ep, hat⟩ := (hD.at (h' := s.heap.push { cls := .type "dict_items", data := .fields #[.ref d] }) fun o e => Heap.get?_push_of_some _ e).dictAt
  refine wpAny_pyIter_items (knd := PySem.intKind PG w) (d := d) (kvs := kvs) (ep := ep) ⟨_, Heap.get?_push_size _ rfl, rfl, rfl⟩ hat ?_
  have k₁ : ∀ b o, s.heap.get? b = some o → (s.heap.push { cls := .type "dict_items", data := .fields #[.ref d] }).get? b = some o := fun b o e => Heap.get?_push_of_some _ e
  have hz₁ : (s.heap.push { cls := .type "dict_items", data := .fields #[.ref d] }).objs.size = s.heap.objs.size + 1 := Heap.size_push ..
  dsimp only
  generalize s.heap.push { cls := .type "dict_items", data := .fields #[.ref d] } = H₁ at k₁ hz₁ hat ⊢
  have hit : IsItemIter (H₁.push { cls := .type "dict_itemiterator", data := .fields #[.none, .bool false, .ref d, .int 0 0, .int kvs.length 0, .int ep 0, .none, .none] }) H₁.objs.size d 0 kvs.length ep .none .none := Heap.get?_push_size _ rfl
  have k₂ : ∀ b o, s.heap.get? b = some o → (H₁.push { cls := .type "dict_itemiterator", data := .fields #[.none, .bool false, .ref d, .int 0 0, .int kvs.length 0, .int ep 0, .none, .none] }).get? b = some o := fun b o e => Heap.get?_push_of_some _ (k₁ b o e)
  have hat₂ := hat.push { cls := .type "dict_itemiterator", data := .fields #[.none, .bool false, .ref d, .int 0 0, .int kvs.length 0, .int ep 0, .none, .none] }
  have hz₂ : (H₁.push { cls := .type "dict_itemiterator", data := .fields #[.none, .bool false, .ref d, .int 0 0, .int kvs.length 0, .int ep 0, .none, .none] }).objs.size = H₁.objs.size + 1 := Heap.size_push ..
  generalize hI : H₁.objs.size = I at *
  generalize H₁.push { cls := .type "dict_itemiterator", data := .fields #[.none, .bool false, .ref d, .int 0 0, .int kvs.length 0, .int ep 0, .none, .none] } = H₂ at hit k₂ hat₂ hz₂ ⊢
  clear hat k₁
  refine wpAny_newObj_type (wpAny_newFunctionEnv hcell (by intro y hy; simp at hy) (fun h₁ hns₁ hsb₁ => ?_) hkind)
  dsimp only at hns₁ hsb₁ ⊢
  have hacc₀ : (H₂.push { cls := .type "dict", dict := none, data := .dict #[] }).DictOf (PySem.intKind PG w) H₂.objs.size [] := Heap.DictOf.new H₂
  generalize hH3 : H₂.push { cls := .type "dict", dict := none, data := .dict #[] } = H₃ at hns₁ hsb₁ hacc₀ ⊢
  have hz₃ : H₃.objs.size = H₂.objs.size + 1 := by rw [← hH3, Heap.size_push]
  generalize hDD : H₂.objs.size = D at *
  generalize hCC : H₃.objs.size = C at *
  have hDC : D ≠ C := by rw [hz₃]; exact Nat.ne_of_lt (Nat.lt_succ_self _)
  have old₁ : ∀ b o, b < D → H₂.get? b = some o → h₁.get? b = some o := fun b o hb e => hsb₁.extBut b o (by rw [hz₃]; exact Nat.ne_of_lt (Nat.lt_succ_of_lt hb)) (Heap.get?_push_of_some _ (hH3 ▸ Heap.get?_push_of_some _ e))
  have hID : I < D := by rw [hz₂]; exact Nat.lt_succ_self _
  have hdI : d < I := by rw [hz₁]; exact Nat.lt_succ_of_lt hdlt
  have hIC : I ≠ C := by rw [hz₃]; exact Nat.ne_of_lt (Nat.lt_succ_of_lt hID)
  have hit₁ : IsItemIter h₁ I d 0 kvs.length ep .none .none := old₁ _ _ hID hit
  have hat₁ : h₁.DictAt (PySem.intKind PG w) d kvs ep := hat₂.at fun o e => old₁ d o (Nat.lt_trans hdI hID) e
  have hacc : h₁.DictOf (PySem.intKind PG w) D [] := hacc₀.at fun o e => hsb₁.extBut _ _ hDC (Heap.get?_push_of_some _ e)
  have hns₁' : h₁.Ns C (fun _ => none) := hns₁
  have keep₁ : ∀ b o, s.heap.get? b = some o → h₁.get? b = some o := fun b o e => old₁ b o (Nat.lt_of_lt_of_le (Heap.lt_size e) (by rw [hz₂, hz₁]; omega)) (k₂ b o e)
  have sD : s.heap.objs.size ≤ D := by rw [hz₂, hz₁]; omega
  have snone : ∀ b, s.heap.objs.size ≤ b → s.heap.get? b = none := fun b hb => by
    cases e : s.heap.get? b with
    | none => rfl
    | some o => exact absurd (Heap.lt_size e) (Nat.not_lt.mpr hb)
  have W := kti_itemsTurns (prog := PG) (w := w) (A := A) (knd := PySem.intKind PG w) (elts := [.Name x px, .Name x' px']) (kk := kk) (pos := tp) hh I d (Nat.ne_of_lt hdI) kvs ep
  have hlen : kvs.length = t.length := hT.length
  have loop : ∀ s₃ : Shared, s₃ = { s with heap := h₁, toks := s.toks + ([] : List (Str × Value)).length } →
      codeAny (model PG w) A (.compLoop (.DictComp kx vx [⟨.Tuple [.Name x px, .Name x' px'] kk tp, .Call (.Attribute o "items" apos) [] [] cpos, ifs, 0⟩] scope pos) 0 (.ref I) (.ref D) (compEnvC scope cl C env))
        (compPost (model PG w) A E none Q (.ref D) C) s₃ := by
    rintro s₃ rfl
    refine dc_loop (fun n s' => ∃ h' tk i m' kv', s' = { s with heap := h', toks := tk } ∧ i ≤ t.length ∧ n = t.length + 1 - i ∧ ((∃ ok ov, IsItemIter h' I d i kvs.length ep ok ov) ∧ h'.DictAt (PySem.intKind PG w) d kvs ep) ∧
        h'.DictOf (PySem.intKind PG w) D kv' ∧ TbR kv' ((t.take i).foldl (fun acc p => if pz p.1 p.2 then put acc (kf p.1 p.2) (vf p.1 p.2) else acc) []) ∧ h'.Ns C m' ∧ (∀ b o, s.heap.get? b = some o → h'.get? b = some o)) ?_ (t.length + 1)
      ⟨h₁, _, 0, _, [], rfl, Nat.zero_le _, rfl, ⟨⟨_, _, hit₁⟩, hat₁⟩, hacc, .nil, hns₁', keep₁⟩
    rintro n s' ⟨h', tk, i, m', kv', rfl, hi, rfl, hst', hacc', hT', hn', hk'⟩
    have sne : ∀ b o, s.heap.get? b = some o → b ≠ I ∧ b ≠ C ∧ b ≠ D := fun b o e => by
      have h1 : @LT.lt Nat _ b s.heap.objs.size := Heap.lt_size e
      exact ⟨Nat.ne_of_lt (show @LT.lt Nat _ b I by omega), Nat.ne_of_lt (show @LT.lt Nat _ b C by omega), Nat.ne_of_lt (show @LT.lt Nat _ b D by omega)⟩
    by_cases hlt : i < t.length
    · refine W.item i _ _ _ (by rw [hlen]; exact hlt) hst' fun v h₂ tk₂ hMd hk₂ => ?_
      refine W.go i v _ _ _ hMd fun h₃ hP hst₃ hk₃ => ?_
      obtain ⟨T, key, k, xv, rfl, hget, hkey', hTup⟩ := hP
      obtain ⟨b, tkb, ht, rfl⟩ := hT.get hget
      obtain ⟨tka, rfl⟩ := Value.isInt_shape hkey'
      have up₃ : ∀ c o, c ≠ I → h'.get? c = some o → h₃.get? c = some o := fun c o hc e => hk₃ c o (by simpa using hc) (hk₂ c o (by simpa using hc) e)
      refine kcp_assign (env := compEnvC scope cl C env) hh hTup (lookup_relabel_local hx) (lookup_relabel_local hx') (by simp [compEnvC, relabel, hkind]) (hn'.at' fun o e => up₃ _ o (Ne.symm hIC) e) fun h₄ tk₄ hn₄ hs₄ => ?_
      have up₄ : ∀ c o, c ≠ I → c ≠ C → h'.get? c = some o → h₄.get? c = some o := fun c o h1 h2 e => hs₄ c o h2 (up₃ c o h1 e)
      have k₄ : ∀ b o, s.heap.get? b = some o → h₄.get? b = some o := fun b o e => up₄ b o (sne b o e).1 (sne b o e).2.1 (hk' b o e)
      have acc₄ : h₄.DictOf (PySem.intKind PG w) D kv' := hacc'.at fun o e => up₄ D o (Nat.ne_of_gt hID) hDC e
      have st₄ : (∃ ok ov, IsItemIter h₄ I d (i + 1) kvs.length ep ok ov) ∧ h₄.DictAt (PySem.intKind PG w) d kvs ep := W.frame _ _ _ hst₃ fun b hb o e => hs₄ b o (by
        rcases List.mem_cons.mp hb with rfl | hb
        · exact hIC
        · rw [List.mem_singleton.mp hb]; exact Nat.ne_of_lt (show @LT.lt Nat _ d C from Nat.lt_trans hdI (Nat.lt_trans hID (by omega)))) e
      have hm1 : (fun z => if z = x' then some (Value.int b tkb) else if z = x then some (Value.int k tka) else m' z) x = some (.int k tka) := by simp [hxx]
      have hm2 : (fun z => if z = x' then some (Value.int b tkb) else if z = x then some (Value.int k tka) else m' z) x' = some (.int b tkb) := by simp
      have hmem : (k, b) ∈ t := List.mem_of_getElem? ht
      refine wpAny_mono (htests C k b tka tkb _ _ hmem hn₄ hm1 hm2 k₄) (fun ok s₅ h₅ => ?_) fun _ _ e => e
      obtain ⟨rfl, h₅, tk₅, rfl, hk₅⟩ := h₅
      have hstep := take_succ_of ht
      cases hpz : pz k b with
      | false =>
        simp only [Bool.false_eq_true, if_false]
        refine ⟨_, (by omega : t.length + 1 - (i + 1) < t.length + 1 - i), h₅, tk₅, i + 1, _, kv', rfl, hlt, rfl, W.frame _ _ _ st₄ fun b _ o e => hk₅ b o e, acc₄.at fun o e => hk₅ _ o e, ?_, hn₄.keeps hk₅, fun b o e => hk₅ b o (k₄ b o e)⟩
        rw [hstep, List.foldl_append]; simpa [hpz] using hT'
      | true =>
        simp only [if_true]
        refine wpAny_mono (hkey C k b tka tkb _ _ hmem hpz (hn₄.keeps hk₅) hm1 hm2 fun b o e => hk₅ b o (k₄ b o e)) (fun kv s₆ h₆ => ?_) fun _ _ e => e
        obtain ⟨⟨tk₆', rfl⟩, h₆, tk₆, rfl, hk₆⟩ := h₆
        refine wpAny_mono (hval C k b tka tkb _ _ hmem hpz ((hn₄.keeps hk₅).keeps hk₆) hm1 hm2 fun b o e => hk₆ b o (hk₅ b o (k₄ b o e))) (fun vv s₇ h₇ => ?_) fun _ _ e => e
        obtain ⟨⟨tk₇', rfl⟩, h₇, tk₇, rfl, hk₇⟩ := h₇
        have up₇ : ∀ c o, h₄.get? c = some o → h₇.get? c = some o := fun c o e => hk₇ c o (hk₆ c o (hk₅ c o e))
        have hkl : kv'.length ≤ sizeLine := by
          have h1 := dcomp_len pz kf vf (t.take i) []
          rw [← hT'.length, List.length_take] at h1
          rw [sizeLine_eq]; simp at h1; omega
        refine wpAny_dictSet_pairs (hsz := hkl) (intKind_is PG w _ _) (acc₄.at fun o e => up₇ _ o e) fun h₈ hl₈ hs₈ => ?_
        refine ⟨_, (by omega : t.length + 1 - (i + 1) < t.length + 1 - i), h₈, _, i + 1, _, _, rfl, hlt, rfl, W.frame _ _ _ st₄ fun b hb o e => hs₈.extBut b o ?_ (up₇ b o e), hl₈, ?_, (hn₄.keeps up₇).sameBut hs₈ (Ne.symm hDC), fun b o e => hs₈.extBut b o (sne b o e).2.2 (up₇ b o (k₄ b o e))⟩
        · rcases List.mem_cons.mp hb with rfl | hb
          · exact Nat.ne_of_lt hID
          · rw [List.mem_singleton.mp hb]; exact Nat.ne_of_lt (Nat.lt_trans hdI hID)
        · rw [hstep, List.foldl_append]
          simp only [List.foldl_cons, List.foldl_nil, hpz, if_true]
          exact hT'.stored _ _ _
    · have hin : i = t.length := by omega
      subst hin
      refine W.done _ _ _ (by rw [← hlen] at hst'; exact hst') fun h₂ tk₂ hk₂ => ?_
      rw [List.take_length] at hT'
      have up₂ : ∀ c o, c ≠ I → h'.get? c = some o → h₂.get? c = some o := fun c o hc e => hk₂ c o (by simpa using hc) e
      refine ⟨m', hn'.at' fun o e => up₂ _ o (Ne.symm hIC) e, fun h₃ hs₃ => ?_⟩
      refine hq D _ ⟨_, _, rfl, fun b o e => hs₃.extBut b o (sne b o e).2.1 (up₂ b o (sne b o e).1 (hk' b o e))⟩ (snone D sD) ⟨kv', (hacc'.at fun o e => up₂ _ o (Nat.ne_of_gt hID) e).extBut hs₃.extBut hDC, hT', ?_⟩
      have : (1 : Nat) < D := by
        have h1 : (0 : Nat) < s.heap.objs.size := Nat.lt_of_le_of_lt (Nat.zero_le _) hdlt
        have : s.heap.objs.size + 1 ≤ D := by rw [hz₂, hz₁]; omega
        omega
      exact beq_eq_false_iff_ne.mpr (Nat.ne_of_gt this)
  exact codeAny_compStart_dict (loop _ rfl) (kcp_self (s := { s with heap := h₁, toks := _ }) hit₁ (loop _ rfl))
end Mine

end

section
open PySem PySem.W PySem.Calls PyProof.Rows
set_option Elab.async false
set_option maxRecDepth 100000
set_option maxHeartbeats 400000
namespace Mine
theorem fresh_B4 : True := by
  w_top off
  trivial
local macro_rules | `(tactic| walk_at "none of these") => `(tactic| skip)
variable {w : World} {A : Around} {E : Value → Shared → Prop} {s : Shared} {env : Env}
local macro_rules | `(tactic| walk_at "eval Name") => `(tactic| first
  | (with_unfolding_all refine nmL (by rfl) (by rfl) (by decide) (by first | with_reducible assumption | exact Fr.ns (by with_reducible assumption)) (by rfl) (by first | rfl | assumption) ?_)
  | (with_unfolding_all refine nmC (by rfl) (by rfl) (by decide) (by rfl) (by first | with_reducible assumption | assumption) ?_)
  | (with_unfolding_all refine nmG (by rfl) (by rfl) (by rfl) (by decide) (by rfl) (by first | with_reducible assumption | exact Wd.keeps (by with_reducible assumption) (Fr.keep (by with_reducible assumption))) ?_)
  | (with_unfolding_all refine nmB (by rfl) (by rfl) (by boot_by_name) (by rfl) (by rfl) (by decide) (by decide) (by rfl) (by first | with_reducible assumption | exact Wd.keeps (by with_reducible assumption) (Fr.keep (by with_reducible assumption))) ?_))
local macro_rules | `(tactic| walk_at "loadName") => `(tactic| (with_unfolding_all refine nmLd (by rfl) (by rfl) (by first | with_reducible assumption | exact Fr.ns (by with_reducible assumption)) (by rfl) (by first | rfl | assumption) ?_))
local macro_rules | `(tactic| walk_at "callWith ref") => `(tactic| (with_unfolding_all refine callF (by first | with_reducible assumption | exact Wd.keeps (by with_reducible assumption) (Fr.keep (by with_reducible assumption))) (by rfl) ?_ (by rfl) (by rfl)))
local macro_rules | `(tactic| walk_at "And") => `(tactic| ((with_reducible show Frag.In _ _ ∧ _); refine ⟨by first | exact (Wd.X (by with_reducible assumption)) | exact Wd.X (Wd.keeps (by with_reducible assumption) (Fr.keep (by with_reducible assumption))), ?_⟩; try dsimp only [List.nil_append, List.cons_append]))
local macro_rules | `(tactic| walk_at "mW") => `(tactic| repeat ((fail_if_success (with_reducible show wpAny _ _ (exec (Stmt.For _ _ _ _ _) _) _ _ _)); walk1))
def timesC (t : List (Int × Int)) (way share : Int) : List (Int × Int) := mergeC t (dcomp (fun _ _ => true) (fun a _ => a + way) (fun _ b => b * share) t)

theorem c_times {d : Addr} {t : List (Int × Int)} {way share : Int} {t1 t2 : Tok} {Q : Value → Shared → Prop} (R : Rm 3 A) (W : Wd w s.heap)
    (h1 : IsTb w s.heap d t) (sz : t.length ≤ 100000) (hb : Builtin.Int.intBits share ≤ 64)
    (hq : ∀ r s', Keeps s s' → s.heap.get? r = none → IsTb w s'.heap r (timesC t way share) → Q (.ref r) s') :
    wpAny (model PG w) A (call (.ref 111) [.ref d, .int way t1, .int share t2] []) Q E s := by
  refine call_defC [(Str.ofString "table", .ref d), (Str.ofString "way", .int way t1), (Str.ofString "share", .int share t2)] W rfl (by rfl) R.room (by rfl) (by rfl) (fun h₁ tk F X W => ?_) rfl rfl rfl
  have cw := X.cell (Str.ofString "way") (s.heap.objs.size + 1) (by rfl)
  have cs := X.cell (Str.ofString "share") (s.heap.objs.size + 2) (by rfl)
  show wpAny _ _ _ _ _ _
  k_fold
  repeat walk1
  have h1' : IsTb w h₁ d t := h1.keeps F.keep
  have W₁ : Wd w h₁ := W.keeps F.keep
  have hclos : ∀ sc : Scope, sc.names = [(Str.ofString ".0", .local), (Str.ofString "key", .local), (Str.ofString "value", .local), (Str.ofString "iadd", .globalImplicit), (Str.ofString "imul", .globalImplicit), (Str.ofString "share", .free), (Str.ofString "way", .free)] →
      ∀ env : Env, env.cells = [(Str.ofString "share", s.heap.objs.size + 2), (Str.ofString "way", s.heap.objs.size + 1)] → closureFor sc env = pure [(Str.ofString "way", s.heap.objs.size + 1), (Str.ofString "share", s.heap.objs.size + 2)] := by
    intro sc hsc env henv
    unfold closureFor cellOf
    rw [hsc, henv]
    rfl
  refine dict_comp (s := { s with heap := h₁, toks := tk }) (t := t) (d := d) (cl := [(Str.ofString "way", s.heap.objs.size + 1), (Str.ofString "share", s.heap.objs.size + 2)]) (fun _ _ => true) (fun a _ => a + way) (fun _ b => b * share)
    R.hh h1' (by omega) ?_ ?_ ?_ ?_ ?_ ?_ ?_ ?_ ?_ ?_ ?_ ?_ ?_ ?_
  · rfl
  · rfl
  · intro Q' hQ'
    exact nmL (by rfl) (by rfl) (by decide) F.ns (by rfl) (by rfl) hQ'
  · exact hclos _ rfl _ rfl
  · decide
  · rfl
  · decide
  · rfl
  · rfl
  · decide
  · intro C a b tka tkb s₃ m₃ _ hn hm1 hm2 hk
    exact wpAny_pure ⟨rfl, keeps_refl _⟩
  · intro C a b tka tkb s₃ m₃ _ _ hn hm1 hm2 hk
    have W₃ : Wd w s₃.heap := W₁.keeps hk
    have cw₃ := cw.keeps hk
    have cs₃ := cs.keeps hk
    clear X cs cw
    repeat walk1
    exact c_iadd R.deeper.tail W₃ fun t' s' k => ⟨⟨_, rfl⟩, k⟩
  · intro C a b tka tkb s₃ m₃ _ _ hn hm1 hm2 hk
    have W₃ : Wd w s₃.heap := W₁.keeps hk
    have cw₃ := cw.keeps hk
    have cs₃ := cs.keeps hk
    clear X cs cw
    repeat walk1
    exact c_imul R.deeper.tail W₃ hb fun t' s' k => ⟨⟨_, rfl⟩, k⟩
  · intro r s' hk hr hT
    obtain ⟨h₂, tk₂, rfl, k₂⟩ := hk
    have W₂ : Wd w h₂ := W₁.keeps k₂
    have h1₂ : IsTb w h₂ d t := h1'.keeps k₂
    repeat walk1
    refine c_add (s := { s with heap := h₂, toks := tk₂ }) R.deeper W₂ h1₂ hT ?_ ?_
    · have := dcomp_len (fun _ _ => true) (fun a _ => a + way) (fun _ b => b * share) t []
      have : (dcomp (fun _ _ => true) (fun a _ => a + way) (fun _ b => b * share) t).length ≤ t.length := by simpa [dcomp] using this
      omega
    · intro r' s'' hk' hr' hT'
      obtain ⟨h₃, tk₃, rfl, k₃⟩ := hk'
      repeat walk1
      refine hq r' _ ⟨h₃, tk₃, rfl, fun b o e => k₃ b o (k₂ b o (F.keep b o e))⟩ ?_ hT'
      cases e : s.heap.get? r' with
      | none => rfl
      | some o => rw [k₂ _ _ (F.keep _ _ e)] at hr'; cases hr'
end Mine

end

section
open PySem PySem.W PySem.Calls PyProof.Rows
set_option Elab.async false
set_option maxRecDepth 100000
set_option maxHeartbeats 400000
namespace Mine
theorem fresh_B5 : True := by
  w_top off
  trivial
variable {w : World} {A : Around} {E : Value → Shared → Prop} {s : Shared} {env : Env} {h₀ : Heap} {body : List Stmt} {Q : Flow → Shared → Prop}
local macro_rules | `(tactic| walk_at "eval Name") => `(tactic| first
  | (with_unfolding_all refine nmL (by rfl) (by rfl) (by decide) (by first | with_reducible assumption | exact Fr.ns (by with_reducible assumption)) (by rfl) (by first | rfl | assumption) ?_)
  | (with_unfolding_all refine nmC (by rfl) (by rfl) (by decide) (by rfl) (by first | with_reducible assumption | assumption) ?_)
  | (with_unfolding_all refine nmG (by rfl) (by rfl) (by rfl) (by decide) (by rfl) (by first | with_reducible assumption | exact Wd.keeps (by with_reducible assumption) (Fr.keep (by with_reducible assumption))) ?_)
  | (with_unfolding_all refine nmB (by rfl) (by rfl) (by boot_by_name) (by rfl) (by rfl) (by decide) (by decide) (by rfl) (by first | with_reducible assumption | exact Wd.keeps (by with_reducible assumption) (Fr.keep (by with_reducible assumption))) ?_))
local macro_rules | `(tactic| walk_at "loadName") => `(tactic| (with_unfolding_all refine nmLd (by rfl) (by rfl) (by first | with_reducible assumption | exact Fr.ns (by with_reducible assumption)) (by rfl) (by first | rfl | assumption) ?_))
local macro_rules | `(tactic| walk_at "callWith ref") => `(tactic| (with_unfolding_all refine callF (by first | with_reducible assumption | exact Wd.keeps (by with_reducible assumption) (Fr.keep (by with_reducible assumption))) (by rfl) ?_ (by rfl) (by rfl)))
local macro_rules | `(tactic| walk_at "And") => `(tactic| ((with_reducible show Frag.In _ _ ∧ _); refine ⟨by first | exact (Wd.X (by with_reducible assumption)) | exact Wd.X (Wd.keeps (by with_reducible assumption) (Fr.keep (by with_reducible assumption))), ?_⟩; try dsimp only [List.nil_append, List.cons_append]))
local macro_rules | `(tactic| walk_at "mW") => `(tactic| repeat ((fail_if_success (with_reducible show wpAny _ _ (exec (Stmt.For _ _ _ _ _) _) _ _ _)); walk1))
/-- a walk over what a single name takes, its iterator new -/
theorem name_turns {I : Addr} {fp : List Addr} {n : Nat} {P : Nat → Value → Prop} {St : Nat → Heap → Prop} {x : Str} {px : Pos} {m : Str → Option Value} {news : List (Addr × Obj)}
    (W : Walks PG w A I fp [I] n P St) (alive : ∀ i h, St i h → ∃ o, h.get? I = some o)
    (hLf : env.locals ∉ fp) (hI : h₀.get? I = none) (hnw : ∀ p ∈ news, p.1 ≠ I) (hst : St 0 s.heap) (F : Fr h₀ env.locals s.heap m) (N : News h₀ env.locals s.heap news)
    (hx : env.kindOf x = some .local) (hk : env.scope.kind = .function)
    (J : Nat → (Str → Option Value) → List (Addr × Obj) → Prop) (h0 : J 0 m news)
    (step : ∀ i v m₁ news₁ h₁ tk₁ own, i < n → P i v → J i m₁ news₁ → (∀ p ∈ own, p.1 ∈ fp) → (∀ q ∈ news₁, q.1 ≠ I) → Fr h₀ env.locals h₁ (fun y => if y = x then some v else m₁ y) → News h₀ env.locals h₁ (own ++ news₁) →
      wpAny (model PG w) A (execs body env) (StepJ h₀ env.locals own (news₁.map (·.1)) h₁ (J (i + 1)) { s with heap := h₁, toks := tk₁ } Q) E { s with heap := h₁, toks := tk₁ })
    (done : ∀ h' tk m' news', Fr h₀ env.locals h' m' → News h₀ env.locals h' news' → J n m' news' → Q .next { s with heap := h', toks := tk }) :
    TurnsAt PG w A h₀ env (.Name x px) body Q E (.ref I) s := by
  refine turnsJ (KTurns.ofWalks (target := .Name x px) W fun _ _ _ _ _ _ q => wpAny_pure q) ?_ hLf ?_ ?_ hst F N J h0 ?_ done
  · intro i h hs b hb; rw [List.mem_singleton.mp hb]; exact alive i h hs
  · intro b hb; rw [List.mem_singleton.mp hb]; exact hI
  · intro p hp hb; exact hnw p hp (List.mem_singleton.mp hb)
  · intro i v m₁ news₁ h₁ tk₁ own hi hP hJ hown hoff F' N'
    exact asg_name hx hk F' N' fun h₂ tk₂ F'' N'' => step i v m₁ news₁ h₂ tk₂ own hi hP hJ hown (fun q hq e => hoff q hq (List.mem_singleton.mpr e)) F'' N''

theorem next_none {L : Addr} {h : Heap} {m : Str → Option Value} (F : Fr h₀ L h m) : h₀.get? h.objs.size = none := by
  cases q : h₀.get? h.objs.size with
  | none => rfl
  | some o => exact absurd (Heap.lt_size (F.keep _ _ q)) (Nat.lt_irrefl _)

theorem range_turns {r : Addr} {a₀ b₀ c : Int} {t₀ u₀ v₀ : Tok} {n : Nat} {x : Str} {px : Pos} {m : Str → Option Value} {news : List (Addr × Obj)}
    (hh : A.handled = none) (hr : IsRange s.heap r a₀ b₀ c t₀ u₀ v₀) (hsmall : Builtin.Range.small a₀ b₀ c = true) (hn : Builtin.Range.rangeSize a₀ b₀ c = (n : Int))
    (F : Fr h₀ env.locals s.heap m) (N : News h₀ env.locals s.heap news)
    (hx : env.kindOf x = some .local) (hk : env.scope.kind = .function)
    (J : Nat → (Str → Option Value) → List (Addr × Obj) → Prop) (h0 : J 0 m news)
    (step : ∀ i tkv m₁ news₁ h₁ tk₁ own, i < n → J i m₁ news₁ → (∀ p ∈ own, ∀ q ∈ news₁, p.1 ≠ q.1) → Fr h₀ env.locals h₁ (fun y => if y = x then some (.int (a₀ + (i : Int) * c) tkv) else m₁ y) → News h₀ env.locals h₁ (own ++ news₁) →
      wpAny (model PG w) A (execs body env) (StepJ h₀ env.locals own (news₁.map (·.1)) h₁ (J (i + 1)) { s with heap := h₁, toks := tk₁ } Q) E { s with heap := h₁, toks := tk₁ })
    (done : ∀ h' tk m' news', Fr h₀ env.locals h' m' → News h₀ env.locals h' news' → J n m' news' → Q .next { s with heap := h', toks := tk }) :
    wpAny (model PG w) A (pyIter (.ref r)) (fun it s₂ => TurnsAt PG w A h₀ env (.Name x px) body Q E it s₂) E s := by
  refine wpAny_pyIter_range hr hsmall ?_
  refine name_turns (Walks.range hh s.heap.objs.size a₀ c n) (fun i h e => ⟨_, e⟩) ?_ (next_none F) ?_ (by show IsRangeIter _ _ _ _ _; rw [hn]; simpa using Heap.get?_push_size _ rfl) (F.push _) (fun p hp => ⟨Heap.get?_push_of_some _ (N p hp).1, (N p hp).2⟩) hx hk J h0 ?_ done
  · intro hm; exact absurd F.ns.lt ((List.mem_singleton.mp hm) ▸ Nat.lt_irrefl _)
  · intro p hp e; exact absurd (Heap.lt_size (N p hp).1) (e ▸ Nat.lt_irrefl _)
  · rintro i v m₁ news₁ h₁ tk₁ own hi ⟨t, rfl⟩ hJ hown hoff F' N'
    exact step i t m₁ news₁ h₁ tk₁ own hi hJ (fun p hp q hq e => hoff q hq (by rw [← e]; exact List.mem_singleton.mp (hown p hp))) F' N'

/-- a for over the values of a table that stood before the call -/
theorem for_values {o : Expr} {apos cpos pos px : Pos} {x : Str} {d : Addr} {t : List (Int × Int)} {m : Str → Option Value} {news : List (Addr × Obj)}
    (hh : A.handled = none) (F : Fr h₀ env.locals s.heap m) (N : News h₀ env.locals s.heap news) (hd : IsTb w h₀ d t)
    (hbase : attributeBase o "values" env (eval o env) = eval o env) (hline : (apos.endLine == cpos.line) = true)
    (ho : ∀ Q', Q' (.ref d) s → wpAny (model PG w) A (eval o env) Q' E s)
    (hx : env.kindOf x = some .local) (hk : env.scope.kind = .function)
    (J : Nat → (Str → Option Value) → List (Addr × Obj) → Prop) (h0 : J 0 m news)
    (step : ∀ i a b tkb m₁ news₁ h₁ tk₁ own, t[i]? = some (a, b) → J i m₁ news₁ → (∀ p ∈ own, ∀ q ∈ news₁, p.1 ≠ q.1) → Fr h₀ env.locals h₁ (fun y => if y = x then some (.int b tkb) else m₁ y) → News h₀ env.locals h₁ (own ++ news₁) →
      wpAny (model PG w) A (execs body env) (StepJ h₀ env.locals own (news₁.map (·.1)) h₁ (J (i + 1)) { s with heap := h₁, toks := tk₁ } Q) E { s with heap := h₁, toks := tk₁ })
    (done : ∀ h' tk m' news', Fr h₀ env.locals h' m' → News h₀ env.locals h' news' → J t.length m' news' → Q .next { s with heap := h', toks := tk })
    (hs : ∀ x, foldedSetIterable (.Call (.Attribute o "values" apos) [] [] cpos) env x = pure x := by intro _; rfl)
    (hE : PassesOwn (model PG w) A env E := by passes_own) :
    wpAny (model PG w) A (exec (.For (.Name x px) (.Call (.Attribute o "values" apos) [] [] cpos) body [] pos) env) Q E s := by
  obtain ⟨kvs, hD, hT, lo⟩ := hd
  have hDs : s.heap.DictOf (PySem.intKind PG w) d kvs := hD.at fun o e => F.keep d o e
  have hdlt : d < h₀.objs.size := by obtain ⟨_, _, _, e, _⟩ := hD; exact Heap.lt_size e
  refine For_turns F ?_ hs hE
  refine wpAny_Call_method (T := "dict") (id := "dict.values") hbase rfl hline PySem.F.plainAttrs_dict PySem.F.slot_dict_values PySem.F.type_dict_values (ho _ ⟨hDs.typeIs, hDs.mapOf.noDict, ?_⟩)
  show wpAny _ _ (callWith _ (.builtin "dict.values") [.ref d] [] []) _ E s
  refine method_meetsIn PySem.F.slot_dict_values PySem.F.entry_dict_values rfl (PySem.evalArgs_none ⟨rfl, hDs.typeIs, PySem.F.args_dict_values_1 _, _, meets_dict_values (PySem.intKind PG w) d lo, ⟨kvs, hDs⟩, ?_⟩)
  have F₁ := F.push (o := { cls := .type "dict_values", data := .fields #[.ref d] })
  obtain ⟨ep, hat⟩ := (hDs.at (h' := s.heap.push { cls := .type "dict_values", data := .fields #[.ref d] }) fun o e => Heap.get?_push_of_some _ e).dictAt
  refine wpAny_pyIter_values (knd := PySem.intKind PG w) (d := d) (kvs := kvs) (ep := ep) ⟨_, Heap.get?_push_size _ rfl, rfl, rfl⟩ hat ?_
  generalize hH : s.heap.push { cls := .type "dict_values", data := .fields #[.ref d] } = H at F₁ hat
  have N₁ : News h₀ env.locals H news := hH ▸ fun p hp => ⟨Heap.get?_push_of_some _ (N p hp).1, (N p hp).2⟩
  have F₂ := F₁.push (o := { cls := .type "dict_valueiterator", data := .fields #[.ref d, .int 0 0, .int kvs.length 0, .int ep 0] })
  have hlen : kvs.length = t.length := hT.length
  have hLlt : env.locals < H.objs.size := F₁.ns.lt
  have hdH : d < H.objs.size := Nat.lt_of_lt_of_le (Nat.lt_of_lt_of_le hdlt F.above) (Nat.le_of_lt hLlt)
  refine name_turns (Walks.dictValues (knd := PySem.intKind PG w) hh H.objs.size d (Nat.ne_of_lt hdH) kvs ep) (fun i h e => ?_) ?_ (next_none F₁) ?_ ⟨⟨_, Heap.get?_push_size _ rfl, rfl, rfl⟩, hat.push _⟩ F₂ (fun p hp => ⟨Heap.get?_push_of_some _ (N₁ p hp).1, (N₁ p hp).2⟩) hx hk J h0 ?_ ?_
  · obtain ⟨⟨oi, e, _⟩, _⟩ := e; exact ⟨oi, e⟩
  · intro hm
    rcases List.mem_cons.mp hm with e | hm
    · exact absurd hLlt (e ▸ Nat.lt_irrefl _)
    · exact absurd (Nat.lt_of_lt_of_le hdlt F.above) ((List.mem_singleton.mp hm) ▸ Nat.lt_irrefl _)
  · intro p hp e; exact absurd (Heap.lt_size (N₁ p hp).1) (e ▸ Nat.lt_irrefl _)
  · rintro i v m₁ news₁ h₁ tk₁ own hi ⟨k, hget⟩ hJ hown hoff F' N'
    obtain ⟨b, tkb, ht, rfl⟩ := hT.get hget
    refine step i k b tkb m₁ news₁ h₁ tk₁ own ht hJ ?_ F' N'
    intro p hp q hq e
    rcases List.mem_cons.mp (hown p hp) with e' | hm
    · exact hoff q hq (by rw [← e, e'])
    · have hf := (N' q (List.mem_append_right _ hq)).2.2
      obtain ⟨_, _, _, e2, _⟩ := hD
      rw [← e, List.mem_singleton.mp hm, e2] at hf; cases hf
  · intro h' tk m' news' F' N' hJ
    rw [hlen] at hJ
    exact done h' tk m' news' F' N' hJ

def countC (t : List (Int × Int)) : Int := t.foldl (fun a p => a + p.2) 0
theorem c_count {d : Addr} {t : List (Int × Int)} {Q : Value → Shared → Prop} (R : Rm 2 A) (W : Wd w s.heap) (h1 : IsTb w s.heap d t)
    (hq : ∀ tk s', Keeps s s' → Q (.int (countC t) tk) s') : wpAny (model PG w) A (call (.ref 45) [.ref d] []) Q E s := by
  refine call_def [(Str.ofString "callers", .ref d)] W rfl (by rfl) R.room (by rfl) (locs rfl) (by decide) (fun h₁ tk F W => ?_) rfl rfl rfl
  have N : News s.heap s.heap.objs.size h₁ [] := News.nil
  show wpAny _ _ _ _ _ _
  k_fold
  walk_at "mW"
  rename_i h₂ F₂ N₂
  refine for_values (t := t) R.hh F₂ N₂ h1 rfl rfl (fun Q' hQ' => nmL (by rfl) (by rfl) (by decide) F₂.ns (by rfl) (by rfl) hQ') rfl rfl
    (fun i m news => news = [] ∧ ∃ tk, m (Str.ofString "nc") = some (.int ((t.take i).foldl (fun a p => a + p.2) 0) tk)) ⟨rfl, _, rfl⟩ ?_ ?_
  · rintro i a b tkb m₁ news₁ h₃ tk₃ own ht ⟨rfl, tkn, hm⟩ hap F' N'
    walk_at "mW"
    rename_i h₄ F₄ N₄
    refine ⟨_, _, _, [], rfl, F₄, N₄, (fun p hp => nomatch hp), rfl, tk₃, ?_⟩
    rw [take_succ_of ht, List.foldl_append]; rfl
  · rintro h₃ tk₃ m₃ news₃ F₃ N₃ ⟨rfl, tkn, hm⟩
    rw [List.take_length] at hm
    walk_at "mW"
    exact hq _ _ ⟨_, _, rfl, fun b o e => F₃.keep b o e⟩
end Mine

end

section
open PySem PySem.W PySem.Calls PyProof.Rows
set_option Elab.async false
set_option maxRecDepth 100000
set_option maxHeartbeats 400000
namespace Mine
theorem fresh_B6 : True := by
  w_top off
  trivial
variable {w : World} {A : Around} {E : Value → Shared → Prop} {s : Shared} {env : Env} {h₀ : Heap} {body : List Stmt} {Q : Flow → Shared → Prop}
/-- a walk over tuples of two, laid under two names -/
theorem pair_turns {I : Addr} {fp wr : List Addr} {n : Nat} {Pt : Nat → Array Value → Prop} {St : Nat → Heap → Prop} {Mid : Nat → Addr → Heap → Prop} {P2 : Nat → Value → Value → Prop}
    {x x' : Str} {px px' pt : Pos} {k : Nat} {m : Str → Option Value} {news : List (Addr × Obj)} (hh : A.handled = none)
    (W : WalksU PG w A I fp wr n Pt St Mid) (hP : ∀ i vals, Pt i vals → ∃ v0 v1, vals = #[v0, v1] ∧ P2 i v0 v1) (alive : ∀ i h, St i h → ∀ b ∈ wr, ∃ o, h.get? b = some o)
    (hLf : env.locals ∉ fp) (hwr : ∀ b ∈ wr, h₀.get? b = none) (hnw : ∀ p ∈ news, p.1 ∉ wr) (hst : St 0 s.heap) (F : Fr h₀ env.locals s.heap m) (N : News h₀ env.locals s.heap news)
    (hx : env.kindOf x = some .local) (hx' : env.kindOf x' = some .local) (hk : env.scope.kind = .function)
    (J : Nat → (Str → Option Value) → List (Addr × Obj) → Prop) (h0 : J 0 m news)
    (step : ∀ i v v' m₁ news₁ h₁ tk₁ own, i < n → P2 i v v' → J i m₁ news₁ → (∀ p ∈ own, p.1 ∈ fp) → (∀ q ∈ news₁, q.1 ∉ wr) → Fr h₀ env.locals h₁ (fun y => if y = x' then some v' else if y = x then some v else m₁ y) → News h₀ env.locals h₁ (own ++ news₁) →
      wpAny (model PG w) A (execs body env) (StepJ h₀ env.locals own (news₁.map (·.1)) h₁ (J (i + 1)) { s with heap := h₁, toks := tk₁ } Q) E { s with heap := h₁, toks := tk₁ })
    (done : ∀ h' tk m' news', Fr h₀ env.locals h' m' → News h₀ env.locals h' news' → J n m' news' → Q .next { s with heap := h', toks := tk }) :
    TurnsAt PG w A h₀ env (.Tuple [.Name x px, .Name x' px'] k pt) body Q E (.ref I) s := by
  refine turnsJ (KTurns.ofWalksU W) alive hLf hwr hnw hst F N J h0 ?_ done
  rintro i v m₁ news₁ h₁ tk₁ own hi ⟨T, vals, rfl, hPt, hT⟩ hJ hown hoff F' N'
  obtain ⟨v0, v1, rfl, h2⟩ := hP i vals hPt
  exact asg_pair hh hT hx hx' hk F' N' fun h₂ tk₂ F'' N'' => step i v0 v1 m₁ news₁ h₂ tk₂ own hi h2 hJ hown hoff F'' N''

theorem Fr.none {L : Addr} {h : Heap} {m : Str → Option Value} (F : Fr h₀ L h m) {b : Addr} (hb : h.objs.size ≤ b) : h₀.get? b = none := by
  cases q : h₀.get? b with
  | none => rfl
  | some o => exact absurd (Heap.lt_size (F.keep _ _ q)) (Nat.not_lt.mpr hb)

/-- enumerate over a text -/
theorem enum_str {xs : Str} {t : Tok} {x x' : Str} {px px' pt : Pos} {k : Nat} {m : Str → Option Value} {news : List (Addr × Obj)} (hh : A.handled = none)
    (F : Fr h₀ env.locals s.heap m) (N : News h₀ env.locals s.heap news) (hx : env.kindOf x = some .local) (hx' : env.kindOf x' = some .local) (hk : env.scope.kind = .function)
    (J : Nat → (Str → Option Value) → List (Addr × Obj) → Prop) (h0 : J 0 m news)
    (step : ∀ i c tki tkc m₁ news₁ h₁ tk₁ own, xs.cps[i]? = some c → J i m₁ news₁ → (∀ p ∈ own, ∀ q ∈ news₁, p.1 ≠ q.1) → Fr h₀ env.locals h₁ (fun y => if y = x' then some (.str ⟨#[c]⟩ tkc) else if y = x then some (.int i tki) else m₁ y) → News h₀ env.locals h₁ (own ++ news₁) →
      wpAny (model PG w) A (execs body env) (StepJ h₀ env.locals own (news₁.map (·.1)) h₁ (J (i + 1)) { s with heap := h₁, toks := tk₁ } Q) E { s with heap := h₁, toks := tk₁ })
    (done : ∀ h' tk m' news', Fr h₀ env.locals h' m' → News h₀ env.locals h' news' → J xs.cps.size m' news' → Q .next { s with heap := h', toks := tk }) :
    wpAny (model PG w) A (call (.type "enumerate") [.str xs t]) (fun xv s₁ => wpAny (model PG w) A (pyIter xv) (fun it s₂ => TurnsAt PG w A h₀ env (.Tuple [.Name x px, .Name x' px'] k pt) body Q E it s₂) E s₁) E s := by
  have hLs : env.locals < s.heap.objs.size := F.ns.lt
  refine call_enumerate_str fun h' he hit hsz hk' => ?_
  have F' : Fr h₀ env.locals h' m := ⟨F.ns.keeps hk', fun b o e => hk' b o (F.keep b o e), F.above⟩
  have N' : News h₀ env.locals h' news := fun p hp => ⟨hk' _ _ (N p hp).1, (N p hp).2⟩
  refine wpAny_pyIter_enum he ?_
  have main : ∀ St : Nat → Heap → Prop, Draws PG w A.in1 s.heap.objs.size [s.heap.objs.size] xs.cps.size (fun i v => ∃ c u, xs.cps[i]? = some c ∧ v = .str ⟨#[c]⟩ u) St → St 0 h' →
      TurnsAt PG w A h₀ env (.Tuple [.Name x px, .Name x' px'] k pt) body Q E (.ref (s.heap.objs.size + 1)) { s with heap := h' } := by
    intro St D hst
    refine pair_turns (P2 := fun i v0 v1 => (∃ t, v0 = .int i t) ∧ ∃ c u, xs.cps[i]? = some c ∧ v1 = .str ⟨#[c]⟩ u) hh (WalksT.enumerateD D _ (Nat.succ_ne_self _) (fun hm => Nat.succ_ne_self _ (List.mem_singleton.mp hm)) (.head _)).toU ?_ ?_ ?_ ?_ ?_ ⟨⟨_, by simpa using he⟩, hst⟩ F' N' hx hx' hk J h0 ?_ done
    · rintro i vals ⟨t, v, hv, rfl⟩; exact ⟨_, _, rfl, ⟨t, rfl⟩, hv⟩
    · rintro i h ⟨⟨old, he⟩, hs⟩ b hb
      rcases List.mem_cons.mp hb with rfl | hb
      · exact ⟨_, he⟩
      · rw [List.mem_singleton.mp hb]; exact D.live _ _ hs
    · intro hm
      rcases List.mem_cons.mp hm with e | hm
      · exact Nat.ne_of_lt (Nat.lt_succ_of_lt hLs) e
      · exact Nat.ne_of_lt hLs (List.mem_singleton.mp hm)
    · intro b hb
      rcases List.mem_cons.mp hb with rfl | hb
      · exact Fr.none F (Nat.le_succ _)
      · rw [List.mem_singleton.mp hb]; exact Fr.none F (Nat.le_refl _)
    · intro p hp hb
      have hq1 : p.1 < s.heap.objs.size := Heap.lt_size (N p hp).1
      rcases List.mem_cons.mp hb with e1 | hb
      · exact Nat.ne_of_lt (Nat.lt_succ_of_lt hq1) e1
      · exact Nat.ne_of_lt hq1 (List.mem_singleton.mp hb)
    · rintro i v v' m₁ news₁ h₁ tk₁ own hi ⟨⟨tki, rfl⟩, c, u, hc, rfl⟩ hJ hown hoff F'' N''
      refine step i c tki u m₁ news₁ h₁ tk₁ own hc hJ (fun p hp q hq e => hoff q hq ?_) F'' N''
      rw [← e]; exact hown p hp
  cases ha : xs.cps.all (· < 128)
  · exact main _ (Draws.strWide (A := A.in1) hh s.heap.objs.size xs t) (by simpa [strIterType, ha] using hit)
  · exact main _ (Draws.strAscii (A := A.in1) hh s.heap.objs.size xs t) (by simpa [strIterType, ha] using hit)

/-- enumerate over a list of the heap -/
theorem enum_list {l : Addr} {items : Array Value} {x x' : Str} {px px' pt : Pos} {k : Nat} {m : Str → Option Value} {news : List (Addr × Obj)} (hh : A.handled = none)
    (hl : s.heap.IsList l items) (hlL : l ≠ env.locals) (F : Fr h₀ env.locals s.heap m) (N : News h₀ env.locals s.heap news) (hx : env.kindOf x = some .local) (hx' : env.kindOf x' = some .local) (hk : env.scope.kind = .function)
    (J : Nat → (Str → Option Value) → List (Addr × Obj) → Prop) (h0 : J 0 m news)
    (step : ∀ i v tki m₁ news₁ h₁ tk₁ own, items[i]? = some v → J i m₁ news₁ → (∀ p ∈ own, p.1 = l ∨ ∀ q ∈ news₁, p.1 ≠ q.1) → Fr h₀ env.locals h₁ (fun y => if y = x' then some v else if y = x then some (.int i tki) else m₁ y) → News h₀ env.locals h₁ (own ++ news₁) →
      wpAny (model PG w) A (execs body env) (StepJ h₀ env.locals own (news₁.map (·.1)) h₁ (J (i + 1)) { s with heap := h₁, toks := tk₁ } Q) E { s with heap := h₁, toks := tk₁ })
    (done : ∀ h' tk m' news', Fr h₀ env.locals h' m' → News h₀ env.locals h' news' → J items.size m' news' → Q .next { s with heap := h', toks := tk }) :
    wpAny (model PG w) A (call (.type "enumerate") [.ref l]) (fun xv s₁ => wpAny (model PG w) A (pyIter xv) (fun it s₂ => TurnsAt PG w A h₀ env (.Tuple [.Name x px, .Name x' px'] k pt) body Q E it s₂) E s₁) E s := by
  have hLs : env.locals < s.heap.objs.size := F.ns.lt
  have hls : l < s.heap.objs.size := by obtain ⟨o, ho, _⟩ := hl; exact Heap.lt_size ho
  refine call_enumerate_list hl fun h' he hit hsz hk' => ?_
  have F' : Fr h₀ env.locals h' m := ⟨F.ns.keeps hk', fun b o e => hk' b o (F.keep b o e), F.above⟩
  have N' : News h₀ env.locals h' news := fun p hp => ⟨hk' _ _ (N p hp).1, (N p hp).2⟩
  refine wpAny_pyIter_enum he ?_
  have D := Draws.list (prog := PG) (w := w) (A := A.in1) hh s.heap.objs.size l (Nat.ne_of_lt hls) items
  refine pair_turns (P2 := fun i v0 v1 => (∃ t, v0 = .int i t) ∧ items[i]? = some v1) hh (WalksT.enumerateD D (s.heap.objs.size + 1) (Nat.succ_ne_self _) ?_ (.head _)).toU ?_ ?_ ?_ ?_ ?_ ⟨⟨_, by simpa using he⟩, hit, hl.at fun o e => hk' l o e⟩ F' N' hx hx' hk J h0 ?_ done
  · intro hm
    rcases List.mem_cons.mp hm with e | hm
    · exact Nat.succ_ne_self _ e
    · exact Nat.ne_of_gt (Nat.lt_succ_of_lt hls) (List.mem_singleton.mp hm)
  · rintro i vals ⟨t, v, hv, rfl⟩; exact ⟨_, _, rfl, ⟨t, rfl⟩, hv⟩
  · rintro i h ⟨⟨old, he⟩, hs⟩ b hb
    rcases List.mem_cons.mp hb with rfl | hb
    · exact ⟨_, he⟩
    · rw [List.mem_singleton.mp hb]; exact D.live _ _ hs
  · intro hm
    rcases List.mem_cons.mp hm with e | hm
    · exact Nat.ne_of_lt (Nat.lt_succ_of_lt hLs) e
    · rcases List.mem_cons.mp hm with e | hm
      · exact Nat.ne_of_lt hLs e
      · exact hlL (List.mem_singleton.mp hm).symm
  · intro b hb
    rcases List.mem_cons.mp hb with rfl | hb
    · exact Fr.none F (Nat.le_succ _)
    · rw [List.mem_singleton.mp hb]; exact Fr.none F (Nat.le_refl _)
  · intro p hp hb
    have hq1 : p.1 < s.heap.objs.size := Heap.lt_size (N p hp).1
    rcases List.mem_cons.mp hb with e1 | hb
    · exact Nat.ne_of_lt (Nat.lt_succ_of_lt hq1) e1
    · exact Nat.ne_of_lt hq1 (List.mem_singleton.mp hb)
  · rintro i v v' m₁ news₁ h₁ tk₁ own hi ⟨⟨tki, rfl⟩, hv⟩ hJ hown hoff F'' N''
    refine step i v' tki m₁ news₁ h₁ tk₁ own hv hJ (fun p hp => ?_) F'' N''
    rcases List.mem_cons.mp (hown p hp) with e | hm
    · exact .inr fun q hq e' => hoff q hq (by rw [← e', e]; exact .head _)
    · rcases List.mem_cons.mp hm with e | hm
      · exact .inr fun q hq e' => hoff q hq (by rw [← e', e]; exact .tail _ (.head _))
      · exact .inl (List.mem_singleton.mp hm)

/-- a list of the heap under one name -/
theorem list_turns {l : Addr} {items : Array Value} {x : Str} {px : Pos} {m : Str → Option Value} {news : List (Addr × Obj)} (hh : A.handled = none)
    (hl : s.heap.IsList l items) (hlL : l ≠ env.locals) (F : Fr h₀ env.locals s.heap m) (N : News h₀ env.locals s.heap news) (hx : env.kindOf x = some .local) (hk : env.scope.kind = .function)
    (J : Nat → (Str → Option Value) → List (Addr × Obj) → Prop) (h0 : J 0 m news)
    (step : ∀ i v m₁ news₁ h₁ tk₁ own, items[i]? = some v → J i m₁ news₁ → (∀ p ∈ own, p.1 = l ∨ ∀ q ∈ news₁, p.1 ≠ q.1) → Fr h₀ env.locals h₁ (fun y => if y = x then some v else m₁ y) → News h₀ env.locals h₁ (own ++ news₁) →
      wpAny (model PG w) A (execs body env) (StepJ h₀ env.locals own (news₁.map (·.1)) h₁ (J (i + 1)) { s with heap := h₁, toks := tk₁ } Q) E { s with heap := h₁, toks := tk₁ })
    (done : ∀ h' tk m' news', Fr h₀ env.locals h' m' → News h₀ env.locals h' news' → J items.size m' news' → Q .next { s with heap := h', toks := tk }) :
    wpAny (model PG w) A (pyIter (.ref l)) (fun it s₂ => TurnsAt PG w A h₀ env (.Name x px) body Q E it s₂) E s := by
  have hLs : env.locals < s.heap.objs.size := F.ns.lt
  have hls : l < s.heap.objs.size := by obtain ⟨o, ho, _⟩ := hl; exact Heap.lt_size ho
  refine wpAny_pyIter_list hl ?_
  refine name_turns (Walks.list hh s.heap.objs.size l (Nat.ne_of_lt hls) items) (fun i h e => let ⟨o, ho, _⟩ := e.1; ⟨o, ho⟩) ?_ (next_none F) ?_ ⟨⟨_, Heap.get?_push_size _ rfl, rfl, rfl⟩, hl.push _⟩ (F.push _) (fun p hp => ⟨Heap.get?_push_of_some _ (N p hp).1, (N p hp).2⟩) hx hk J h0 ?_ done
  · intro hm
    rcases List.mem_cons.mp hm with e | hm
    · exact Nat.ne_of_lt hLs e
    · exact hlL (List.mem_singleton.mp hm).symm
  · intro p hp e; exact absurd (Heap.lt_size (N p hp).1) (e ▸ Nat.lt_irrefl _)
  · rintro i v m₁ news₁ h₁ tk₁ own hi hv hJ hown hoff F' N'
    refine step i v m₁ news₁ h₁ tk₁ own hv hJ (fun p hp => ?_) F' N'
    rcases List.mem_cons.mp (hown p hp) with e | hm
    · exact .inr fun q hq e' => hoff q hq (by rw [← e', e])
    · exact .inl (List.mem_singleton.mp hm)

/-- a list of pairs of the heap under two names -/
theorem pairs_turns {l : Addr} {items : Array Value} {Ts : Nat → Addr} {vals : Nat → Value × Value} {x x' : Str} {px px' pt : Pos} {k : Nat} {m : Str → Option Value} {news : List (Addr × Obj)} (hh : A.handled = none)
    (hl : s.heap.IsList l items) (hit : ∀ j, j < items.size → items[j]? = some (.ref (Ts j))) (hT : ∀ j, j < items.size → s.heap.IsTuple (Ts j) #[(vals j).1, (vals j).2])
    (hlL : l ≠ env.locals) (hTL : ∀ j, j < items.size → Ts j ≠ env.locals) (F : Fr h₀ env.locals s.heap m) (N : News h₀ env.locals s.heap news) (hx : env.kindOf x = some .local) (hx' : env.kindOf x' = some .local) (hk : env.scope.kind = .function)
    (J : Nat → (Str → Option Value) → List (Addr × Obj) → Prop) (h0 : J 0 m news)
    (step : ∀ i m₁ news₁ h₁ tk₁ own, i < items.size → J i m₁ news₁ → (∀ p ∈ own, p.1 = l ∨ (∃ j, j < items.size ∧ p.1 = Ts j) ∨ ∀ q ∈ news₁, p.1 ≠ q.1) → Fr h₀ env.locals h₁ (fun y => if y = x' then some (vals i).2 else if y = x then some (vals i).1 else m₁ y) → News h₀ env.locals h₁ (own ++ news₁) →
      wpAny (model PG w) A (execs body env) (StepJ h₀ env.locals own (news₁.map (·.1)) h₁ (J (i + 1)) { s with heap := h₁, toks := tk₁ } Q) E { s with heap := h₁, toks := tk₁ })
    (done : ∀ h' tk m' news', Fr h₀ env.locals h' m' → News h₀ env.locals h' news' → J items.size m' news' → Q .next { s with heap := h', toks := tk }) :
    wpAny (model PG w) A (pyIter (.ref l)) (fun it s₂ => TurnsAt PG w A h₀ env (.Tuple [.Name x px, .Name x' px'] k pt) body Q E it s₂) E s := by
  have hLs : env.locals < s.heap.objs.size := F.ns.lt
  have hls : l < s.heap.objs.size := by obtain ⟨o, ho, _⟩ := hl; exact Heap.lt_size ho
  have hTs : ∀ j, j < items.size → Ts j < s.heap.objs.size := fun j hj => by obtain ⟨o, ho, _⟩ := hT j hj; exact Heap.lt_size ho
  refine wpAny_pyIter_list hl ?_
  refine pair_turns (P2 := fun i v0 v1 => v0 = (vals i).1 ∧ v1 = (vals i).2) hh (WalksU.listOfTuples hh s.heap.objs.size l (Nat.ne_of_lt hls) items Ts (fun j => #[(vals j).1, (vals j).2]) hit (fun j hj => Nat.ne_of_lt (hTs j hj))) ?_ ?_ ?_ ?_ ?_
    ⟨⟨_, Heap.get?_push_size _ rfl, rfl, rfl⟩, hl.push _, fun j hj => (hT j hj).at fun o e => Heap.get?_push_of_some _ e⟩ (F.push _) (fun p hp => ⟨Heap.get?_push_of_some _ (N p hp).1, (N p hp).2⟩) hx hx' hk J h0 ?_ done
  · rintro i v rfl; exact ⟨_, _, rfl, rfl, rfl⟩
  · rintro i h ⟨⟨o, ho, _⟩, _⟩ b hb; rw [List.mem_singleton.mp hb]; exact ⟨o, ho⟩
  · intro hm
    rcases List.mem_cons.mp hm with e | hm
    · exact Nat.ne_of_lt hLs e
    · rcases List.mem_cons.mp hm with e | hm
      · exact hlL e.symm
      · obtain ⟨j, hj, e⟩ := List.mem_map.mp hm
        exact hTL j (List.mem_range.mp hj) e
  · intro b hb; rw [List.mem_singleton.mp hb]; exact Fr.none F (Nat.le_refl _)
  · intro p hp hb
    exact Nat.ne_of_lt (Heap.lt_size (N p hp).1) (List.mem_singleton.mp hb)
  · rintro i v v' m₁ news₁ h₁ tk₁ own hi ⟨rfl, rfl⟩ hJ hown hoff F'' N''
    refine step i m₁ news₁ h₁ tk₁ own hi hJ (fun p hp => ?_) F'' N''
    rcases List.mem_cons.mp (hown p hp) with e | hm
    · exact .inr (.inr fun q hq e' => hoff q hq (by rw [← e', e]; exact .head _))
    · rcases List.mem_cons.mp hm with e | hm
      · exact .inl e
      · obtain ⟨j, hj, e⟩ := List.mem_map.mp hm
        exact .inr (.inl ⟨j, List.mem_range.mp hj, e.symm⟩)
end Mine

end

section
open PySem PySem.W PySem.Calls PyProof.Rows
set_option Elab.async false
set_option maxRecDepth 100000
set_option maxHeartbeats 400000
namespace Mine
theorem fresh_B7 : True := by
  w_top off
  trivial
variable {w : World} {A : Around} {E : Value → Shared → Prop} {s : Shared} {h₀ : Heap} {L D : Addr} {m : Str → Option Value} {own post : List (Addr × Obj)}
theorem set_list {items : Array Value} {n : Nat} {k : Int} {t : Tok} {v : Value} {Q : Unit → Shared → Prop} (F : Fr h₀ L s.heap m) (N : News h₀ L s.heap (own ++ (D, PySem.W.listOf items n) :: post)) (h1 : ∀ p ∈ own, p.1 ≠ D) (h2 : ∀ p ∈ post, p.1 ≠ D)
    (h0 : 0 ≤ k) (hn : k < items.size) (hz : items.size ≤ 1000)
    (h : ∀ h' n', Fr h₀ L h' m → News h₀ L h' (own ++ (D, PySem.W.listOf (items.setIfInBounds k.toNat v) n') :: post) → Q () { s with heap := h' }) :
    wpAny (model PG w) A (setItem (.ref D) (.int k t) v) Q E s := by
  have z := N (D, PySem.W.listOf items n) (List.mem_append.mpr (.inr (.head _)))
  exact ki_setAt z.1 h0 (by omega) hn (h _ _ (F.change (Heap.SameBut.update ..) z.2.1 z.2.2) (ki_turn _ N h1 h2 rfl rfl))
theorem app_list {items : Array Value} {n : Nat} {v : Value} {Q : Value → Shared → Prop} (F : Fr h₀ L s.heap m) (N : News h₀ L s.heap (own ++ (D, PySem.W.listOf items n) :: post)) (h1 : ∀ p ∈ own, p.1 ≠ D) (h2 : ∀ p ∈ post, p.1 ≠ D) (hz : items.size ≤ 100000)
    (h : ∀ h', Fr h₀ L h' m → News h₀ L h' (own ++ (D, PySem.W.listOf (items.push v) (n + 1)) :: post) → Q .none { s with heap := h' }) :
    wpAny (model PG w) A (call (.builtin "list.append") [.ref D, v]) Q E s := by
  have z := N (D, PySem.W.listOf items n) (List.mem_append.mpr (.inr (.head _)))
  exact append_at (hsz := by rw [sizeLine_eq]; omega) z.1 fun h' hs ho' => h h' (F.change hs z.2.1 z.2.2) (news_set N h1 h2 hs ho')
theorem listOf_is {h : Heap} {items : Array Value} {n : Nat} (e : h.get? D = some (PySem.W.listOf items n)) : h.IsList D items := ⟨_, e, rfl, n, rfl⟩
theorem sub_list {value slice : Expr} {l : Addr} {items : Array Value} {i : Int} {u : Tok} {x : Value} {Q : Value → Shared → Prop} (hl : s.heap.IsList l items) (h0 : 0 ≤ i) (hi : i < 1000000) (hx : items[i.toNat]? = some x) (h : Q x s)
    (hb : subscripted slice false (.ref l) (.int i u) = operate [.ref l, .int i u] (getItem (.ref l) (.int i u)) := by with_unfolding_all rfl) :
    wpAny (model PG w) A (subscriptTail value slice (.ref l) (.int i u)) Q E s :=
  tail_any hl.typeIs slot_list_getitem.lookup (wpAny_getItem_list hl h0 (by omega) hx h) hb
theorem row_at {row : List Int} {vs : List Value} (h : IntsAre vs row) {n : Nat} (hn : n < row.length) : ∃ y t, row[n]? = some y ∧ vs[n]? = some (Value.int y t) := by
  obtain ⟨v, hv⟩ : ∃ v, vs[n]? = some v := ⟨vs[n]'(by rw [h.length]; exact hn), List.getElem?_eq_getElem (by rw [h.length]; exact hn)⟩
  obtain ⟨n', t', rfl, hn'⟩ := IntsAre.at h _ _ hv
  exact ⟨n', t', hn', hv⟩
theorem sub_list_neg {value slice : Expr} {l : Addr} {items : Array Value} {i : Int} {u : Tok} {x : Value} {Q : Value → Shared → Prop} (hl : s.heap.IsList l items) (h0 : i < 0) (h1 : -(items.size : Int) ≤ i) (hz : -1000000 ≤ i) (hx : items[(i + items.size).toNat]? = some x) (h : Q x s)
    (hb : subscripted slice false (.ref l) (.int i u) = operate [.ref l, .int i u] (getItem (.ref l) (.int i u)) := by with_unfolding_all rfl) :
    wpAny (model PG w) A (subscriptTail value slice (.ref l) (.int i u)) Q E s :=
  tail_any hl.typeIs slot_list_getitem.lookup (wpAny_getItem_list_neg hl h0 h1 (by omega) hx h) hb
/-- a cell of the ledger written -/
theorem cell_set {env : Env} {name : Str} {c : Addr} {v₀ : Option Value} {v : Value} {o : Obj} {Q : Unit → Shared → Prop} (hk : env.scope.kind = .function) (hl : env.kindOf name = some .cell) (hc : env.cells.lookup name = some c)
    (F : Fr h₀ L s.heap m) (N : News h₀ L s.heap (own ++ (c, o) :: post)) (hd : o.data = .cell v₀) (h1 : ∀ p ∈ own, p.1 ≠ c) (h2 : ∀ p ∈ post, p.1 ≠ c)
    (h : ∀ h' o', Fr h₀ L h' m → News h₀ L h' (own ++ (c, o') :: post) → o'.data = .cell (some v) → Q () { s with heap := h' }) : wpAny (model PG w) A (storeName env name v) Q E s := by
  have z := N (c, o) (List.mem_append_right _ (.head _))
  refine wpAny_storeName_cell hk hl hc ⟨o, z.1, hd⟩ fun h' hv hs => ?_
  obtain ⟨o', ho', hd'⟩ := hv
  exact h h' o' (F.change hs z.2.1 z.2.2) (news_set N h1 h2 hs ho') hd'
end Mine

end

section
open PySem PySem.W PySem.Calls PyProof.Rows
open Sem (wp)
set_option Elab.async false
set_option maxRecDepth 100000
set_option maxHeartbeats 400000
namespace Mine
theorem fresh_K0 : True := by
  w_top off
  trivial
section
variable {w : World} {A : Around} {E : Value → Shared → Prop} {s : Shared} {env : Env}
theorem callWithK_def {f : Value} {pos : Pos} {e : Expr} {rest : List Expr} {Q : Value → Shared → Prop} (hk : keepIn (KK w) f = true)
    (h : wpAny (model PG w) A (spliced (backTo pos (starEach (e :: rest) env))) (fun vs s₁ => (KK w).In s₁.heap ∧ wpK (model PG w) A (call f vs) Q E s₁) E s)
    (he : starEach (e :: rest) env = (false, eval e env) :: starEach rest env) (hplain : (backTo pos (starEach rest env)).any (·.1) = false) :
    wpK (model PG w) A (callWith pos f [] (backTo pos (starEach (e :: rest) env)) []) Q E s := by
  rw [he] at h ⊢
  have hpl : ((backTo pos ((false, eval e env) :: starEach rest env)).any (·.1) || ([] : List (Option Str × Sem Value)).any (·.1.isNone)) = false := by
    show ((false || (backTo pos (starEach rest env)).any (·.1)) || false) = false; rw [hplain]; rfl
  have h2 : wpAny (model PG w) A (evalArgs f true (backTo pos ((false, eval e env) :: starEach rest env)) []) (fun a s₁ => (KK w).In s₁.heap ∧ wpK (model PG w) A (call f ([] ++ a.pos) a.kw) Q E s₁) E s := evalArgs_plain h
  unfold callWith
  refine wpK_bindA (wpAny_holding (wpAny_mono h2 (fun a s₁ h₁ => wpK_bindA (wpAny_standAt ?_)) fun _ _ x => x))
  obtain ⟨k, hk', L⟩ := keeps_K (M := model PG w) hk _ h₁.1
  simp only [hpl]
  refine wpK_bindA (L.here ?_)
  have tail : ∀ {t : Sem Value}, wpK (model PG w) A t Q E s₁ → wpK (model PG w) A (t >>= fun r => holding [r] point >>= fun _ => pure r) Q E s₁ :=
    fun ht => wpK_bind (wpK_mono ht (fun r s₂ hr => wpK_of (wpAny_bind (wpAny_holding (wpAny_point (wpAny_pure hr))))) fun _ _ x => x)
  have marked (mk : Value) : wpK (model PG w) A (callMarked mk f ([] ++ a.pos) a.kw) Q E s₁ := by unfold callMarked; exact wpK_keep h₁.2
  rcases hk' with rfl | rfl | rfl <;> dsimp only <;> first | exact tail h₁.2 | (split <;> first | exact tail h₁.2 | exact tail (marked _))

/-- a call of a def of the text: its frame laid, its body run -/
theorem callK_def {f : Addr} {vals : List Value} {Q : Value → Shared → Prop}
    {name qual : Str} {params : Arguments} {body : List Stmt} {scope : Scope} {dV kV doc pm cdv ct oc : Value} {an od : Option Addr} {osl : Array (Option Value)} (binds : List (Str × Value))
    (W : Wd w s.heap) (ho : (KK w).lookup f = some ⟨oc, od, .func (fnOf name qual params body scope dV kV doc pm an cdv ct), osl⟩) (hcd : codeIn (KK w) cdv qual = true)
    (hroom : A.depth < recursionLimit) (hbind : bindArgs (fnOf name qual params body scope dV kV doc pm an cdv ct) ⟨vals, []⟩ = pure binds) (hloc : ∀ y ∈ binds, scope.names.lookup y.1 = some .local)
    (hcell : ∀ x ∈ scope.names, x.2 ≠ .cell)
    (h : ∀ h₁ tk, Fr s.heap s.heap.objs.size h₁ (fun y => binds.reverse.lookup y) → Wd w s.heap →
      wpK (model PG w) (A.deeper (envOf qual scope s.heap.objs.size f cdv)) (execs body (envOf qual scope s.heap.objs.size f cdv))
        (fun fl s' => Q (match fl with | .ret v => v | _ => .none) s') (fun _ _ => False) { s with heap := h₁, toks := tk })
    (hco : scope.isCoroutine = false) (hgen : scope.isGenerator = false) (hk : scope.kind = .function) :
    wpK (model PG w) A (call (.ref f) vals []) Q E s := by
  refine wpK_call (codeK_of_tree rfl ?_)
  show wpK _ A.in1 (callAny (.ref f) ⟨vals, []⟩) _ _ s
  simp only [callAny]
  refine wpK_bindA (wpAny_load (W.X _ _ ho) ?_)
  obtain ⟨c, oc, vs, tq, hc, hoc, hdc, hq⟩ := codeRec_of W.X hcd
  subst hc
  simp only [callFunction, hco, hgen]
  refine wpK_bindA (m := field (.ref c) 1) (wpAny_field hoc hdc hq (wpK_bindA (wpAny_pure ?_)))
  simp only [hbind]
  refine wpK_bindA (wpAny_pure (wpK_bindA (wpAny_newFunctionEnv hcell hloc (fun h₀ hns₀ hsb₀ => ?_) hk)))
  refine wpK_bindA (wpAny_enterFrame (W.nolimit.fresh _ hsb₀) hroom (wpK_pure ⟨rfl, codeK_of_tree rfl ?_⟩))
  have h' := h h₀ (s.toks + binds.length) ⟨hns₀, fun b o e => hsb₀.extBut b o (Nat.ne_of_lt (Heap.lt_size e)) (Heap.get?_push_of_some _ e), Nat.le_refl _⟩ W
  show wpK _ (A.deeper _) (do point; match ← (execs body _).onRaise (leaving _) with | .ret v => ret v | _ => ret .none) _ _ _
  refine wpK_bindA (wpAny_point (wpK_bind (wpK_onRaise (wpK_mono h' (fun fl s' q => ?_) fun _ _ e => e.elim))))
  cases fl <;> exact wpK_pure q
end
end Mine

end

section
open PySem PySem.W PySem.Calls PyProof.Rows
open Sem (wp)
set_option Elab.async false
set_option maxRecDepth 100000
set_option maxHeartbeats 400000
namespace Mine
theorem fresh_K1 : True := by
  w_top off
  trivial
theorem ba_mro : mroOf (.type "bytearray") = pure [.type "bytearray", .type "object"] := by rw [mroOf_type]; kernel_rfl
theorem ba_lookup_new : typeLookup (.type "bytearray") "__new__" = pure (some (.builtin "bytearray.__new__")) := by rw [typeLookup_type, builtinLookup_eq_fast]; kernel_rfl
theorem ba_slot_init : Slot "bytearray" "__init__" "bytearray.__init__" :=
  .of (owner := "bytearray") (n := "__init__") (by rw [typeLookup_type, builtinLookup_eq_fast]; kernel_rfl) (by decide +kernel) (by decide +kernel) (by decide +kernel)
    (by first | exact .inl (by decide +kernel) | exact .inr (by decide +kernel)) (by rw [isSubtype_type]; kernel_rfl)
theorem ba_slot_release : Slot "bytearray" "__release_buffer__" "bytearray.__release_buffer__" :=
  .of (owner := "bytearray") (n := "__release_buffer__") (by rw [typeLookup_type, builtinLookup_eq_fast]; kernel_rfl) (by decide +kernel) (by decide +kernel) (by decide +kernel)
    (by first | exact .inl (by decide +kernel) | exact .inr (by decide +kernel)) (by rw [isSubtype_type]; kernel_rfl)
theorem ba_called : TypeCalled "bytearray" "bytearray.__new__" "bytearray.__init__" :=
  ⟨by decide +kernel, by decide +kernel, ⟨_, _, ba_mro⟩, madeBy_type ba_mro ba_lookup_new (by decide +kernel), by decide +kernel, by rw [isSubtype_type]; kernel_rfl, ba_slot_init⟩
theorem ba_typeCall (a : Value) : checkTypeCall "bytearray" ⟨[a], []⟩ = pure () := by kernel_rfl
theorem ba_newCall (a : Value) : checkBuiltinCall "bytearray.__new__" ⟨[.type "bytearray", a], []⟩ = pure () := by kernel_rfl
theorem ba_entry_new : entryFor table "bytearray.__new__" = some Builtin.«list.__new__» := entryFor_alias (id' := "list.__new__") (by kernel_rfl) rfl (by decide +kernel) (by kernel_rfl)
theorem ba_entry_init : entryFor table "bytearray.__init__" = some Builtin.«bytearray.__init__» := by first | exact entryFor_of_fast (by kernel_rfl) | exact entryFor_of_tree (by kernel_rfl)
theorem ba_plain_new : plainId "bytearray.__new__" = true := by decide +kernel
theorem ba_plain_init : plainId "bytearray.__init__" = true := by decide +kernel
theorem ba_owner : Manifest.owners.lookup (String.ofList ['y', 'a', 'r', 'r', 'a', 'e', 't', 'y', 'b'].reverse) = some Manifest.sig_bytearray := by kernel_rfl
theorem ba_args (a b : Value) : argsOk "bytearray.__init__" ⟨[a, b], []⟩ := by
  unfold argsOk; rw [signature?_of (id := "bytearray.__init__") (n := ['_', '_', 't', 'i', 'n', 'i', '_', '_']) (o := ['y', 'a', 'r', 'r', 'a', 'e', 't', 'y', 'b']) (by kernel_rfl) ba_owner]; kernel_rfl
theorem ba_sub : isSubtype (.type "bytearray") (.type "bytearray") = pure true := by rw [isSubtype_type]; kernel_rfl
theorem ba_bind (v : Value) : Builtin.Bytes.bindOptional "bytearray.__init__" "bytearray" ["source", "encoding", "errors"] [v] [] = pure [some v, none, none] := by kernel_rfl
set_option linter.deprecated false
set_option maxRecDepth 1000000 in
set_option maxHeartbeats 4000000 in
theorem ba_owner_new : ("bytearray.__new__".splitOn ".__new__").headD "" = "bytearray" := by simp +decide [String.splitOn, String.splitOnAux]
theorem ba_cut : ("bytearray.__release_buffer__".dropRight ("__release_buffer__".length + 1)) = "bytearray" := by decide +kernel
theorem ba_ends : ("bytearray.__release_buffer__".endsWith ("." ++ "__release_buffer__")) = true := by decide +kernel

section
variable {w : World} {A : Around} {E : Value → Shared → Prop} {s : Shared}
theorem ba_code_new (a : Value) {Q₁ : Value → Shared → Prop} (h : Q₁ (.ref s.heap.objs.size) { s with heap := s.heap.push { cls := .type "bytearray", data := .bytearray #[] } }) :
    codeAny (model PG w) A (.call (.builtin "bytearray.__new__") ⟨[.type "bytearray", a], []⟩) (wants Q₁ E) s := by
  refine codeAny_of_tree ?_
  show wpAny _ A.in1 (do checkBuiltinCall "bytearray.__new__" ⟨[.type "bytearray", a], []⟩; again (.builtin "bytearray.__new__" ⟨[.type "bytearray", a], []⟩)) _ _ s
  refine wpAny_bind (wpAny_of_eq (ba_newCall a) (wpAny_pure ⟨plainId_quiet ba_plain_new _, codeAny_builtin_stack ba_entry_new rfl fun p st => ?_⟩))
  rw [Around.under_plainId ba_plain_new _]
  have hsub := ba_sub
  have hown := ba_owner_new
  obtain ⟨hp, g, d, tk, os⟩ := s
  simp only [hown]
  wp_walk
  exact h

theorem ba_slotIsOwn {a : Addr} {Q : Bool → Shared → Prop} (hT : s.TypeIs (.ref a) "bytearray") (h : Q true s) : wpAny (model PG w) A (Builtin.Bytes.slotIsOwn (.ref a) "__release_buffer__") Q E s := by
  unfold Builtin.Bytes.slotIsOwn
  refine wpAny_bind (wpAny_specialOf hT ba_slot_release.lookup ?_)
  show wpAny _ _ (if (!("bytearray.__release_buffer__".endsWith ("." ++ "__release_buffer__"))) = true then _ else _) _ _ _
  rw [ba_ends]
  refine wpAny_ite_false rfl ?_
  show wpAny _ _ (isInstance (.ref a) (.type ("bytearray.__release_buffer__".dropRight ("__release_buffer__".length + 1)))) _ _ _
  rw [ba_cut]
  exact wpAny_isInstance hT ba_sub h

theorem any_off {st : List (Code × Pos)} (hu : unc st = false) (hg : guardsOf st = []) {F : Code × Pos → Bool} (hF : ∀ c p, c.isGuard = false → badCode c = false → F (c, p) = false) : st.any F = false := by
  rw [List.any_eq_false]
  rintro ⟨c, p⟩ hx
  have hb : badCode c = false := by
    have := List.any_eq_false.mp hu (c, p) hx
    simpa using this
  have hgd : c.isGuard = false := by
    cases hq : c.isGuard with
    | false => rfl
    | true =>
      have : c ∈ guardsOf st := List.mem_filter.mpr ⟨List.mem_map.mpr ⟨_, hx, rfl⟩, hq⟩
      rw [hg] at this; cases this
  rw [hF c p hgd hb]; exact Bool.false_ne_true
theorem exported_K {M : Model} {self : Value} {Q : Bool → Shared → Prop} (hg : A.guards = some []) (h : Q false s) : wpK M A (Builtin.Bytes.exported self) Q E s := by
  unfold Builtin.Bytes.exported
  refine wpK_bind (wpK_stack fun st hu hgs => wpK_pure ?_)
  rw [any_off hu (hgs _ hg)]
  · exact h
  · intro c p hgd hb
    split
    · rename_i e; cases e; exact absurd hgd (by simp [Code.isGuard, guardIds])
    · rename_i e; cases e; exact absurd hgd (by simp [Code.isGuard, guardIds])
    · rename_i e; cases e; exact absurd hgd (by simp [Code.isGuard, guardIds])
    · rename_i e; cases e; exact absurd hgd (by simp [Code.isGuard, guardIds])
    · rename_i e; cases e; exact absurd hgd (by simp [Code.isGuard, guardIds])
    · rename_i id v tl kw p' _ _ _ _ _ e
      have : badCode c = Builtin.Bytes.decodersThatHold.contains id := by cases e; rfl
      rw [← this, hb, Bool.and_false]
    · rfl
theorem wpK_orM {M : Model} {x y : Sem Bool} {Q : Bool → Shared → Prop} (h : wpK M A x (fun b s' => if b = true then Q true s' else wpK M A y Q E s') E s) : wpK M A (x <||> y) Q E s := by
  unfold orM
  refine wpK_bind (wpK_mono h (fun b s' h' => ?_) fun _ _ e => e)
  cases b
  · exact h'
  · exact wpK_pure h'
def baObj (b : Array UInt8) : Obj := { cls := .type "bytearray", data := .bytearray b }
theorem ba_write {M : Model} {a : Addr} {f : Array UInt8 → Array UInt8} {b : Array UInt8} {Q : Unit → Shared → Prop} (ho : s.heap.get? a = some (baObj b)) (hz : (f b).size ≤ sizeLine)
    (h : ∀ h', h'.get? a = some (baObj (f b)) → Heap.SameBut a s.heap h' → Q () { s with heap := h' }) : wpAny M A (updateBytearray a f) Q E s := by
  unfold updateBytearray
  refine wpAny_bind (wpAny_load ho ?_)
  show wpAny _ _ (update a (Obj.mapBytearray f) >>= fun _ => lookBehind a) _ _ _
  refine wpAny_bind (wpAny_update ho ?_)
  have hS₂ : (s.heap.update a (Obj.mapBytearray f)).get? a = some (baObj (f b)) := Heap.get?_update_self (Obj.mapBytearray f) ho rfl
  refine wpAny_lookBehind hS₂ ?_ (h _ hS₂ (Heap.SameBut.update ..))
  show (if (f b).size > sizeLine then some "bytearray:memory" else none) = none
  rw [if_neg (by omega)]
theorem ba_asStr (n : Int) (t : Tok) : asStr? (.int n t) = pure none := rfl
theorem ba_asIndex (n : Int) (t : Tok) : asIndex (.int n t) = pure n := rfl
theorem ba_init {a : Addr} {n : Nat} {t : Tok} {Z : PySem.Fin → Shared → Prop} {X : Value → Shared → Prop} (hg : A.guards = some []) (hn : n ≤ sizeLine) (ho : s.heap.get? a = some { cls := .type "bytearray", data := .bytearray #[] })
    (h : ∀ h', h'.get? a = some { cls := .type "bytearray", data := .bytearray (Array.replicate n 0) } → (∀ b o, b ≠ a → s.heap.get? b = some o → h'.get? b = some o) → ∀ tk, Z (.done (.ret .none)) { s with heap := h', toks := tk }) :
    wpK (model PG w) A (Builtin.«bytearray.__init__» ⟨[.ref a, .int n t], []⟩) Z X s := by
  have hT : s.TypeIs (.ref a) "bytearray" := ⟨_, ho, rfl⟩
  unfold Builtin.«bytearray.__init__»
  dsimp only
  refine wpK_bindA ?_
  unfold Builtin.Bytes.ownRelease
  refine wpAny_bind (ba_slotIsOwn hT (wpAny_pure ?_))
  refine wpK_ite_neg (by decide) ?_
  refine wpK_bindA (wpAny_of_eq (ba_bind _) ?_)
  dsimp only
  refine wpK_bindA (wpAny_pure ?_)
  refine wpK_bindA (wpAny_pure ?_)
  refine wpK_bind (wpK_orM ?_)
  refine exported_K hg ?_
  refine wpK_bindA ?_
  unfold Builtin.Bytes.exportsOf
  refine wpAny_bind (wpAny_load ho (wpAny_pure (wpK_pure ?_)))
  refine wpK_ite_neg (by decide) (wpK_of ?_)
  refine wpAny_bind (ba_write (b := #[]) (f := fun _ => #[]) ho (Nat.zero_le _) fun h₁ ho₁ hs₁ => ?_)
  with_reducible refine wpAny_bind ?_
  with_reducible refine wpAny_of_eq (ba_asStr n t) ?_
  with_reducible refine bm_if_false rfl ?_
  with_reducible refine wpAny_bind ?_
  with_reducible refine bm_if_false rfl ?_
  with_reducible refine bm_if_false rfl ?_
  with_reducible refine wpAny_pure ?_
  with_reducible refine wpAny_bind ?_
  with_reducible refine wpAny_specialOf (typeIs_int _ _ _) F.slot_int_index.lookup ?_
  with_reducible refine bm_if_true rfl ?_
  with_reducible refine wpAny_bind ?_
  with_reducible refine wpAny_attempt ?_
  with_reducible refine wpAny_of_eq (ba_asIndex n t) ?_
  have e1 : (!Builtin.Bytes.fitsIndex (n : Int)) = false := by
    unfold Builtin.Bytes.fitsIndex
    rw [sizeLine_eq] at hn
    simp only [Bool.not_eq_false', Bool.and_eq_true, decide_eq_true_eq]
    constructor <;> omega
  have e2 : ((n : Int) == 2 ^ 63 - 1) = false := by rw [sizeLine_eq] at hn; rw [beq_eq_false_iff_ne]; omega
  have e3 : Builtin.Bytes.tooLong (n : Int).toNat = false := by unfold Builtin.Bytes.tooLong; rw [Int.toNat_natCast]; exact decide_eq_false (by omega)
  dsimp only
  with_reducible refine bm_if_false e1 ?_
  with_reducible refine wpAny_ite_false (decide_eq_false (by omega)) ?_
  with_reducible refine bm_if_false e2 ?_
  with_reducible refine bm_if_false e3 ?_
  with_reducible refine wpAny_bind ?_
  with_reducible refine wpAny_rule ?_
  by_cases h0 : (n : Int) > 0
  · with_reducible refine wpAny_ite_true (decide_eq_true h0) ?_
    with_reducible refine wpAny_bind ?_
    show wpAny _ _ (updateBytearray a (fun _ => Array.replicate (n : Int).toNat 0)) _ _ _
    refine ba_write (b := #[]) ho₁ (by simpa using hn) fun h₂ ho₂ hs₂ => ?_
    refine wpAny_pure (h h₂ (by simpa [baObj] using ho₂) (fun b o hb e => hs₂.extBut b o hb (hs₁.extBut b o hb e)) _)
  · with_reducible refine wpAny_ite_false (decide_eq_false h0) ?_
    have : n = 0 := by omega
    subst this
    refine wpAny_pure (h h₁ ho₁ (fun b o hb e => hs₁.extBut b o hb e) _)

theorem codeK_builtin {id : String} {args : Args} {b : Builtin} {R : Result → Shared → Prop} (hbad : badCode (.builtin id args) = false) (hb : entryFor table id = some b)
    (h : wpK (model PG w) (A.under (.builtin id args)) (b args) (fun fin s' => match fin with | .done f => R (.ok f) s' | .again c' => c'.quiet = true ∧ codeK (model PG w) A c' R s') (fun e s' => R (.error e) s') s) :
    codeK (model PG w) A (.builtin id args) R s := by
  refine codeK_of_tree hbad ?_
  show wpK _ _ (match entryFor table id with | some b => b args | none => unsupported ((withoutEnding? id "#data").getD id)) _ _ s
  rw [hb]; exact h
theorem codeK_call_builtin {id : String} {args : Args} {b : Builtin} {R : Result → Shared → Prop} (hq : plainId id = true) (hbad : badCode (.builtin id args) = false) (hb : entryFor table id = some b)
    (h : wpAny (model PG w) A.in1 (checkBuiltinCall id args) (fun _ s₁ => wpK (model PG w) A.in1 (b args)
      (fun fin s' => match fin with | .done f => R (.ok f) s' | .again c' => c'.quiet = true ∧ codeK (model PG w) A c' R s') (fun e s' => R (.error e) s') s₁)
      (fun e s' => R (.error e) s') s) : codeK (model PG w) A (.call (.builtin id) args) R s := by
  refine codeK_of_tree rfl ?_
  show wpK _ A.in1 (do checkBuiltinCall id args; again (.builtin id args)) _ _ s
  refine wpK_bindA (wpAny_mono h (fun _ s₁ h₁ => wpK_pure ⟨plainId_quiet hq args, codeK_builtin hbad hb ?_⟩) fun _ _ h' => h')
  rw [Around.under_plainId hq args]; exact h₁

end
end Mine

end

section
open PySem PySem.W PySem.Calls PyProof.Rows
open Sem (wp)
set_option Elab.async false
set_option maxRecDepth 100000
set_option maxHeartbeats 400000
namespace Mine
theorem fresh_K2 : True := by
  w_top off
  trivial
section
variable {w : World} {A : Around} {E : Value → Shared → Prop} {s : Shared}
theorem ba_call {n : Nat} {t : Tok} {Q : Value → Shared → Prop} (hg : A.guards = some []) (hn : n ≤ sizeLine)
    (h : ∀ h', h'.get? s.heap.objs.size = some (baObj (Array.replicate n 0)) → (∀ b o, s.heap.get? b = some o → h'.get? b = some o) → ∀ tk, Q (.ref s.heap.objs.size) { s with heap := h', toks := tk }) :
    wpK (model PG w) A (call (.type "bytearray") [.int n t]) Q E s := by
  refine wpK_call (codeK_of_tree rfl ?_)
  show wpK _ _ (callAny (.type "bytearray") _) _ _ _
  refine wpK_pure ⟨Code.quiet_builtin _ (by decide +kernel), codeK_builtin rfl F.entry_type_call ?_⟩
  rw [Around.under_plain (weight_type_call_type "bytearray" [.int n t] []) rfl]
  unfold Builtin.«type.__call__»
  dsimp only
  with_reducible refine wpK_ite_neg (by decide) ?_
  have h2 := ba_called.canCreate
  with_reducible refine wpK_ite_neg (by rw [Bool.not_eq_true]; exact h2) ?_
  with_reducible refine wpK_bindA ?_
  with_reducible refine wpAny_of_eq (ba_typeCall _) ?_
  with_reducible refine wpK_bindA ?_
  with_reducible refine wpAny_of_eq ba_mro ?_
  with_reducible refine wpK_ite_neg (by decide) ?_
  with_reducible refine wpK_bindA ?_
  with_reducible refine wpAny_of_eq ba_called.made ?_
  dsimp only
  with_reducible refine wpK_bindA ?_
  with_reducible refine wpAny_pure ?_
  with_reducible refine wpK_bindA ?_
  with_reducible refine wpAny_holding ?_
  with_reducible refine wpAny_call ?_
  refine codeAny_mono (ba_code_new (Q₁ := fun obj s₁ => obj = .ref s.heap.objs.size ∧ s₁ = { s with heap := s.heap.push { cls := .type "bytearray", data := .bytearray #[] } }) (E := fun _ _ => False) _ ⟨rfl, rfl⟩) fun r s₁ hr => ?_
  cases r with
  | error e => exact hr.elim
  | ok fl =>
    cases fl with
    | ret obj =>
      obtain ⟨rfl, rfl⟩ := hr
      have ho : (s.heap.push { cls := .type "bytearray", data := .bytearray #[] }).get? s.heap.objs.size = some { cls := .type "bytearray", data := .bytearray #[] } := Heap.get?_push_size _ rfl
      have hT : ({ s with heap := s.heap.push { cls := .type "bytearray", data := .bytearray #[] } } : Shared).TypeIs (.ref s.heap.objs.size) "bytearray" := ⟨_, ho, rfl⟩
      dsimp only
      with_reducible refine wpK_bindA ?_
      with_reducible refine wpAny_isInstance hT ba_sub ?_
      with_reducible refine wpK_ite_neg (by decide) ?_
      with_reducible refine wpK_bind ?_
      with_reducible refine wpK_holding ?_
      unfold callSpecial?
      with_reducible refine wpK_bindA ?_
      with_reducible refine wpAny_specialOf hT ba_slot_init.lookup ?_
      dsimp only
      with_reducible refine wpK_holding ?_
      with_reducible refine wpK_bindA ?_
      with_reducible refine wpAny_of_eq (ba_slot_init.bind _) ?_
      dsimp only
      with_reducible refine wpK_bind ?_
      with_reducible refine wpK_call ?_
      refine codeK_call_builtin ba_slot_init.plain rfl ba_entry_init (ba_slot_init.check _ _ _ _ _ _ _ _ hT (ba_args _ _) ?_)
      refine ba_init (s := { s with heap := s.heap.push { cls := .type "bytearray", data := .bytearray #[] } }) hg hn ho fun h' ho' hk' tk => ?_
      dsimp only
      refine wpK_pure ?_
      dsimp only
      refine wpK_ite_neg (by decide) (wpK_pure ?_)
      exact h h' ho' (fun b o e => hk' b o (Nat.ne_of_lt (Heap.lt_size e)) (Heap.get?_push_of_some _ e)) tk
    | _ => exact hr.elim
end
end Mine

end

section
open PySem PySem.W PySem.Calls PyProof.Rows
set_option Elab.async false
set_option maxRecDepth 100000
set_option maxHeartbeats 400000
namespace Mine
theorem fresh_RX : True := by
  w_top off
  trivial
/-! the regular expression of _fix_eols, as plain steps -/
def crWords : List Int := [14, 9, 4, 1, 2, 16, 10, 16, 13, 0, 7, 7, 16, 13, 16, 10, 15, 18, 5, 16, 10, 15, 13, 11, 16, 13, 5, 5, 0, 16, 10, 1, 15, 2, 0, 1]
def crCode : Array Nat := (crWords.map (·.toNat)).toArray
def driven : Nat → Sre.M → Option Sre.M
  | 0, _ => none
  | k + 1, m => let m := m.runFor 4; if m.outcome.isSome then some m else driven k m
inductive Hit where
  | lost | no | at_ (b e : Nat)
def hitOf : Option Sre.M → Hit
  | some m => match m.outcome with
    | some .matched => .at_ m.start m.handed
    | some .failed => .no
    | _ => .lost
  | none => .lost
def hit (text : Array Nat) (start : Nat) (must : Bool) : Hit := hitOf (driven 40 (Sre.forSearch crCode text 0 start text.size must))
/-- the pieces that sub joins: none is the text put in -/
def pieces (text : Array Nat) : (fuel done start : Nat) → Bool → Option (List (Option (Nat × Nat)))
  | 0, _, _, _ => none
  | fuel + 1, done, start, must => match hit text start must with
    | .lost => none
    | .no => some (if done < text.size then [some (done, text.size)] else [])
    | .at_ b e => (pieces text fuel e e (e == b)).map ((if done < b then [some (done, b)] else []) ++ none :: ·)
def mailOf (i j l : Nat) : List Nat := [[13, 10, l].getD i 0, [13, 10, l].getD j 0, 13, 10]
def mendedOf (x : List Nat) : List Nat :=
  (x.zipIdx.foldl (fun out (c, i) => if c = 13 then out ++ [13, 10] else if c ≠ 10 then out ++ [c] else if i = 0 ∨ x.getD (i - 1) 0 ≠ 13 then out ++ [13, 10] else out) [])
def joined (x : List Nat) (ps : List (Option (Nat × Nat))) : List Nat := ps.flatMap fun | none => [13, 10] | some (b, e) => (x.drop b).take (e - b)
def okMail (i j l : Nat) : Bool := match pieces (mailOf i j l).toArray 8 0 0 false with
  | some ps => joined (mailOf i j l) ps == mendedOf (mailOf i j l) && ps.length ≤ 8
  | none => false
theorem ok_row (i j : Nat) (hi : i < 3) (hj : j < 3) : ((List.range 26).all fun l => okMail i j (97 + l)) = true := by
  match i, j, hi, hj with
  | 0, 0, _, _ => decide +kernel
  | 0, 1, _, _ => decide +kernel
  | 0, 2, _, _ => decide +kernel
  | 1, 0, _, _ => decide +kernel
  | 1, 1, _, _ => decide +kernel
  | 1, 2, _, _ => decide +kernel
  | 2, 0, _, _ => decide +kernel
  | 2, 1, _, _ => decide +kernel
  | 2, 2, _, _ => decide +kernel
end Mine

end

section
open PySem PySem.W PySem.Calls PyProof.Rows
open PySem.Builtin PySem.Builtin.Re
set_option Elab.async false
set_option maxRecDepth 100000
set_option maxHeartbeats 400000
namespace Mine
theorem fresh_RY : True := by
  w_top off
  trivial
section
variable {w : World} {A : Around} {E : Value → Shared → Prop} {s : Shared}
theorem drive_wp {M : Model} {Q : Sre.M → Shared → Prop} : ∀ {k turns : Nat} {m m' : Sre.M}, driven k m = some m' → k ≤ turns → Q m' s → wpAny M A (reDrive turns m) Q E s
  | 0, _, _, _, h, _, _ => by simp [driven] at h
  | k + 1, 0, _, _, _, hk, _ => absurd hk (by omega)
  | k + 1, turns + 1, m, m', h, hk, hQ => by
    unfold driven at h
    unfold reDrive reTurnSteps
    dsimp only at h ⊢
    cases ho : (m.runFor 4).outcome.isSome with
    | true =>
      rw [ho] at h
      simp only [if_true, Option.some.injEq] at h
      subst h
      exact wpAny_ite_true (by rw [decide_eq_true_eq]) (wpAny_pure hQ)
    | false =>
      rw [ho] at h
      simp only [Bool.false_eq_true, if_false] at h
      refine wpAny_ite_false rfl (wpAny_bind (wpAny_rule ?_))
      exact drive_wp h (by omega) hQ
theorem rules_wp {M : Model} {c : Nat → Bool} {f : Nat → String} {Q : PUnit → Shared → Prop} (hQ : Q ⟨⟩ s) : ∀ l : List Nat,
    wpAny M A (forIn l PUnit.unit fun i _ => if c i = true then (do rule (f i); pure (ForInStep.yield PUnit.unit)) else pure (ForInStep.yield PUnit.unit)) Q E s
  | [] => by rw [List.forIn_nil]; exact wpAny_pure hQ
  | i :: l => by
    rw [List.forIn_cons]
    refine wpAny_bind ?_
    cases c i with
    | true => exact wpAny_ite_true rfl (wpAny_bind (wpAny_rule (wpAny_pure (rules_wp hQ l))))
    | false => exact wpAny_ite_false rfl (wpAny_pure (rules_wp hQ l))
theorem found_wp {M : Model} {t : ReTarget} {start : Nat} {must : Bool} {Q : Option Sre.M → Shared → Prop} (hc : t.code = crCode) (hg : t.groups = 0) (hl : t.lim = t.text.size)
    (h : match hit t.text start must with | .lost => False | .no => Q none s | .at_ b e => ∀ m : Sre.M, m.start = b → m.handed = e → Q (some m) s) : wpAny M A (reNextFound t start must) Q E s := by
  unfold reNextFound reRunToEnd
  rw [hc, hg, hl]
  unfold hit hitOf at h
  cases hd : driven 40 (Sre.forSearch crCode t.text 0 start t.text.size must) with
  | none => rw [hd] at h; exact h.elim
  | some m =>
    rw [hd] at h
    dsimp only at h
    refine wpAny_bind (drive_wp hd (by decide) ?_)
    refine wpAny_bind (rules_wp ?_ _)
    cases ho : m.outcome with
    | none => rw [ho] at h; exact h.elim
    | some o =>
      rw [ho] at h
      cases o with
      | matched => exact wpAny_pure (h m rfl rfl)
      | failed => exact wpAny_pure h
      | stuck why => exact h.elim
end
end Mine

end

section
open PySem PySem.W PySem.Calls PyProof.Rows
open PySem.Builtin PySem.Builtin.Re
set_option Elab.async false
set_option maxRecDepth 100000
set_option maxHeartbeats 400000
namespace Mine
theorem fresh_RZ : True := by
  w_top off
  trivial
theorem loop_entry : entryFor table "re.Pattern.sub.loop" = some Builtin.«re.Pattern.sub.loop» := by first | exact entryFor_of_fast (by kernel_rfl) | exact entryFor_of_tree (by kernel_rfl)
theorem loop_plain : plainId "re.Pattern.sub.loop" = true := by decide +kernel
section
variable {w : World} {A : Around} {E : Value → Shared → Prop} {s : Shared}
theorem rx_asStr (x : Str) (t : Tok) : asStr? (.str x t) = pure (some x) := rfl
theorem whole_wp {T : Array Nat} {t : Tok} {Q : ReTarget → Shared → Prop} (X : (KK w).In s.heap)
    (h : ∀ g : ReTarget, g.code = crCode → g.groups = 0 → g.lim = g.text.size → g.text = T → g.kind = 0 → Q g s) : wpAny (model PG w) A (reWholeTarget (.ref 71) (.str ⟨T⟩ t)) Q E s := by
  have h71 := X 71 _ (by rfl)
  have h70 := X 70 _ (by rfl)
  unfold reWholeTarget fieldsOf
  refine wpAny_bind (wpAny_bind (wpAny_load h71 (wpAny_pure ?_)))
  unfold reTextOf
  refine wpAny_bind (wpAny_bind (wpAny_of_eq (rx_asStr _ _) (wpAny_pure ?_)))
  dsimp only
  refine wpAny_ite_false rfl (wpAny_ite_false rfl (wpAny_bind ?_))
  unfold reNoCollectionInside
  refine wpAny_ite_false rfl (wpAny_pure ?_)
  refine wpAny_bind ?_
  unfold reRawItems
  refine wpAny_bind ?_
  show wpAny _ _ (seqItems? (.ref 70)) _ _ _
  refine wpAny_seqItems h70 rfl (wpAny_pure (wpAny_pure (h _ ?_ rfl rfl rfl rfl)))
  dsimp only
  decide +kernel
def catL (l : List (Str × Tok)) : List Nat := l.flatMap fun p => p.1.cps.toList
theorem push_wp {M : Model} {D : Addr} {xs : Array Value} {v : Value} {Q : Unit → Shared → Prop} (hl : s.heap.IsList D xs) (hz : xs.size ≤ 1000)
    (h : ∀ h', h'.IsList D (xs.push v) → Heap.SameBut D s.heap h' → Q () { s with heap := h' }) : wpAny M A (updateSeq D (·.push v)) Q E s := by
  obtain ⟨o, ho, hc, n, hd⟩ := hl
  refine wpAny_updateSeq ho hd (h _ ?_ (Heap.SameBut.update ..)) (by rw [sizeLine_eq]; omega) (by rw [sizeLine_eq, Array.size_push]; omega)
  obtain ⟨c, d, dt, sl⟩ := o
  simp only at hc hd
  subst hc hd
  exact ⟨_, Heap.get?_update_self _ ho rfl, rfl, _, rfl⟩

def crlf : Str := ⟨#[13, 10]⟩
def pieceL (T : Array Nat) : Option (Nat × Nat) → List Nat
  | none => [13, 10]
  | some (b, e) => (T.extract b e).toList
theorem glued_cat (l : List (Str × Tok)) : (Builtin.Str.glued ⟨#[]⟩ (l.map (·.1))).cps.toList = catL l := by
  unfold Builtin.Str.glued catL
  have h : ∀ (l : List Str) (a : Array Nat), (l.foldl (fun acc p => acc ++ (#[] : Array Nat) ++ p.cps) a).toList = a.toList ++ l.flatMap fun p => p.cps.toList := by
    intro l
    induction l with
    | nil => intro a; simp
    | cons p l ih => intro a; rw [List.foldl_cons, ih]; simp
  cases l with
  | nil => rfl
  | cons p l =>
    dsimp only
    rw [h]
    simp [List.flatMap_map]
theorem foldl_small (l : List Str) (h : ∀ p ∈ l, p.length ≤ 8) (n : Nat) : l.toArray.foldl (· + ·.length + (⟨#[]⟩ : Str).length) n ≤ n + 8 * l.length := by
  rw [List.foldl_toArray]
  induction l generalizing n with
  | nil => simp
  | cons p l ih =>
    rw [List.foldl_cons]
    have h1 := ih (fun q hq => h q (List.mem_cons_of_mem _ hq)) (n + p.length + (⟨#[]⟩ : Str).length)
    have h2 := h p (.head _)
    have h3 : (⟨#[]⟩ : Str).length = 0 := rfl
    rw [h3] at h1 ⊢
    simp only [List.length_cons]
    omega
theorem join_wp {D : Addr} {l : List (Str × Tok)} {t : Tok} {Q : Value → Shared → Prop} (hl : s.heap.IsList D (strValues l).toArray) (h8 : ∀ p ∈ l, p.1.length ≤ 8) (hn : l.length ≤ 100)
    (h : ∀ (x : Str) (u k : Tok), x.cps.toList = catL l → Q (.str x u) { s with toks := k }) : wpAny (model PG w) A (call (.builtin "str.join") [.str ⟨#[]⟩ t, .ref D]) Q E s := by
  refine call_meets F.slot_str_join (typeIs_str _ _ _) F.entry_str_join (F.args_str_join_2 _ _) (meets_str_join_list ⟨#[]⟩ t D l ?_) ⟨hl, ?_⟩
  · have := foldl_small (l.map (·.1)) (fun p hp => by obtain ⟨q, hq, rfl⟩ := List.mem_map.mp hp; exact h8 q hq) 0
    unfold Builtin.Str.tooLong
    rw [decide_eq_false_iff_not, sizeLine_eq]
    rw [List.length_map] at this
    omega
  · unfold joinMade
    split
    · rename_i p
      exact h p.1 p.2 s.toks (by simp [catL])
    · refine ⟨?_, h _ _ _ (glued_cat l)⟩
      have h1 : (Builtin.Str.glued ⟨#[]⟩ (l.map (·.1))).length = (catL l).length := by rw [← glued_cat]; rfl
      have h2 : ∀ l : List (Str × Tok), (∀ p ∈ l, p.1.length ≤ 8) → (catL l).length ≤ 8 * l.length := by
        intro l
        induction l with
        | nil => intro _; simp [catL]
        | cons p l ih =>
          intro h
          have h3 := ih (fun q hq => h q (List.mem_cons_of_mem _ hq))
          have h4 : p.1.cps.toList.length ≤ 8 := h p (.head _)
          simp only [catL, List.flatMap_cons, List.length_append, List.length_cons] at h3 ⊢
          omega
      have h5 := h2 l h8
      rw [h1, sizeLine_eq]; omega

theorem ex_len (T : Array Nat) (b e : Nat) (hT : T.size ≤ 8) : (⟨T.extract b e⟩ : Str).length ≤ 8 := by
  show (T.extract b e).size ≤ 8
  rw [Array.size_extract]; omega
theorem sub_loop {T : Array Nat} {t tr : Tok} {D : Addr} {h₀ : Heap} {R : Result → Shared → Prop} (X : (KK w).In h₀) (hD : h₀.get? D = none) (hT : T.size ≤ 8) :
    ∀ (fuel done start : Nat) (must : Bool) (ps : List (Option (Nat × Nat))) (l : List (Str × Tok)) (n : Int) (s : Shared), pieces T fuel done start must = some ps →
      (∀ p ∈ l, p.1.length ≤ 8) → l.length + ps.length ≤ 100 → s.heap.IsList D (strValues l).toArray → (∀ b o, h₀.get? b = some o → s.heap.get? b = some o) →
      (∀ h' (x : Str) u k, (∀ b o, h₀.get? b = some o → h'.get? b = some o) → x.cps.toList = catL l ++ ps.flatMap (pieceL T) → R (.ok (.ret (.str x u))) { s with heap := h', toks := k }) →
      codeAny (model PG w) A (.builtin "re.Pattern.sub.loop" ⟨[.ref 71, .str ⟨T⟩ t, .str crlf tr, rawInt 0, rawInt 0, rawInt n, rawInt done, rawInt start, .bool must, .ref D, .bool false], []⟩) R s := by
  intro fuel
  induction fuel with
  | zero => intro done start must ps l n s h; simp [pieces] at h
  | succ fuel ih =>
    intro done start must ps l n s hps h8 hlen hl hk hR
    have DneOf : ∀ b o, h₀.get? b = some o → b ≠ D := fun b o e e' => by rw [e', hD] at e; cases e
    refine codeAny_builtin loop_entry ?_
    rw [Around.under_plainId loop_plain _]
    unfold Builtin.«re.Pattern.sub.loop» rawInt
    dsimp only
    refine wpAny_bind (whole_wp (X.keeps hk) fun g hc hg hlim htext hkind => ?_)
    refine wpAny_ite_true rfl (wpAny_bind ?_)
    unfold reLiteralCannotBeTurned
    refine wpAny_bind (wpAny_of_eq (rx_asStr _ _) (wpAny_ite_false rfl (wpAny_pure ?_)))
    refine wpAny_bind ?_
    refine wpAny_ite_false rfl ?_
    refine found_wp hc hg hlim ?_
    rw [htext]
    unfold pieces at hps
    have e0 : Int.toNat (start : Int) = start := Int.toNat_natCast _
    have e1 : Int.toNat (done : Int) = done := Int.toNat_natCast _
    rw [e0]
    cases hh : hit T start must with
    | lost => rw [hh] at hps; cases hps
    | no =>
      rw [hh] at hps
      simp only [Option.some.injEq] at hps
      subst hps
      dsimp only
      rw [hlim, htext, hkind, e1]
      have fin : ∀ (l' : List (Str × Tok)) (s' : Shared), (∀ p ∈ l', p.1.length ≤ 8) → l'.length ≤ 100 → s'.heap.IsList D (strValues l').toArray → (∃ h' k, s' = { s with heap := h', toks := k } ∧ ∀ b o, h₀.get? b = some o → h'.get? b = some o) →
          catL l' = catL l ++ (if done < T.size then [some (done, T.size)] else []).flatMap (pieceL T) →
          wpAny (model PG w) A.in1 (do
            let joiner ← reSlice T 0 0 0
            let text ← if ((← seqItems? (.ref D)).getD #[]).isEmpty then pure joiner else call (.builtin (if (0 : Nat) == 0 then "str.join" else "bytes.join")) [joiner, .ref D]
            if false = true then ret (← holding [text] do newTuple [text, ← mkInt n]) else ret text)
            (fun fin s' => match fin with | .done f => R (.ok f) s' | .again c' => c'.quiet = true ∧ codeAny (model PG w) A c' R s') (fun e s' => R (.error e) s') s' := by
        rintro l' s' h8' hlen' hl' ⟨h', k, rfl, hk'⟩ hcat
        unfold reSlice
        refine wpAny_bind (wpAny_ite_true rfl (wpAny_mkStr ?_ (by show (T.extract 0 0).size ≤ _; rw [sizeLine_eq, Array.size_extract]; omega)))
        have ex0 : T.extract 0 0 = #[] := by simp
        rw [ex0]
        obtain ⟨o, ho, hcl, c, hd⟩ := id hl'
        refine wpAny_bind ?_
        refine wpAny_seqItems (s := { s with heap := h', toks := k + 1 }) ho hd ?_
        cases l' with
        | nil =>
          refine wpAny_ite_true rfl (wpAny_bind (wpAny_pure (wpAny_ite_false rfl (wpAny_pure ?_))))
          exact hR h' _ _ _ hk' (by rw [← hcat]; rfl)
        | cons p l'' =>
          refine wpAny_ite_false rfl (wpAny_bind ?_)
          refine (join_wp (s := { s with heap := h', toks := k + 1 }) (l := p :: l'') hl' h8' hlen' fun x u k' hx => ?_)
          refine wpAny_ite_false rfl (wpAny_pure ?_)
          exact hR h' _ _ _ hk' (by rw [hx, hcat])
      by_cases hlt : done < T.size
      · refine wpAny_ite_true (decide_eq_true hlt) ?_
        unfold reSlice
        refine wpAny_bind (wpAny_ite_true rfl (wpAny_mkStr ?_ (by have := ex_len T done T.size hT; rw [sizeLine_eq]; omega)))
        have hz : (strValues l).toArray.size ≤ 1000 := by simp [strValues]; omega
        refine wpAny_bind (push_wp (s := { s with toks := s.toks + 1 }) hl hz fun h' hl' hs' => ?_)
        refine fin (l ++ [(⟨T.extract done T.size⟩, s.toks)]) _ ?_ ?_ ?_ ⟨h', _, rfl, fun b o e => hs'.extBut b o (DneOf b o e) (hk b o e)⟩ ?_
        · intro p hp
          rcases List.mem_append.mp hp with hp | hp
          · exact h8 p hp
          · rw [List.mem_singleton.mp hp]; exact ex_len T _ _ hT
        · simp [hlt] at hlen ⊢; omega
        · simpa [strValues] using hl'
        · simp [catL, hlt, pieceL]
      · refine wpAny_ite_false (decide_eq_false hlt) ?_
        exact fin l _ h8 (by omega) hl ⟨_, _, rfl, hk⟩ (by simp [hlt])
    | at_ b e =>
      rw [hh] at hps
      dsimp only
      intro m hmb hme
      rw [hkind, e1, hmb, hme]
      obtain ⟨ps', hps', rfl⟩ := Option.map_eq_some_iff.mp hps
      have hz : (strValues l).toArray.size ≤ 1000 := by simp [strValues]; omega
      have fin : ∀ (l' : List (Str × Tok)) (s' : Shared), (∀ p ∈ l', p.1.length ≤ 8) → l'.length + 1 + ps'.length ≤ 100 → s'.heap.IsList D (strValues l').toArray → (∃ h' k, s' = { s with heap := h', toks := k } ∧ ∀ b o, h₀.get? b = some o → h'.get? b = some o) →
          catL l' = catL l ++ (if done < b then [some (done, b)] else []).flatMap (pieceL T) →
          wpAny (model PG w) A.in1 (updateSeq D fun x => x.push (.str crlf tr)) (fun _ s'' => wpAny (model PG w) A.in1 (again (.builtin "re.Pattern.sub.loop" ⟨[.ref 71, .str ⟨T⟩ t, .str crlf tr, .int 0 0, .int 0 0, .int (n + 1) 0, .int e 0, .int e 0, .bool (e == b), .ref D, .bool false], []⟩))
            (fun fin s' => match fin with | .done f => R (.ok f) s' | .again c' => c'.quiet = true ∧ codeAny (model PG w) A c' R s') (fun e s' => R (.error e) s') s'') (fun e s' => R (.error e) s') s' := by
        rintro l' s' h8' hlen' hl' ⟨h', k, rfl, hk'⟩ hcat
        have hz' : (strValues l').toArray.size ≤ 1000 := by simp [strValues]; omega
        refine push_wp hl' hz' fun h'' hl'' hs'' => ?_
        refine wpAny_pure ⟨plainId_quiet loop_plain _, ?_⟩
        refine ih e e (e == b) ps' (l' ++ [(crlf, tr)]) (n + 1) { s with heap := h'', toks := k } hps' ?_ ?_ ?_ (fun b o e => hs''.extBut b o (DneOf b o e) (hk' b o e)) ?_
        · intro p hp
          rcases List.mem_append.mp hp with hp | hp
          · exact h8' p hp
          · rw [List.mem_singleton.mp hp]; exact Nat.le_of_ble_eq_true rfl
        · simp only [List.length_append, List.length_cons, List.length_nil]; omega
        · simpa [strValues] using hl''
        · intro h3 x u k' hk3 hx
          refine hR h3 x u k' hk3 ?_
          rw [hx]
          have : catL (l' ++ [(crlf, tr)]) = catL l' ++ [13, 10] := by simp [catL, crlf]
          rw [this, hcat, List.flatMap_append, List.flatMap_cons]
          simp [pieceL]
      by_cases hlt : done < b
      · refine wpAny_ite_true (decide_eq_true hlt) ?_
        unfold reSlice
        refine wpAny_bind (wpAny_ite_true rfl (wpAny_mkStr ?_ (by have := ex_len T done b hT; rw [sizeLine_eq]; omega)))
        refine wpAny_bind (push_wp (s := { s with toks := s.toks + 1 }) hl hz fun h' hl' hs' => ?_)
        refine wpAny_ite_true rfl (wpAny_bind (wpAny_pure (wpAny_ite_true rfl (wpAny_bind ?_))))
        refine fin (l ++ [(⟨T.extract done b⟩, s.toks)]) _ ?_ ?_ ?_ ⟨h', _, rfl, fun b o e => hs'.extBut b o (DneOf b o e) (hk b o e)⟩ ?_
        · intro p hp
          rcases List.mem_append.mp hp with hp | hp
          · exact h8 p hp
          · rw [List.mem_singleton.mp hp]; exact ex_len T _ _ hT
        · simp [hlt] at hlen ⊢; omega
        · simpa [strValues] using hl'
        · simp [catL, hlt, pieceL]
      · refine wpAny_ite_false (decide_eq_false hlt) ?_
        refine wpAny_ite_true rfl (wpAny_bind (wpAny_pure (wpAny_ite_true rfl (wpAny_bind ?_))))
        exact fin l _ h8 (by simp [hlt] at hlen ⊢; omega) hl ⟨_, _, rfl, hk⟩ (by simp [hlt])
end
end Mine

end

section
open PySem PySem.W PySem.Calls PyProof.Rows
open PySem.Builtin PySem.Builtin.Re
set_option Elab.async false
set_option maxRecDepth 100000
set_option maxHeartbeats 400000
namespace Mine
theorem fresh_RW : True := by
  w_top off
  trivial
local macro_rules | `(tactic| walk_at "none of these") => `(tactic| skip)
theorem rp_plain : PlainAttrs "re.Pattern" :=
  ⟨⟨"object.__getattribute__", by rw [typeLookup_type, builtinLookup_eq_fast]; kernel_rfl, by decide +kernel⟩, by rw [typeLookup_type, builtinLookup_eq_fast]; kernel_rfl⟩
theorem rp_owner : Manifest.owners.lookup (String.ofList ['n', 'r', 'e', 't', 't', 'a', 'P', '.', 'e', 'r'].reverse) = some Manifest.sig_re_Pattern := by kernel_rfl
theorem rp_slot : Slot "re.Pattern" "sub" "re.Pattern.sub" :=
  .of (owner := "re.Pattern") (n := "sub") (by rw [typeLookup_type, builtinLookup_eq_fast]; kernel_rfl) (by decide +kernel) (by decide +kernel) (by decide +kernel)
    (by first | exact .inl (by decide +kernel) | exact .inr (by decide +kernel)) (by rw [isSubtype_type]; kernel_rfl)
theorem rp_type : typeOf (.builtin "re.Pattern.sub") = pure (.type "method_descriptor") := by show builtinType _ = _; rw [builtinType_eq_fast]; kernel_rfl
theorem rp_entry : entryFor table "re.Pattern.sub" = some Builtin.«re.Pattern.sub» := by first | exact entryFor_of_fast (by kernel_rfl) | exact entryFor_of_tree (by kernel_rfl)
theorem rp_args (a b c : Value) : argsOk "re.Pattern.sub" ⟨[a, b, c], []⟩ := by
  unfold argsOk; rw [signature?_of (id := "re.Pattern.sub") (n := ['b', 'u', 's']) (o := ['n', 'r', 'e', 't', 't', 'a', 'P', '.', 'e', 'r']) (by kernel_rfl) rp_owner]; kernel_rfl
theorem rp_named (a b : Value) : reNamed "re.Pattern.sub" "sub" ["repl", "string", "count"] 2 [a, b] [] = pure [some a, some b, none] := by kernel_rfl
theorem str_no_call : typeLookup (.type "str") "__call__" = pure none := by rw [typeLookup_type, builtinLookup_eq_fast]; kernel_rfl
section
variable {w : World} {A : Around} {E : Value → Shared → Prop} {s : Shared}
theorem sub_call {T : Array Nat} {t tr : Tok} {ps : List (Option (Nat × Nat))} {Q : Value → Shared → Prop} (X : (KK w).In s.heap) (hT : T.size ≤ 8) (hps : pieces T 8 0 0 false = some ps) (hn : ps.length ≤ 100)
    (h : ∀ h' (x : Str) u k, (∀ b o, s.heap.get? b = some o → h'.get? b = some o) → x.cps.toList = ps.flatMap (pieceL T) → Q (.str x u) { s with heap := h', toks := k }) :
    wpAny (model PG w) A (call (.builtin "re.Pattern.sub") [.ref 71, .str crlf tr, .str ⟨T⟩ t]) Q E s := by
  refine wpAny_call (codeAny_call_builtin rp_slot.plain rp_entry (rp_slot.check _ _ _ _ _ _ _ _ ⟨_, X 71 _ (by rfl), rfl⟩ (rp_args _ _ _) ?_))
  unfold Builtin.«re.Pattern.sub» reSubstitute
  dsimp only
  refine wpAny_bind (wpAny_of_eq (rp_named _ _) ?_)
  dsimp only
  refine wpAny_bind (wpAny_pure ?_)
  refine wpAny_bind (wpAny_specialOf (typeIs_str _ _ _) str_no_call ?_)
  refine wpAny_ite_false rfl ?_
  refine wpAny_bind (wpAny_of_eq (rx_asStr _ _) ?_)
  refine wpAny_bind (wpAny_pure ?_)
  refine wpAny_ite_false rfl (wpAny_ite_true (by decide +kernel) ?_)
  refine wpAny_bind (wpAny_pure ?_)
  refine wpAny_bind (wpAny_holding (whole_wp X fun g _ _ _ _ _ => ?_))
  refine wpAny_ite_false rfl ?_
  refine wpAny_bind ?_
  refine wpAny_newList ?_
  have hsn : s.heap.get? s.heap.objs.size = none := by
    cases e : s.heap.get? s.heap.objs.size with
    | none => rfl
    | some o => exact absurd (Heap.lt_size e) (Nat.lt_irrefl _)
  refine wpAny_pure ⟨plainId_quiet loop_plain _, sub_loop (T := T) (h₀ := s.heap) (D := s.heap.objs.size) X hsn hT 8 0 0 false ps [] 0 { s with heap := s.heap.push { cls := .type "list", data := .seq [].toArray } } hps (fun p hp => nomatch hp) (by simpa using hn)
    ⟨_, Heap.get?_push_size _ rfl, rfl, _, rfl⟩ (fun b o e => Heap.get?_push_of_some _ e) (fun h' x u k hk hx => ?_)⟩
  exact h h' x u k hk (by simpa [catL] using hx)
end
local macro_rules | `(tactic| walk_at "eval Name") => `(tactic| first
  | (with_unfolding_all refine nmL (by rfl) (by rfl) (by decide) (by first | with_reducible assumption | exact Fr.ns (by with_reducible assumption)) (by rfl) (by first | rfl | assumption) ?_)
  | (with_unfolding_all refine nmC (by rfl) (by rfl) (by decide) (by rfl) (by first | with_reducible assumption | assumption) ?_)
  | (with_unfolding_all refine nmG (by rfl) (by rfl) (by rfl) (by decide) (by rfl) (by first | with_reducible assumption | exact Wd.keeps (by with_reducible assumption) (Fr.keep (by with_reducible assumption))) ?_)
  | (with_unfolding_all refine nmB (by rfl) (by rfl) (by boot_by_name) (by rfl) (by rfl) (by decide) (by decide) (by rfl) (by first | with_reducible assumption | exact Wd.keeps (by with_reducible assumption) (Fr.keep (by with_reducible assumption))) ?_))
local macro_rules | `(tactic| walk_at "loadName") => `(tactic| (with_unfolding_all refine nmLd (by rfl) (by rfl) (by first | with_reducible assumption | exact Fr.ns (by with_reducible assumption)) (by rfl) (by first | rfl | assumption) ?_))
local macro_rules | `(tactic| walk_at "callWith ref") => `(tactic| (with_unfolding_all refine callF (by first | with_reducible assumption | exact Wd.keeps (by with_reducible assumption) (Fr.keep (by with_reducible assumption))) (by rfl) ?_ (by rfl) (by rfl)))
local macro_rules | `(tactic| walk_at "And") => `(tactic| ((with_reducible show Frag.In _ _ ∧ _); refine ⟨by first | exact (Wd.X (by with_reducible assumption)) | exact Wd.X (Wd.keeps (by with_reducible assumption) (Fr.keep (by with_reducible assumption))), ?_⟩; try dsimp only [List.nil_append, List.cons_append]))
local macro_rules | `(tactic| walk_at "mW") => `(tactic| repeat ((fail_if_success (with_reducible show wpAny _ _ (exec (Stmt.For _ _ _ _ _) _) _ _ _)); walk1))

section
variable {w : World} {A : Around} {E : Value → Shared → Prop} {s : Shared}
theorem c_fix {x : Str} {t : Tok} {ps : List (Option (Nat × Nat))} {Q : Value → Shared → Prop} (R : Rm 1 A) (W : Wd w s.heap) (hT : x.cps.size ≤ 8) (hps : pieces x.cps 8 0 0 false = some ps) (hn : ps.length ≤ 100)
    (hq : ∀ (y : Str) u s', Keeps s s' → y.cps.toList = ps.flatMap (pieceL x.cps) → Q (.str y u) s') : wpAny (model PG w) A (call (.ref 78) [.str x t] []) Q E s := by
  refine call_def [(Str.ofString "data", .str x t)] W rfl (by rfl) R.room (by rfl) (locs rfl) (by decide) (fun h₁ tk F W => ?_) rfl rfl rfl
  show wpAny _ _ _ _ _ _
  k_fold
  walk1
  walk1
  refine wpAny_Call_method (T := "re.Pattern") (id := "re.Pattern.sub") rfl rfl rfl rp_plain rp_slot rp_type (nmG (by rfl) (by rfl) (by rfl) (by decide) (by rfl) (W.keeps F.keep) ?_)
  have h71 := (W.X.keeps F.keep) 71 _ (by rfl)
  refine ⟨⟨_, h71, rfl⟩, fun a e => by cases e; exact ⟨_, h71, rfl⟩, ?_⟩
  walk_at "mW"
  exact sub_call (s := { s with heap := h₁, toks := tk }) (T := x.cps) (t := t) (W.X.keeps F.keep) hT hps hn fun h' y u k hk hy => hq y u _ ⟨h', k, rfl, fun b o e => hk b o (F.keep b o e)⟩ hy
end
end Mine

end

section
open PySem PySem.W PySem.Calls PyProof.Rows
set_option Elab.async false
set_option maxRecDepth 100000
set_option maxHeartbeats 400000
namespace Mine
theorem fresh_C1 : True := by
  w_top off
  trivial
local macro_rules | `(tactic| walk_at "eval Name") => `(tactic| first
  | (with_unfolding_all refine nmL (by rfl) (by rfl) (by decide) (by first | with_reducible assumption | exact Fr.ns (by with_reducible assumption)) (by rfl) (by first | rfl | assumption) ?_)
  | (with_unfolding_all refine nmC (by rfl) (by rfl) (by decide) (by rfl) (by first | with_reducible assumption | assumption) ?_)
  | (with_unfolding_all refine nmG (by rfl) (by rfl) (by rfl) (by decide) (by rfl) (by first | with_reducible assumption | exact Wd.keeps (by with_reducible assumption) (Fr.keep (by with_reducible assumption))) ?_)
  | (with_unfolding_all refine nmB (by rfl) (by rfl) (by boot_by_name) (by rfl) (by rfl) (by decide) (by decide) (by rfl) (by first | with_reducible assumption | exact Wd.keeps (by with_reducible assumption) (Fr.keep (by with_reducible assumption))) ?_))
local macro_rules | `(tactic| walk_at "loadName") => `(tactic| (with_unfolding_all refine nmLd (by rfl) (by rfl) (by first | with_reducible assumption | exact Fr.ns (by with_reducible assumption)) (by rfl) (by first | rfl | assumption) ?_))
local macro_rules | `(tactic| walk_at "callWith ref") => `(tactic| (with_unfolding_all refine callF (by first | with_reducible assumption | exact Wd.keeps (by with_reducible assumption) (Fr.keep (by with_reducible assumption))) (by rfl) ?_ (by rfl) (by rfl)))
local macro_rules | `(tactic| walk_at "And") => `(tactic| ((with_reducible show Frag.In _ _ ∧ _); refine ⟨by first | exact (Wd.X (by with_reducible assumption)) | exact Wd.X (Wd.keeps (by with_reducible assumption) (Fr.keep (by with_reducible assumption))), ?_⟩; try dsimp only [List.nil_append, List.cons_append]))
local macro_rules | `(tactic| walk_at "mW") => `(tactic| repeat ((fail_if_success (with_reducible show wpAny _ _ (exec (Stmt.For _ _ _ _ _) _) _ _ _)); walk1))

section
variable {w : World} {A : Around} {E : Value → Shared → Prop} {s : Shared}

theorem fd_nat (a b : Nat) : (a : Int).fdiv (b : Int) = ((a / b : Nat) : Int) := by
  rw [Int.fdiv_eq_ediv_of_nonneg _ (Int.natCast_nonneg b)]; rfl
theorem fm_nat (a b : Nat) : (a : Int).fmod (b : Int) = ((a % b : Nat) : Int) := by
  rw [Int.fmod_eq_emod_of_nonneg _ (Int.natCast_nonneg b)]; rfl
theorem fits3 {i : Nat} (h : i < 3) : fitsSsize (i : Int) = true := by
  match i, h with
  | 0, _ => rfl
  | 1, _ => rfl
  | 2, _ => rfl
theorem mail_text {i j c : Nat} (hi : i < 3) (hj : j < 3) : (Txt.item (Str.ofString "\r\n" ++ ⟨#[(c : Int).toNat]⟩) (i : Int) ++ Txt.item (Str.ofString "\r\n" ++ ⟨#[(c : Int).toNat]⟩) (j : Int) ++ Str.ofString "\r\n").cps.toList = mailOf i j c := by
  rw [Int.toNat_natCast]
  match i, j, hi, hj with
  | 0, 0, _, _ => rfl
  | 0, 1, _, _ => rfl
  | 0, 2, _, _ => rfl
  | 1, 0, _, _ => rfl
  | 1, 1, _, _ => rfl
  | 1, 2, _, _ => rfl
  | 2, 0, _, _ => rfl
  | 2, 1, _, _ => rfl
  | 2, 2, _, _ => rfl
theorem c_mail {d : Nat} {t : Tok} {Q : Value → Shared → Prop} (R : Rm 1 A) (W : Wd w s.heap) (hd : d < 2 ^ 40)
    (hq : ∀ (x : Str) u s', Keeps s s' → x.cps.toList = mailOf (d % 3) (d / 3 % 3) (97 + d / 9 % 26) → Q (.str x u) s') : wpAny (model PG w) A (call (.ref 99) [.int d t] []) Q E s := by
  refine call_def [(Str.ofString "draw", .int d t)] W rfl (by rfl) R.room (by rfl) (locs rfl) (by decide) (fun h₁ tk F W => ?_) rfl rfl rfl
  show wpAny _ _ _ _ _ _
  k_fold
  walk_at "mW"
  have e1 : (97 + ((d : Int).fdiv 9).fmod 26) = ((97 + d / 9 % 26 : Nat) : Int) := by
    rw [show (9 : Int) = ((9 : Nat) : Int) from rfl, fd_nat, show (26 : Int) = ((26 : Nat) : Int) from rfl, fm_nat]; rfl
  rw [e1]
  have hc : 97 + d / 9 % 26 ≤ 122 := by omega
  generalize 97 + d / 9 % 26 = c at hc ⊢ hq
  refine chr_of_range (by omega) (by omega) ?_
  walk_at "mW"
  rename Fr _ _ _ _ => F'
  have e2 : ((d : Int).fmod 3) = ((d % 3 : Nat) : Int) := by rw [show (3 : Int) = ((3 : Nat) : Int) from rfl, fm_nat]
  rw [e2]
  have hi : d % 3 < 3 := by omega
  refine item_str (fits3 hi) (by omega) ?_ fun _ => ?_
  · show ((d % 3 : Nat) : Int) < ((3 : Nat) : Int); omega
  walk_at "mW"
  have e3 : (((d : Int).fdiv 3).fmod 3) = ((d / 3 % 3 : Nat) : Int) := by rw [show (3 : Int) = ((3 : Nat) : Int) from rfl, fd_nat, fm_nat]
  rw [e3]
  have hj : d / 3 % 3 < 3 := by omega
  refine item_str (fits3 hj) (by omega) ?_ fun _ => ?_
  · show ((d / 3 % 3 : Nat) : Int) < ((3 : Nat) : Int); omega
  walk_at "mW"
  refine hq _ _ _ ⟨_, _, rfl, fun b o e => F'.keep b o e⟩ (mail_text hi hj)

end
end Mine

end

section
open PySem PySem.W PySem.Calls PyProof.Rows
set_option Elab.async false
set_option maxRecDepth 100000
set_option maxHeartbeats 400000
namespace Mine
theorem fresh_C2 : True := by
  w_top off
  trivial
local macro_rules | `(tactic| walk_at "none of these") => `(tactic| skip)
local macro_rules | `(tactic| walk_at "eval Name") => `(tactic| first
  | (with_unfolding_all refine nmL (by rfl) (by rfl) (by decide) (by first | with_reducible assumption | exact Fr.ns (by with_reducible assumption)) (by rfl) (by first | rfl | assumption) ?_)
  | (with_unfolding_all refine nmC (by rfl) (by rfl) (by decide) (by rfl) (by first | with_reducible assumption | assumption) ?_)
  | (with_unfolding_all refine nmG (by rfl) (by rfl) (by rfl) (by decide) (by rfl) (by first | with_reducible assumption | exact Wd.keeps (by with_reducible assumption) (Fr.keep (by with_reducible assumption))) ?_)
  | (with_unfolding_all refine nmB (by rfl) (by rfl) (by boot_by_name) (by rfl) (by rfl) (by decide) (by decide) (by rfl) (by first | with_reducible assumption | exact Wd.keeps (by with_reducible assumption) (Fr.keep (by with_reducible assumption))) ?_))
local macro_rules | `(tactic| walk_at "loadName") => `(tactic| (with_unfolding_all refine nmLd (by rfl) (by rfl) (by first | with_reducible assumption | exact Fr.ns (by with_reducible assumption)) (by rfl) (by first | rfl | assumption) ?_))
local macro_rules | `(tactic| walk_at "callWith ref") => `(tactic| (with_unfolding_all refine callF (by first | with_reducible assumption | exact Wd.keeps (by with_reducible assumption) (Fr.keep (by with_reducible assumption))) (by rfl) ?_ (by rfl) (by rfl)))
local macro_rules | `(tactic| walk_at "And") => `(tactic| ((with_reducible show Frag.In _ _ ∧ _); refine ⟨by first | exact (Wd.X (by with_reducible assumption)) | exact Wd.X (Wd.keeps (by with_reducible assumption) (Fr.keep (by with_reducible assumption))), ?_⟩; try dsimp only [List.nil_append, List.cons_append]))
local macro_rules | `(tactic| walk_at "mW") => `(tactic| repeat ((fail_if_success (with_reducible show wpAny _ _ (exec (Stmt.For _ _ _ _ _) _) _ _ _)); walk1))

section
variable {w : World} {A : Around} {E : Value → Shared → Prop} {s : Shared}

def mend1 (x : List Nat) (out : List Nat) (p : Nat × Nat) : List Nat := if p.1 = 13 then out ++ [13, 10] else if p.1 ≠ 10 then out ++ [p.1] else if p.2 = 0 ∨ x.getD (p.2 - 1) 0 ≠ 13 then out ++ [13, 10] else out
theorem sgn_eq (c d : Nat) : ((⟨#[c]⟩ : Str) == (⟨#[d]⟩ : Str)) = decide (c = d) := by
  by_cases h : c = d
  · subst h; simp
  · rw [decide_eq_false h, beq_eq_false_iff_ne]; intro e; exact h (by simpa using e)
theorem sgn_ne (c d : Nat) : ((⟨#[c]⟩ : Str) != (⟨#[d]⟩ : Str)) = !decide (c = d) := by
  rw [bne, sgn_eq]
theorem app_cps (x y : Str) : (x ++ y).cps.toList = x.cps.toList ++ y.cps.toList := by
  show (x.cps ++ y.cps).toList = _; simp
theorem item_at {x : Str} {j : Nat} (h : j < x.cps.size) : Txt.item x (j : Int) = ⟨#[x.cps[j]]⟩ := by
  have e : seqIndex? (j : Int) x.length = some j := by
    unfold seqIndex?
    have : j < x.length := h
    have h2 : ¬ ((j : Int) < 0) := by omega
    simp only [h2, if_false]
    have h3 : (decide (0 ≤ (j : Int)) && decide ((j : Int) < (x.length : Int))) = true := by simp; omega
    rw [if_pos h3]; simp
  unfold Txt.item Txt.charAt
  rw [e]
  simp [h]
theorem c_mended {x : Str} {t : Tok} {Q : Value → Shared → Prop} (R : Rm 1 A) (W : Wd w s.heap) (hx : x.cps.size ≤ 8)
    (hq : ∀ (y : Str) u s', Keeps s s' → y.cps.toList = mendedOf x.cps.toList → Q (.str y u) s') : wpAny (model PG w) A (call (.ref 106) [.str x t] []) Q E s := by
  refine call_def [(Str.ofString "mail", .str x t)] W rfl (by rfl) R.room (by rfl) (locs rfl) (by decide) (fun h₁ tk F W => ?_) rfl rfl rfl
  have N : News s.heap s.heap.objs.size h₁ [] := News.nil
  show wpAny _ _ _ _ _ _
  k_fold
  walk_at "mW"
  rename_i h₂ F₂ N₂
  refine For_turns F₂ ?_ (by intro _; rfl)
  walk_at "mW"
  refine enum_str (t := t) R.hh F₂ N₂ rfl rfl rfl
    (fun i m news => news = [] ∧ m (Str.ofString "mail") = some (.str x t) ∧ ∃ y u, m (Str.ofString "out") = some (.str y u) ∧ y.cps.toList = (x.cps.toList.zipIdx.take i).foldl (mend1 x.cps.toList) [] ∧ y.cps.size ≤ 2 * i) ⟨rfl, rfl, _, _, rfl, rfl, Nat.le_refl _⟩ ?_ ?_
  · rintro i c tki tkc m₁ news₁ h₃ tk₃ own hc ⟨rfl, hm1, y, u, hm2, hy, hys⟩ hap F' N'
    have hi : i < x.cps.size := (Array.getElem?_eq_some_iff.mp hc).1
    have hyl : y.length ≤ 16 := by show y.cps.size ≤ 16; omega
    have hcl : (⟨#[c]⟩ : Str).length = 1 := rfl
    clear F₂ N₂ N
    have hz : x.cps.toList.zipIdx[i]? = some (c, i) := by
      rw [List.getElem?_zipIdx]
      simp only [Array.getElem?_toList, hc, Option.map_some, Nat.zero_add]
    walk_at "mW"
    · rename_i e1 _ _ _ _ F4 N4
      have e1 : c = 13 := by have := (sgn_eq c 13).symm.trans e1; simpa using this
      refine ⟨_, _, _, [], rfl, F4, N4, (fun p hp => nomatch hp), rfl, by with_unfolding_all exact hm1, _, _, rfl, ?_, ?_⟩
      · rw [take_succ_of hz, List.foldl_append, ← hy, app_cps]; simp [mend1, e1]; rfl
      · show (y.cps ++ _).size ≤ _; rw [Array.size_append]; show y.cps.size + 2 ≤ _; omega
    · walk_at "mW"
      · rename_i e1 e2 _ _ _ _ F4 N4
        have e1 : c ≠ 13 := by have := (sgn_eq c 13).symm.trans e1; simpa using this
        have e2 : c ≠ 10 := by have := (sgn_ne c 10).symm.trans e2; simpa using this
        refine ⟨_, _, _, [], rfl, F4, N4, (fun p hp => nomatch hp), rfl, by with_unfolding_all exact hm1, _, _, rfl, ?_, ?_⟩
        · rw [take_succ_of hz, List.foldl_append, ← hy, app_cps]; simp [mend1, e1, e2]
        · show (y.cps ++ _).size ≤ _; rw [Array.size_append]; show y.cps.size + 1 ≤ _; omega
      · rename_i e1 e2
        have e1 : c ≠ 13 := by have := (sgn_eq c 13).symm.trans e1; simpa using this
        have e2 : c = 10 := by have := (sgn_ne c 10).symm.trans e2; simpa using this
        walk_at "mW"
        · rename_i e3 _ _ _ _ F4 N4
          have e3 : i = 0 := by omega
          refine ⟨_, _, _, [], rfl, F4, N4, (fun p hp => nomatch hp), rfl, by with_unfolding_all exact hm1, _, _, rfl, ?_, ?_⟩
          · rw [take_succ_of hz, List.foldl_append, ← hy, app_cps]; simp [mend1, e2, e3]; rfl
          · show (y.cps ++ _).size ≤ _; rw [Array.size_append]; show y.cps.size + 2 ≤ _; omega
        · rename_i e3
          walk_at "mW"
          obtain ⟨j, rfl⟩ : ∃ j, i = j + 1 := ⟨i - 1, by omega⟩
          have e4 : (((j + 1 : Nat) : Int) - 1) = (j : Int) := by omega
          rw [e4]
          refine item_str (fitsSsize_of (N := 9223372036854775808) (by omega) (by omega) (by omega)) (by omega) (show (j : Int) < (x.cps.size : Int) by omega) fun _ => ?_
          rw [item_at (show j < x.cps.size by omega)]
          have e5 : x.cps.toList.getD (j + 1 - 1) 0 = x.cps[j]'(by omega) := by simp [show j < x.cps.size by omega]
          walk_at "mW"
          · rename_i e6 _ _ _ _ F4 N4
            have e6 : x.cps[j] ≠ 13 := by have := (sgn_ne (x.cps[j]'(by omega)) 13).symm.trans e6; simpa using this
            refine ⟨_, _, _, [], rfl, F4, N4, (fun p hp => nomatch hp), rfl, by with_unfolding_all exact hm1, _, _, rfl, ?_, ?_⟩
            · rw [take_succ_of hz, List.foldl_append, ← hy, app_cps]
              simp only [List.foldl_cons, List.foldl_nil, mend1, e2, e5]
              simp [e6]; rfl
            · show (y.cps ++ _).size ≤ _; rw [Array.size_append]; show y.cps.size + 2 ≤ _; omega
          · rename_i e6
            have e6 : x.cps[j] = 13 := by have := (sgn_ne (x.cps[j]'(by omega)) 13).symm.trans e6; simpa using this
            walk_at "mW"
            refine ⟨_, _, _, [], rfl, F', N', (fun p hp => nomatch hp), rfl, by with_unfolding_all exact hm1, y, u, by with_unfolding_all exact hm2, ?_, by omega⟩
            rw [take_succ_of hz, List.foldl_append, ← hy]
            simp only [List.foldl_cons, List.foldl_nil, mend1, e2, e5]
            simp [e6]
  · rintro h₃ tk₃ m₃ news₃ F₃ N₃ ⟨rfl, hm1, y, u, hm2, hy, hys⟩
    walk_at "mW"
    refine hq y u _ ⟨_, _, rfl, fun b o e => F₃.keep b o e⟩ ?_
    rw [hy]
    unfold mendedOf
    rw [List.take_of_length_le (by simp)]
    rfl

end
end Mine

end

section
open PySem PySem.W PySem.Calls PyProof.Rows
set_option Elab.async false
set_option maxRecDepth 100000
set_option maxHeartbeats 400000
namespace Mine
theorem fresh_C3 : True := by
  w_top off
  trivial
local macro_rules | `(tactic| walk_at "eval Name") => `(tactic| first
  | (with_unfolding_all refine nmL (by rfl) (by rfl) (by decide) (by first | with_reducible assumption | exact Fr.ns (by with_reducible assumption)) (by rfl) (by first | rfl | assumption) ?_)
  | (with_unfolding_all refine nmC (by rfl) (by rfl) (by decide) (by rfl) (by first | with_reducible assumption | assumption) ?_)
  | (with_unfolding_all refine nmG (by rfl) (by rfl) (by rfl) (by decide) (by rfl) (by first | with_reducible assumption | exact Wd.keeps (by with_reducible assumption) (Fr.keep (by with_reducible assumption))) ?_)
  | (with_unfolding_all refine nmB (by rfl) (by rfl) (by boot_by_name) (by rfl) (by rfl) (by decide) (by decide) (by rfl) (by first | with_reducible assumption | exact Wd.keeps (by with_reducible assumption) (Fr.keep (by with_reducible assumption))) ?_))
local macro_rules | `(tactic| walk_at "loadName") => `(tactic| (with_unfolding_all refine nmLd (by rfl) (by rfl) (by first | with_reducible assumption | exact Fr.ns (by with_reducible assumption)) (by rfl) (by first | rfl | assumption) ?_))
local macro_rules | `(tactic| walk_at "callWith ref") => `(tactic| (with_unfolding_all refine callF (by first | with_reducible assumption | exact Wd.keeps (by with_reducible assumption) (Fr.keep (by with_reducible assumption))) (by rfl) ?_ (by rfl) (by rfl)))
local macro_rules | `(tactic| walk_at "And") => `(tactic| ((with_reducible show Frag.In _ _ ∧ _); refine ⟨by first | exact (Wd.X (by with_reducible assumption)) | exact Wd.X (Wd.keeps (by with_reducible assumption) (Fr.keep (by with_reducible assumption))), ?_⟩; try dsimp only [List.nil_append, List.cons_append]))
local macro_rules | `(tactic| walk_at "mW") => `(tactic| repeat ((fail_if_success (with_reducible show wpAny _ _ (exec (Stmt.For _ _ _ _ _) _) _ _ _)); walk1))

section
variable {w : World} {A : Around} {E : Value → Shared → Prop} {s : Shared}

theorem c_draws {sc : Addr} {vs : List Value} {ns : List Int} {Q : Value → Shared → Prop} (R : Rm 1 A) (W : Wd w s.heap) (hl : s.heap.IsList sc vs.toArray) (hi : IntsAre vs ns) (hn : ns.length ≤ 63)
    (hq : ∀ r s' (d0 d1 d2 d3 : Nat) t0 t1 t2 t3 n, Keeps s s' → s.heap.get? r = none → s'.heap.get? r = some (PySem.W.listOf #[.int d0 t0, .int d1 t1, .int d2 t2, .int d3 t3] n) → d0 < 2 ^ 40 → d1 < 2 ^ 40 → d2 < 2 ^ 40 → d3 < 2 ^ 40 → Q (.ref r) s') : wpAny (model PG w) A (call (.ref 92) [.ref sc] []) Q E s := by
  refine call_def [(Str.ofString "script", .ref sc)] W rfl (by rfl) R.room (by rfl) (locs rfl) (by decide) (fun h₁ tk F W => ?_) rfl rfl rfl
  have N : News s.heap s.heap.objs.size h₁ [] := News.nil
  have X := W.X
  obtain ⟨mg, mb, T⟩ := W.T
  show wpAny _ _ _ _ _ _
  k_fold
  walk_at "mW"
  rename Fr _ _ _ _ => F₂
  rename News _ _ _ _ => N₂
  refine For_turns F₂ ?_ (by intro _; rfl)
  walk_at "mW"
  rename_i l _ _ _ D ws h₂ F₃ N₃ hI _ _ l1
  have hD := N₃ (D, _) (.head _)
  refine enum_list (items := ws.toArray) R.hh ⟨_, hD.1, rfl, _, rfl⟩ hD.2.1 F₃ (fun p hp => N₃ p (.tail _ hp)) rfl rfl rfl
    (fun i m news => ∃ (d0 d1 d2 d3 : Int) (t0 t1 t2 t3 : Tok) (n : Nat), news = [(l, PySem.W.listOf #[.int d0 t0, .int d1 t1, .int d2 t2, .int d3 t3] n)] ∧ m (Str.ofString "draws") = some (.ref l) ∧
      (0 ≤ d0 ∧ d0 ≤ 52 + i * 1000000) ∧ (0 ≤ d1 ∧ d1 ≤ 52 + i * 1000000) ∧ (0 ≤ d2 ∧ d2 ≤ 52 + i * 1000000) ∧ (0 ≤ d3 ∧ d3 ≤ 52 + i * 1000000)) ⟨6, 1, 5, 52, _, _, _, _, 0, rfl, rfl, by omega, by omega, by omega, by omega⟩ ?_ ?_
  · rintro i v tki m₁ news₁ h₃ tk₃ own hv ⟨d0, d1, d2, d3, t0, t1, t2, t3, n, rfl, hm, b0, b1, b2, b3⟩ hap F' N'
    obtain ⟨xn, xt, rfl, hxn⟩ := IntsAre.at hI i v (by simpa using hv)
    clear F₃ N₃ T X hD
    walk_at "mW"
    have hk : ((i : Int).fmod 4) = ((i % 4 : Nat) : Int) := by
      rw [show (4 : Int) = ((4 : Nat) : Int) from rfl, Int.fmod_eq_emod_of_nonneg _ (Int.natCast_nonneg 4)]; rfl
    rw [hk]
    have hk0 : (0 : Int) ≤ ((i % 4 : Nat) : Int) := Int.natCast_nonneg _
    have hk4 : ((i % 4 : Nat) : Int) < 4 := by omega
    generalize ((i % 4 : Nat) : Int) = k at hk0 hk4 ⊢
    have hm0 : 0 ≤ xn.fmod 1000000 := Int.fmod_nonneg_of_pos _ (by decide)
    have hm1 : xn.fmod 1000000 < 1000000 := Int.fmod_lt_of_pos _ (by decide)
    clear hk
    have hl3 := N' (l, _) (List.mem_append_right _ (.head _))
    have hap' : ∀ p ∈ own, p.1 ≠ l := fun p hp e => by
      rcases hap p hp with e' | h'
      · rw [e] at e'; exact absurd l1 (by rw [e']; exact Nat.lt_irrefl _)
      · exact h' _ (.head _) e
    have hk' : k = 0 ∨ k = 1 ∨ k = 2 ∨ k = 3 := by omega
    have e10 : ((10 : Int) ^ Int.toNat 6) = 1000000 := by decide
    rcases hk' with rfl | rfl | rfl | rfl
    · refine wpAny_getItem_list (x := .int d0 t0) (listOf_is hl3.1) (by decide) (by decide) rfl ?_
      walk_at "mW"
      rw [e10]
      walk_at "mW"
      refine set_list (own := own) (post := []) F' N' hap' (fun p hp => nomatch hp) (by decide) (by show (0 : Int) < 4; decide) (by show 4 ≤ 1000; decide) (fun h' n' F'' N'' => ?_)
      walk_at "mW"
      refine ⟨_, _, _, _, rfl, F'', N'', fun p hp => .inl (by rw [List.mem_singleton.mp hp]; exact List.mem_singleton.mpr rfl), _, _, _, _, _, _, _, _, n', rfl, by with_unfolding_all exact hm, by omega, by omega, by omega, by omega⟩
    · refine wpAny_getItem_list (x := .int d1 t1) (listOf_is hl3.1) (by decide) (by decide) rfl ?_
      walk_at "mW"
      rw [e10]
      walk_at "mW"
      refine set_list (own := own) (post := []) F' N' hap' (fun p hp => nomatch hp) (by decide) (by show (1 : Int) < 4; decide) (by show 4 ≤ 1000; decide) (fun h' n' F'' N'' => ?_)
      walk_at "mW"
      refine ⟨_, _, _, _, rfl, F'', N'', fun p hp => .inl (by rw [List.mem_singleton.mp hp]; exact List.mem_singleton.mpr rfl), _, _, _, _, _, _, _, _, n', rfl, by with_unfolding_all exact hm, by omega, by omega, by omega, by omega⟩
    · refine wpAny_getItem_list (x := .int d2 t2) (listOf_is hl3.1) (by decide) (by decide) rfl ?_
      walk_at "mW"
      rw [e10]
      walk_at "mW"
      refine set_list (own := own) (post := []) F' N' hap' (fun p hp => nomatch hp) (by decide) (by show (2 : Int) < 4; decide) (by show 4 ≤ 1000; decide) (fun h' n' F'' N'' => ?_)
      walk_at "mW"
      refine ⟨_, _, _, _, rfl, F'', N'', fun p hp => .inl (by rw [List.mem_singleton.mp hp]; exact List.mem_singleton.mpr rfl), _, _, _, _, _, _, _, _, n', rfl, by with_unfolding_all exact hm, by omega, by omega, by omega, by omega⟩
    · refine wpAny_getItem_list (x := .int d3 t3) (listOf_is hl3.1) (by decide) (by decide) rfl ?_
      walk_at "mW"
      rw [e10]
      walk_at "mW"
      refine set_list (own := own) (post := []) F' N' hap' (fun p hp => nomatch hp) (by decide) (by show (3 : Int) < 4; decide) (by show 4 ≤ 1000; decide) (fun h' n' F'' N'' => ?_)
      walk_at "mW"
      refine ⟨_, _, _, _, rfl, F'', N'', fun p hp => .inl (by rw [List.mem_singleton.mp hp]; exact List.mem_singleton.mpr rfl), _, _, _, _, _, _, _, _, n', rfl, by with_unfolding_all exact hm, by omega, by omega, by omega, by omega⟩
  · rintro h₃ tk₃ m₃ news₃ F₃ N₃ ⟨d0, d1, d2, d3, t0, t1, t2, t3, n, rfl, hm, b0, b1, b2, b3⟩
    walk_at "mW"
    have hlen : ws.toArray.size ≤ 12 := by
      have := hI.length
      have h2 : (ns.take 12).length ≤ 12 := by rw [List.length_take]; omega
      simp; omega
    have hl3 := N₃ (l, _) (.head _)
    obtain ⟨d0, rfl⟩ := Int.eq_ofNat_of_zero_le b0.1
    obtain ⟨d1, rfl⟩ := Int.eq_ofNat_of_zero_le b1.1
    obtain ⟨d2, rfl⟩ := Int.eq_ofNat_of_zero_le b2.1
    obtain ⟨d3, rfl⟩ := Int.eq_ofNat_of_zero_le b3.1
    exact hq l _ d0 d1 d2 d3 t0 t1 t2 t3 _ ⟨_, _, rfl, fun b o e => F₃.keep b o e⟩ hl3.2.2 hl3.1 (by omega) (by omega) (by omega) (by omega)

end
end Mine

end

section
open PySem PySem.W PySem.Calls PyProof.Rows
set_option Elab.async false
set_option maxRecDepth 100000
set_option maxHeartbeats 400000
namespace Mine
theorem fresh_C5 : True := by
  w_top off
  trivial
local macro_rules | `(tactic| walk_at "eval Name") => `(tactic| first
  | (with_unfolding_all refine nmL (by rfl) (by rfl) (by decide) (by first | with_reducible assumption | exact Fr.ns (by with_reducible assumption)) (by rfl) (by first | rfl | assumption) ?_)
  | (with_unfolding_all refine nmC (by rfl) (by rfl) (by decide) (by rfl) (by first | with_reducible assumption | assumption) ?_)
  | (with_unfolding_all refine nmG (by rfl) (by rfl) (by rfl) (by decide) (by rfl) (by first | with_reducible assumption | exact Wd.keeps (by with_reducible assumption) (Fr.keep (by with_reducible assumption))) ?_)
  | (with_unfolding_all refine nmB (by rfl) (by rfl) (by boot_by_name) (by rfl) (by rfl) (by decide) (by decide) (by rfl) (by first | with_reducible assumption | exact Wd.keeps (by with_reducible assumption) (Fr.keep (by with_reducible assumption))) ?_))
local macro_rules | `(tactic| walk_at "loadName") => `(tactic| (with_unfolding_all refine nmLd (by rfl) (by rfl) (by first | with_reducible assumption | exact Fr.ns (by with_reducible assumption)) (by rfl) (by first | rfl | assumption) ?_))
local macro_rules | `(tactic| walk_at "callWith ref") => `(tactic| (with_unfolding_all refine callF (by first | with_reducible assumption | exact Wd.keeps (by with_reducible assumption) (Fr.keep (by with_reducible assumption))) (by rfl) ?_ (by rfl) (by rfl)))
local macro_rules | `(tactic| walk_at "And") => `(tactic| ((with_reducible show Frag.In _ _ ∧ _); refine ⟨by first | exact (Wd.X (by with_reducible assumption)) | exact Wd.X (Wd.keeps (by with_reducible assumption) (Fr.keep (by with_reducible assumption))), ?_⟩; try dsimp only [List.nil_append, List.cons_append]))
local macro_rules | `(tactic| walk_at "mW") => `(tactic| repeat ((fail_if_success (with_reducible show wpAny _ _ (exec (Stmt.For _ _ _ _ _) _) _ _ _)); (fail_if_success (with_reducible show wpAny _ _ (execs (Stmt.Assign _ (Expr.List [] _) _ :: Stmt.For _ _ _ _ _ :: _) _) _ _ _)); (fail_if_success (with_reducible show wpAny _ _ (subscriptTail _ _ (Value.ref _) (Value.int _ _)) _ _ _)); (fail_if_success (with_reducible show wpAny _ _ (call (Value.builtin "list.append") _ _) _ _ _)); walk1))
local macro_rules | `(tactic| walk_at "binaryOp Mult int int") => `(tactic| with_reducible refine mul_int ?_ (by with_reducible assumption))
local macro_rules | `(tactic| walk_at "binaryOp Pow int int") => `(tactic| with_reducible refine pow_int_small (by with_reducible assumption) (by with_reducible assumption) (by with_reducible assumption) ?_)

section
variable {w : World} {A : Around} {E : Value → Shared → Prop} {s : Shared}

/-- rows of numbers in the heap -/
def RowsAt (h : Heap) (g : Addr) (rows : List (List Int)) : Prop := ∃ items : List Value, h.IsList g items.toArray ∧ items.length = rows.length ∧ ∀ (i : Nat) (r : List Int), rows[i]? = some r → ∃ (a : Addr) (vs : List Value), items[i]? = some (Value.ref a) ∧ h.IsList a vs.toArray ∧ IntsAre vs r
theorem RowsAt.keeps {h h' : Heap} {g : Addr} {rows} (x : RowsAt h g rows) (k : ∀ b o, h.get? b = some o → h'.get? b = some o) : RowsAt h' g rows :=
  let ⟨items, a, b, c⟩ := x
  ⟨items, a.at fun o e => k _ o e, b, fun i r hr => let ⟨a', vs, h1, h2, h3⟩ := c i r hr; ⟨a', vs, h1, h2.at fun o e => k _ o e, h3⟩⟩
def pvOf (q : Int) (one other : Nat) (rows : List (List Int)) (k : Int) : Int := (1 - 2 * (k.fmod 2)) * q ^ ((k * (k - 1)).fdiv 2).toNat * ((rows.getD (one + other) []).getD ((other : Int) + k).toNat 0)
def pairL (q : Int) (one other : Nat) (rows : List (List Int)) : List (Int × Int) := (List.range (one + other + 1)).map fun (i : Nat) => (-(other : Int) + (i : Int) * 1, pvOf q one other rows (-(other : Int) + (i : Int) * 1))
def tupObj (p : Int × Int) (t : Tok × Tok) : Obj := { cls := .type "tuple", data := .seq #[.int p.1 t.1, .int p.2 t.2] }
def PairObjs (ts : List (Addr × Obj)) (ps : List (Int × Int)) : Prop := ts.length = ps.length ∧ ∀ (j : Nat) (x : Addr × Obj), ts[j]? = some x → ∃ p t, ps[j]? = some p ∧ x.2 = tupObj p t
theorem pairObjs_snoc {ts : List (Addr × Obj)} {l : List (Int × Int)} {i : Nat} {D : Addr} {p : Int × Int} {tt : Tok × Tok} (h : PairObjs ts (l.take i)) (hp : l[i]? = some p) : PairObjs (ts ++ [(D, tupObj p tt)]) (l.take (i + 1)) := by
  rw [take_succ_of hp]
  obtain ⟨h1, h2⟩ := h
  refine ⟨by simp [h1], fun j x hx => ?_⟩
  by_cases hj : j < ts.length
  · rw [List.getElem?_append_left hj] at hx
    obtain ⟨p', t, e1, e2⟩ := h2 j x hx
    exact ⟨p', t, by rw [List.getElem?_append_left (h1 ▸ hj)]; exact e1, e2⟩
  · have hj' : j = ts.length := by
      have := (List.getElem?_eq_some_iff.mp hx).1
      simp at this; omega
    subst hj'
    simp at hx
    subst hx
    exact ⟨p, tt, by rw [h1]; simp, rfl⟩
theorem app_pair {h₀ : Heap} {L D' P : Addr} {p : Int × Int} {tt : Tok × Tok} {own ts : List (Addr × Obj)} {n : Nat} {m : Str → Option Value} {Q : Value → Shared → Prop} (F : Fr h₀ L s.heap m)
    (N : News h₀ L s.heap ((D', tupObj p tt) :: (own ++ (P, PySem.W.listOf (ts.map fun x => Value.ref x.1).toArray n) :: ts))) (hl : ∀ x ∈ own ++ (P, PySem.W.listOf (ts.map fun x => Value.ref x.1).toArray n) :: ts, x.1 < D')
    (hPo : ∀ x ∈ own, x.1 ≠ P) (hne : ∀ x ∈ ts, x.1 ≠ P) (hz : ts.length ≤ 1000)
    (h : ∀ h', Fr h₀ L h' m → News h₀ L h' (own ++ (P, PySem.W.listOf ((ts ++ [(D', tupObj p tt)]).map fun x => Value.ref x.1).toArray (n + 1)) :: (ts ++ [(D', tupObj p tt)])) → (∀ x ∈ own, x.1 ≠ D') → D' ≠ P → Q .none { s with heap := h' }) :
    wpAny (model PG w) A (call (.builtin "list.append") [.ref P, .ref D']) Q E s := by
  have hlt := hl (P, _) (List.mem_append_right _ (.head _))
  have hD'P : D' ≠ P := Nat.ne_of_gt hlt
  refine app_list (own := (D', tupObj p tt) :: own) (post := ts) F N ?_ hne (by simp; omega) (fun h₇ F₇ N₇ => ?_)
  · intro x hx
    rcases List.mem_cons.mp hx with rfl | hx
    · exact hD'P
    · exact hPo x hx
  · refine h h₇ F₇ ?_ (fun x hx => Nat.ne_of_lt (hl x (List.mem_append_left _ hx))) hD'P
    have e : ((ts ++ [(D', tupObj p tt)]).map fun x => Value.ref x.1).toArray = ((ts.map fun x => Value.ref x.1).toArray).push (.ref D') := by simp
    rw [e]
    intro x hx
    refine N₇ x ?_
    simp only [List.mem_append, List.mem_cons, List.not_mem_nil, or_false] at hx ⊢
    rcases hx with hx | hx | hx | hx
    · exact .inl (.inr hx)
    · exact .inr (.inl hx)
    · exact .inr (.inr hx)
    · exact .inl (.inl hx)
theorem c_pair {one other : Nat} {q : Int} {t1 t2 t3 : Tok} {g : Addr} {rows : List (List Int)} {Q : Value → Shared → Prop} (R : Rm 2 A) (W : Wd w s.heap) (hq : -50 ≤ q ∧ q ≤ 50) (ht : one ≤ 2 ∧ other ≤ 2) (hR : RowsAt s.heap g rows)
    (hrow : ∃ r, rows[one + other]? = some r ∧ r.length = one + other + 1) (hbits : ∀ r ∈ rows, ∀ x ∈ r, Builtin.Int.intBits x ≤ 64)
    (hQ : ∀ P n (ts : List (Addr × Obj)) s', Keeps s s' → s.heap.get? P = none → s'.heap.get? P = some (PySem.W.listOf (ts.map fun x => Value.ref x.1).toArray n) → (∀ x ∈ ts, s.heap.get? x.1 = none ∧ s'.heap.get? x.1 = some x.2 ∧ x.1 ≠ P) → PairObjs ts (pairL q one other rows) → Q (.ref P) s') :
    wpAny (model PG w) A (call (.ref 123) [.int one t1, .int other t2, .int q t3, .ref g] []) Q E s := by
  refine call_def [(Str.ofString "one", .int one t1), (Str.ofString "other", .int other t2), (Str.ofString "q", .int q t3), (Str.ofString "gauss", .ref g)] W rfl (by rfl) R.room (by rfl) (locs rfl) (by decide) (fun h₁ tk F W => ?_) rfl rfl rfl
  have N : News s.heap s.heap.objs.size h₁ [] := News.nil
  have X := W.X
  obtain ⟨mg, mb, T⟩ := W.T
  show wpAny _ _ _ _ _ _
  k_fold
  walk_at "mW"
  refine wpAny_execs_cons ?_
  walk_at "mW"
  rename Fr _ _ _ _ => F₂
  refine For_turns F₂ ?_ (by intro _; rfl)
  walk_at "mW"
  rename_i P _ _ _ _ N₃ h₄ _ _ _ _ hr F₄ N₄ _
  refine range_turns (n := one + other + 1) R.hh hr ?_ ?_ F₄ N₄ rfl rfl
    (fun i m news => ∃ (ts : List (Addr × Obj)) (n : Nat), news = (P, PySem.W.listOf (ts.map fun x => Value.ref x.1).toArray n) :: ts ∧ (∀ x ∈ ts, x.1 ≠ P) ∧ PairObjs ts ((pairL q one other rows).take i) ∧
      m (Str.ofString "powers") = some (.ref P) ∧ m (Str.ofString "one") = some (.int one t1) ∧ m (Str.ofString "other") = some (.int other t2) ∧ m (Str.ofString "q") = some (.int q t3) ∧ m (Str.ofString "gauss") = some (.ref g)) ?_ ?_ ?_
  · have h1 : one = 0 ∨ one = 1 ∨ one = 2 := by omega
    have h2 : other = 0 ∨ other = 1 ∨ other = 2 := by omega
    rcases h1 with rfl | rfl | rfl <;> rcases h2 with rfl | rfl | rfl <;> decide
  · have h1 : one = 0 ∨ one = 1 ∨ one = 2 := by omega
    have h2 : other = 0 ∨ other = 1 ∨ other = 2 := by omega
    rcases h1 with rfl | rfl | rfl <;> rcases h2 with rfl | rfl | rfl <;> decide
  · exact ⟨[], 0, rfl, (fun x hx => nomatch hx), ⟨rfl, fun j x hx => by simp at hx⟩, rfl, rfl, rfl, rfl, rfl⟩
  · rintro i tkv m₁ news₁ h₅ tk₅ own hi ⟨ts, n, rfl, hne, hts, m1, m2, m3, m4, m5⟩ hap F' N'
    clear N₃ F₄ N₄ hr
    have hk1 : -2 ≤ -(other : Int) + (i : Int) * 1 := by omega
    have hk2 : -(other : Int) + (i : Int) * 1 ≤ 2 := by omega
    have hk3 : 0 ≤ (other : Int) + (-(other : Int) + (i : Int) * 1) := by omega
    have hk4 : (other : Int) + (-(other : Int) + (i : Int) * 1) < one + other + 1 := by omega
    have hk5 : (other : Int) + (-(other : Int) + (i : Int) * 1) < 1000000 := by omega
    generalize hkk : -(other : Int) + (i : Int) * 1 = k at F' hk1 hk2 hk3 hk4 hk5
    have he : 0 ≤ (k * (k - 1)).fdiv 2 ∧ (k * (k - 1)).fdiv 2 ≤ 3 ∧ 0 ≤ k.fmod 2 ∧ k.fmod 2 ≤ 1 := by
      have : k = -2 ∨ k = -1 ∨ k = 0 ∨ k = 1 ∨ k = 2 := by omega
      rcases this with rfl | rfl | rfl | rfl | rfl <;> decide
    obtain ⟨he0, he1, he2, he3⟩ := he
    have hk6 : ((other : Int) + k).toNat < one + other + 1 := by omega
    have i1 : IntMulOk k (k - 1) := .of_left (intBits_le_64 (by omega) (by omega))
    have i2 : IntMulOk 2 (k.fmod 2) := .of_left (intBits_le_64 (by omega) (by omega))
    have i3 : ∀ x, IntMulOk (1 - 2 * k.fmod 2) x := fun x => .of_left (intBits_le_64 (by omega) (by omega))
    have i3 := i3 (q ^ ((k * (k - 1)).fdiv 2).toNat)
    have he1' : (k * (k - 1)).fdiv 2 ≤ 1000000 := by omega
    have hqa : q.natAbs < 2 ^ 64 := by omega
    obtain ⟨row, hrow, hrl⟩ := hrow
    have hk7 : ((other : Int) + k).toNat < row.length := by rw [hrl]; exact hk6
    obtain ⟨items, g1, g2, g3⟩ := id hR
    obtain ⟨ra, rvs, g4, g5, g6⟩ := g3 _ _ hrow
    obtain ⟨yv, yt, hyv, hyt⟩ := row_at g6 hk7
    have i4 : IntMulOk ((1 - 2 * k.fmod 2) * q ^ ((k * (k - 1)).fdiv 2).toNat) yv := .of_right (hbits _ (List.mem_of_getElem? hrow) _ (List.mem_of_getElem? hyv))
    have g1' := g1.at fun o e => F'.keep _ o e
    have g5' := g5.at fun o e => F'.keep _ o e
    have g4' : items.toArray[((one : Int) + other).toNat]? = some (Value.ref ra) := by rw [show ((one : Int) + other).toNat = one + other by omega]; simpa using g4
    have hyt' : rvs.toArray[((other : Int) + k).toNat]? = some (Value.int yv yt) := by rw [List.getElem?_toArray]; exact hyt
    have ho1 : 0 ≤ (one : Int) + other := by omega
    have hPo : ∀ p ∈ own, p.1 ≠ P := fun p hp => hap p hp _ (.head _)
    have htz : ts.length ≤ 1000 := by rw [hts.1, List.length_take]; omega
    have hpl : (pairL q one other rows)[i]? = some (k, (1 - 2 * k.fmod 2) * q ^ ((k * (k - 1)).fdiv 2).toNat * yv) := by
      unfold pairL
      rw [List.getElem?_map, List.getElem?_range hi]
      simp only [Option.map_some, pvOf, hkk]
      rw [show rows.getD (one + other) [] = row by rw [List.getD_eq_getElem?_getD, hrow]; rfl, show row.getD ((other : Int) + k).toNat 0 = yv by rw [List.getD_eq_getElem?_getD, hyv]; rfl]
    have ho2 : (one : Int) + other < 1000000 := by omega
    clear g3 hR
    walk_at "mW"
    refine sub_list g1' ho1 ho2 g4' ?_
    walk_at "mW"
    refine sub_list g5' hk3 hk5 hyt' ?_
    walk_at "mW"
    rename_i D' h₆ F₆ N₆ l1
    refine app_pair (p := (k, (1 - 2 * k.fmod 2) * q ^ ((k * (k - 1)).fdiv 2).toNat * yv)) (tt := (tkv, _)) F₆ N₆ l1 hPo hne htz (fun h₇ F₇ N₇ hD1 hD2 => ?_)
    walk_at "mW"
    refine ⟨_, _, _, _, rfl, F₇, N₇, ?_, _, _, rfl, ?_, pairObjs_snoc hts hpl, by with_unfolding_all exact m1, by with_unfolding_all exact m2, by with_unfolding_all exact m3, by with_unfolding_all exact m4, by with_unfolding_all exact m5⟩
    · intro p hp
      rcases List.mem_cons.mp hp with rfl | hp
      · exact .inl (.head _)
      · rcases List.mem_append.mp hp with hp | hp
        · exact .inl (.tail _ (List.mem_map.mpr ⟨p, hp, rfl⟩))
        · rw [List.mem_singleton.mp hp]; exact .inr (.inr hD1)
    · intro x hx
      rcases List.mem_append.mp hx with hx | hx
      · exact hne x hx
      · rw [List.mem_singleton.mp hx]; exact hD2
  · rintro h₅ tk₅ m₅ news₅ F₅ N₅ ⟨ts, n, rfl, hne, hts, m1, m2, m3, m4, m5⟩
    rw [List.take_of_length_le (by simp [pairL])] at hts
    have hP := N₅ (P, _) (.head _)
    have hT := fun x (hx : x ∈ ts) => N₅ x (.tail _ hx)
    walk_at "mW"
    exact hQ P n ts _ ⟨_, _, rfl, fun b o e => F₅.keep b o e⟩ hP.2.2 hP.1 (fun x hx => ⟨(hT x hx).2.2, (hT x hx).1, hne x hx⟩) hts

end
end Mine

end

section
open PySem PySem.W PySem.Calls PyProof.Rows
set_option Elab.async false
set_option maxRecDepth 100000
set_option maxHeartbeats 400000
namespace Mine
theorem fresh_C4 : True := by
  w_top off
  trivial
local macro_rules | `(tactic| walk_at "none of these") => `(tactic| skip)
local macro_rules | `(tactic| walk_at "eval Name") => `(tactic| first
  | (with_unfolding_all refine nmL (by rfl) (by rfl) (by decide) (by first | with_reducible assumption | exact Fr.ns (by with_reducible assumption)) (by rfl) (by first | rfl | assumption) ?_)
  | (with_unfolding_all refine nmC (by rfl) (by rfl) (by decide) (by rfl) (by first | with_reducible assumption | assumption) ?_)
  | (with_unfolding_all refine nmG (by rfl) (by rfl) (by rfl) (by decide) (by rfl) (by first | with_reducible assumption | exact Wd.keeps (by with_reducible assumption) (Fr.keep (by with_reducible assumption))) ?_)
  | (with_unfolding_all refine nmB (by rfl) (by rfl) (by boot_by_name) (by rfl) (by rfl) (by decide) (by decide) (by rfl) (by first | with_reducible assumption | exact Wd.keeps (by with_reducible assumption) (Fr.keep (by with_reducible assumption))) ?_))
local macro_rules | `(tactic| walk_at "loadName") => `(tactic| (with_unfolding_all refine nmLd (by rfl) (by rfl) (by first | with_reducible assumption | exact Fr.ns (by with_reducible assumption)) (by rfl) (by first | rfl | assumption) ?_))
local macro_rules | `(tactic| walk_at "callWith ref") => `(tactic| (with_unfolding_all refine callF (by first | with_reducible assumption | exact Wd.keeps (by with_reducible assumption) (Fr.keep (by with_reducible assumption))) (by rfl) ?_ (by rfl) (by rfl)))
local macro_rules | `(tactic| walk_at "And") => `(tactic| ((with_reducible show Frag.In _ _ ∧ _); refine ⟨by first | exact (Wd.X (by with_reducible assumption)) | exact Wd.X (Wd.keeps (by with_reducible assumption) (Fr.keep (by with_reducible assumption))), ?_⟩; try dsimp only [List.nil_append, List.cons_append]))
local macro_rules | `(tactic| walk_at "mW") => `(tactic| repeat ((fail_if_success (with_reducible show wpAny _ _ (exec (Stmt.For _ _ _ _ _) _) _ _ _)); (fail_if_success (with_reducible show wpAny _ _ (execs (Stmt.Assign _ (Expr.List [] _) _ :: Stmt.For _ _ _ _ _ :: _) _) _ _ _)); (fail_if_success (with_reducible show wpAny _ _ (subscriptTail _ _ (Value.ref _) (Value.int _ _)) _ _ _)); (fail_if_success (with_reducible show wpAny _ _ (call (Value.builtin "list.append") _ _) _ _ _)); (fail_if_success (with_reducible show Exists _)); (fail_if_success (with_reducible show wpAny _ _ (eval (Expr.ListComp _ _ _ _) _) _ _ _)); (fail_if_success (with_reducible show wpAny _ _ (eval (Expr.DictComp _ _ _ _ _) _) _ _ _)); (fail_if_success (with_reducible show wpAny _ _ (binaryOp _ (Value.ref _) (Value.ref _)) _ _ _)); walk1))
local macro_rules | `(tactic| walk_at "binaryOp Mult int int") => `(tactic| with_reducible refine mul_int ?_ (by with_reducible assumption))
local macro_rules | `(tactic| walk_at "binaryOp Pow int int") => `(tactic| with_reducible refine pow_int_small (by with_reducible assumption) (by with_reducible assumption) (by with_reducible assumption) ?_)

section
variable {w : World} {A : Around} {E : Value → Shared → Prop} {s : Shared}

def gNext (q : Int) (above : List Int) (n : Nat) : List Int := [1] ++ ((rangeInts 1 1 (n - 1)).map fun k => above.getD (k - 1).toNat 0 + q ^ k.toNat * above.getD k.toNat 0) ++ [1]
def gRows (q : Int) : Nat → List (List Int)
  | 0 => [[1]]
  | n + 1 => gRows q n ++ [gNext q ((gRows q n).getD n []) (n + 1)]
theorem gRows_len (q : Int) : ∀ n, (gRows q n).length = n + 1
  | 0 => rfl
  | n + 1 => by simp [gRows, gRows_len q n]
theorem gRows_sub (q : Int) {i top : Nat} (h : i ≤ top) {r : List Int} (hr : r ∈ gRows q i) : r ∈ gRows q top := by
  induction top with
  | zero => rwa [show i = 0 by omega] at hr
  | succ n ih =>
    by_cases e : i = n + 1
    · rwa [e] at hr
    · exact List.mem_append_left _ (ih (by omega))
theorem gRows_row (q : Int) : ∀ (n : Nat) (r : List Int), (gRows q n)[n]? = some r → r.length = n + 1
  | 0, r, h => by simp [gRows] at h; subst h; rfl
  | n + 1, r, h => by
    unfold gRows at h
    rw [List.getElem?_append_right (Nat.le_of_eq (gRows_len q n)), gRows_len] at h
    simp at h
    subst h
    simp [gNext, rangeInts_length]
theorem carried_ints {f : Int → Int} : ∀ {l : List Int} {ys : List Value}, CarriedAll ys (l.map fun k => PyData.int (f k)) → IntsAre ys (l.map f)
  | [], _, h => by cases h; exact .nil
  | k :: l, _, h => by cases h with | cons h1 h2 => cases h1; exact .cons _ _ (carried_ints h2)
theorem app_row {h₀ : Heap} {L nr Rw c2 c1 : Addr} {o6 oq : Obj} {row : List Value} {own rs : List (Addr × Obj)} {n nn : Nat} {m : Str → Option Value} {Q : Value → Shared → Prop} (F : Fr h₀ L s.heap m)
    (N : News h₀ L s.heap ((nr, PySem.W.listOf row.toArray nn) :: (own ++ [(Rw, PySem.W.listOf (rs.map fun x => Value.ref x.1).toArray n)] ++ (c2, o6) :: (c1, oq) :: rs)))
    (hl : ∀ x ∈ own ++ [(Rw, PySem.W.listOf (rs.map fun x => Value.ref x.1).toArray n)] ++ (c2, o6) :: (c1, oq) :: rs, x.1 < nr)
    (hoR : ∀ x ∈ own, x.1 ≠ Rw) (h2 : c2 ≠ Rw) (h1 : c1 ≠ Rw) (hne : ∀ x ∈ rs, x.1 ≠ Rw) (hz : rs.length ≤ 1000)
    (h : ∀ h', Fr h₀ L h' m → News h₀ L h' (own ++ (Rw, PySem.W.listOf ((rs ++ [(nr, PySem.W.listOf row.toArray nn)]).map fun x => Value.ref x.1).toArray (n + 1)) :: (c2, o6) :: (c1, oq) :: (rs ++ [(nr, PySem.W.listOf row.toArray nn)])) →
      (∀ x ∈ own, x.1 ≠ nr) → nr ≠ Rw → nr ≠ c2 → nr ≠ c1 → Q .none { s with heap := h' }) :
    wpAny (model PG w) A (call (.builtin "list.append") [.ref Rw, .ref nr]) Q E s := by
  have hR : nr ≠ Rw := Nat.ne_of_gt (hl (Rw, _) (List.mem_append_left _ (List.mem_append_right _ (.head _))))
  refine app_list (items := (rs.map fun x => Value.ref x.1).toArray) (n := n) (own := (nr, PySem.W.listOf row.toArray nn) :: own) (post := (c2, o6) :: (c1, oq) :: rs) F ?_ ?_ ?_ ?_ (fun h₇ F₇ N₇ => ?_)
  · have e : own ++ [(Rw, PySem.W.listOf (rs.map fun x => Value.ref x.1).toArray n)] ++ (c2, o6) :: (c1, oq) :: rs = own ++ (Rw, PySem.W.listOf (rs.map fun x => Value.ref x.1).toArray n) :: (c2, o6) :: (c1, oq) :: rs := by simp
    rw [e] at N; exact N
  · intro x hx
    rcases List.mem_cons.mp hx with rfl | hx
    · exact hR
    · exact hoR x hx
  · intro x hx
    simp only [List.mem_cons] at hx
    rcases hx with rfl | rfl | hx
    · exact h2
    · exact h1
    · exact hne x hx
  · rw [List.size_toArray, List.length_map]; omega
  · refine h h₇ F₇ ?_ (fun x hx => Nat.ne_of_lt (hl x (List.mem_append_left _ (List.mem_append_left _ hx)))) hR (Nat.ne_of_gt (hl (c2, o6) (List.mem_append_right _ (.head _)))) (Nat.ne_of_gt (hl (c1, oq) (List.mem_append_right _ (.tail _ (.head _)))))
    have e : ((rs ++ [(nr, PySem.W.listOf row.toArray nn)]).map fun x => Value.ref x.1).toArray = ((rs.map fun x => Value.ref x.1).toArray).push (.ref nr) := by simp
    rw [e]
    intro x hx
    refine N₇ x ?_
    simp only [List.mem_append, List.mem_cons, List.not_mem_nil, or_false] at hx ⊢
    rcases hx with hx | hx | hx | hx | hx | hx
    · exact .inl (.inr hx)
    · exact .inr (.inl hx)
    · exact .inr (.inr (.inl hx))
    · exact .inr (.inr (.inr (.inl hx)))
    · exact .inr (.inr (.inr (.inr hx)))
    · exact .inl (.inl hx)
def rowO (x : Addr × Obj) (r : List Int) : Prop := ∃ vs n, x.2 = PySem.W.listOf vs.toArray n ∧ IntsAre vs r
def RowObjs (rs : List (Addr × Obj)) (rows : List (List Int)) : Prop := rs.length = rows.length ∧ ∀ (j : Nat) (x : Addr × Obj), rs[j]? = some x → ∃ r, rows[j]? = some r ∧ rowO x r
theorem rowObjs_snoc {rs : List (Addr × Obj)} {q : Int} {i : Nat} {x : Addr × Obj} {row : List Int} (h : RowObjs rs (gRows q i)) (hx : rowO x row) (hn : (gRows q (i + 1))[i + 1]? = some row) : RowObjs (rs ++ [x]) (gRows q (i + 1)) := by
  obtain ⟨h1, h2⟩ := h
  rw [gRows_len] at h1
  refine ⟨by simp [h1, gRows_len], fun j y hy => ?_⟩
  by_cases hj : j < rs.length
  · rw [List.getElem?_append_left hj] at hy
    obtain ⟨r, e1, e2⟩ := h2 j y hy
    exact ⟨r, by show (gRows q i ++ _)[j]? = _; rw [List.getElem?_append_left (by rw [gRows_len]; omega)]; exact e1, e2⟩
  · have hj' : j = rs.length := by
      have := (List.getElem?_eq_some_iff.mp hy).1
      simp at this; omega
    subst hj'
    simp at hy
    subst hy
    exact ⟨row, by rw [h1]; exact hn, hx⟩
theorem range_ones {top : Nat} (h : top ≤ 6) : Builtin.Range.small 1 (top + 1) 1 = true ∧ Builtin.Range.rangeSize 1 (top + 1) 1 = (top : Int) ∧ (Builtin.Range.small 1 (1 + (top : Int) * 1) 1 = true ∧ Builtin.Range.rangeSize 1 (1 + (top : Int) * 1) 1 = (top : Int)) := by
  have : top = 0 ∨ top = 1 ∨ top = 2 ∨ top = 3 ∨ top = 4 ∨ top = 5 ∨ top = 6 := by omega
  rcases this with rfl | rfl | rfl | rfl | rfl | rfl | rfl <;> decide
theorem c_gauss {top : Nat} {q : Int} {t1 t2 : Tok} {Q : Value → Shared → Prop} (R : Rm 2 A) (W : Wd w s.heap) (hq : -50 ≤ q ∧ q ≤ 50) (ht : top ≤ 6) (hbits : ∀ r ∈ gRows q top, ∀ x ∈ r, Builtin.Int.intBits x ≤ 64)
    (hQ : ∀ P n (rs : List (Addr × Obj)) s', Keeps s s' → s.heap.get? P = none → s'.heap.get? P = some (PySem.W.listOf (rs.map fun x => Value.ref x.1).toArray n) → (∀ x ∈ rs, s.heap.get? x.1 = none ∧ s'.heap.get? x.1 = some x.2 ∧ x.1 ≠ P) → RowObjs rs (gRows q top) → Q (.ref P) s') :
    wpAny (model PG w) A (call (.ref 116) [.int top t1, .int q t2] []) Q E s := by
  refine call_defC [(Str.ofString "top", .int top t1), (Str.ofString "q", .int q t2)] W rfl (by rfl) R.room (by rfl) (by rfl) (fun h₁ tk F X W => ?_) rfl rfl rfl
  have cq := X.cell (Str.ofString "q") (s.heap.objs.size + 1) (by rfl)
  have ca := X.cell (Str.ofString "above") (s.heap.objs.size + 2) (by rfl)
  obtain ⟨oq, hq1, hq2⟩ := cq
  obtain ⟨oa, ha1, ha2⟩ := ca
  have hns : ∀ k, s.heap.get? (s.heap.objs.size + k) = none := fun k => by
    cases e : s.heap.get? (s.heap.objs.size + k) with
    | none => rfl
    | some o => exact absurd (Heap.lt_size e) (by exact Nat.not_lt.mpr (Nat.le_add_right _ _))
  have N : News s.heap s.heap.objs.size h₁ [(s.heap.objs.size + 1, oq), (s.heap.objs.size + 2, oa)] := by
    intro p hp
    simp only [List.mem_cons, List.not_mem_nil, or_false] at hp
    rcases hp with rfl | rfl
    · exact ⟨hq1, by exact Nat.succ_ne_self _, hns 1⟩
    · exact ⟨ha1, by exact Nat.ne_of_gt (Nat.lt_add_of_pos_right (by decide)), hns 2⟩
  clear X
  obtain ⟨mg, mb, T⟩ := W.T
  show wpAny _ _ _ _ _ _
  k_fold
  walk_at "mW"
  rename Fr _ _ _ _ => F₂
  rename News _ _ _ _ => N₂
  refine For_turns F₂ ?_ (by intro _; rfl)
  walk_at "mW"
  rename_i h3 _ N3 _ _ _ _ _ _ _ _ _ _ _ _ _ hr F₄ N₄ _
  dsimp only at hr F₄ N₄ ⊢
  have l0 : h₁.objs.size < h3.objs.size := Heap.lt_size (N3 (h₁.objs.size, _) (.head _)).1
  have l1 : s.heap.objs.size + 1 < h₁.objs.size := Heap.lt_size hq1
  have l2 : s.heap.objs.size + 2 < h₁.objs.size := Heap.lt_size ha1
  clear N3 N F
  generalize h3.objs.size = Rw at l0 F₄ N₄
  generalize h₁.objs.size = r0 at l0 l1 l2 N₄
  have N₅ : News s.heap s.heap.objs.size _ ((Rw, PySem.W.listOf ([(r0, PySem.W.listOf #[Value.int 1 tk] 0)].map fun x => Value.ref x.1).toArray 0) :: (s.heap.objs.size + 2, oa) :: (s.heap.objs.size + 1, oq) :: [(r0, PySem.W.listOf #[Value.int 1 tk] 0)]) := fun p hp => N₄ p (by
    simp only [List.mem_cons, List.not_mem_nil, or_false] at hp ⊢
    rcases hp with h | h | h | h
    · exact .inl h
    · exact .inr (.inr (.inr h))
    · exact .inr (.inr (.inl h))
    · exact .inr (.inl h))
  have hc21 : s.heap.objs.size + 2 ≠ s.heap.objs.size + 1 := Nat.succ_ne_self _
  have hRc2 : Rw ≠ s.heap.objs.size + 2 := Nat.ne_of_gt (Nat.lt_trans l2 l0)
  have hRc1 : Rw ≠ s.heap.objs.size + 1 := Nat.ne_of_gt (Nat.lt_trans l1 l0)
  clear N₄
  generalize hc2 : s.heap.objs.size + 2 = c2 at N₅ hc21 hRc2 l2
  refine range_turns (n := top) R.hh hr ?_ ?_ F₄ N₅ rfl rfl
    (fun i m news => ∃ (rs : List (Addr × Obj)) (nn : Nat) (oa' : Obj), news = (Rw, PySem.W.listOf (rs.map fun x => Value.ref x.1).toArray nn) :: (c2, oa') :: (s.heap.objs.size + 1, oq) :: rs ∧ (∃ v, oa'.data = .cell v) ∧ RowObjs rs (gRows q i) ∧
      (∀ x ∈ rs, x.1 ≠ Rw ∧ x.1 ≠ c2 ∧ x.1 ≠ s.heap.objs.size + 1) ∧ m (Str.ofString "rows") = some (.ref Rw)) ?_ ?_ ?_
  · exact (range_ones ht).1
  · exact (range_ones ht).2.1
  · refine ⟨[(r0, PySem.W.listOf #[Value.int 1 tk] 0)], 0, oa, rfl, ⟨_, ha2⟩, ⟨rfl, fun j x hx => ?_⟩, fun x hx => ?_, rfl⟩
    · cases j with
      | zero => simp at hx; subst hx; exact ⟨[1], rfl, [Value.int 1 tk], 0, rfl, .cons 1 tk .nil⟩
      | succ j => simp at hx
    · rw [List.mem_singleton.mp hx]; exact ⟨Nat.ne_of_lt l0, Nat.ne_of_gt l2, Nat.ne_of_gt l1⟩
  · rintro i tkn m₁ news₁ h₅ tk₅ own hi ⟨rs, nn, oa', rfl, ⟨v₀, hv₀⟩, hrs, hne, m1⟩ hap F' N'
    have hlen : rs.length = i + 1 := by rw [hrs.1, gRows_len]
    obtain ⟨xr, hxr⟩ : ∃ x, rs[i]? = some x := ⟨rs[i]'(by omega), List.getElem?_eq_getElem (by omega)⟩
    obtain ⟨r, hr1, vs, nv, hx2, hvs⟩ := hrs.2 i xr hxr
    have hRl : h₅.IsList Rw (rs.map fun x => Value.ref x.1).toArray := listOf_is (N' (Rw, _) (List.mem_append_right _ (.head _))).1
    have hRx : ((rs.map fun x => Value.ref x.1).toArray)[((-1 : Int) + ((rs.map fun x => Value.ref x.1).toArray.size : Int)).toNat]? = some (Value.ref xr.1) := by
      have e : ((-1 : Int) + ((rs.map fun x => Value.ref x.1).toArray.size : Int)).toNat = i := by simp [hlen]; omega
      rw [e, List.getElem?_toArray, List.getElem?_map, hxr]; rfl
    have hRs : -(((rs.map fun x => Value.ref x.1).toArray.size : Nat) : Int) ≤ -1 := by simp [hlen]; omega
    clear hr
    have hio := (range_ones (top := i) (by omega)).2.2
    have hrm : r ∈ gRows q top := gRows_sub q (Nat.le_of_lt hi) (List.mem_of_getElem? hr1)
    have hrl : r.length = i + 1 := gRows_row q i r hr1
    have hiz : i ≤ sizeLine := by rw [sizeLine_eq]; omega
    have hclos : ∀ sc : Scope, sc.names = [(Str.ofString ".0", .local), (Str.ofString "k", .local), (Str.ofString "above", .free), (Str.ofString "q", .free)] →
        ∀ env : Env, env.cells = [(Str.ofString "above", s.heap.objs.size + 2), (Str.ofString "q", s.heap.objs.size + 1)] → closureFor sc env = pure [(Str.ofString "q", s.heap.objs.size + 1), (Str.ofString "above", s.heap.objs.size + 2)] := by
      intro sc hsc env henv
      unfold closureFor cellOf
      rw [hsc, henv]
      rfl
    have hoR : ∀ p ∈ own, p.1 ≠ Rw := fun p hp => hap p hp _ (.head _)
    have hoc : ∀ p ∈ own, p.1 ≠ c2 := fun p hp => hap p hp _ (.tail _ (.head _))
    have N6 : News s.heap s.heap.objs.size h₅ ((own ++ [(Rw, PySem.W.listOf (rs.map fun x => Value.ref x.1).toArray nn)]) ++ (c2, oa') :: (s.heap.objs.size + 1, oq) :: rs) := by rw [List.append_assoc]; exact N'
    have ho1 : ∀ p ∈ own ++ [(Rw, PySem.W.listOf (rs.map fun x => Value.ref x.1).toArray nn)], p.1 ≠ c2 := fun p hp => by
      rcases List.mem_append.mp hp with hp | hp
      · exact hoc p hp
      · rw [List.mem_singleton.mp hp]; exact hRc2
    have ho2 : ∀ p ∈ (s.heap.objs.size + 1, oq) :: rs, p.1 ≠ c2 := fun p hp => by
      rcases List.mem_cons.mp hp with rfl | hp
      · exact fun e => hc21 e.symm
      · exact (hne p hp).2.1
    walk_at "mW"
    refine sub_list_neg hRl (by decide) hRs (by decide) hRx ?_
    refine cell_set rfl rfl (by rw [← hc2]; rfl) F' N6 hv₀ ho1 ho2 (fun h₆ o6 F₆ N₇ hd6 => ?_)
    have hR6 := (N₇ (Rw, _) (List.mem_append_left _ (List.mem_append_right _ (.head _)))).1
    clear N' N6 F' hRl
    walk_at "mW"
    refine getMethod_list_append hR6 rfl rfl ?_
    walk_at "mW"
    rename_i h₈ F₈ N₈
    dsimp only at F₈ N₈ ⊢
    refine ListComp_DCr (h₀ := s.heap) (L := s.heap.objs.size) (m := fun y => if y = Str.ofString "n" then some (Value.int (1 + (i : Int) * 1) tkn) else m₁ y) (pz := fun _ => true) (d := fun k => PyData.int (r.getD (k - 1).toNat 0 + q ^ k.toNat * r.getD k.toNat 0)) (cl := [(Str.ofString "q", s.heap.objs.size + 1), (Str.ofString "above", s.heap.objs.size + 2)]) R.hh (hclos _ rfl _ rfl) (by decide) rfl (by decide) rfl ?_ (by intro _; rfl)
    walk_at "mW"
    rename_i h₉ _ _ _ _ hr9 F₉ N₉ k9
    refine ⟨_, _, _, _, _, _, _, _, i, rfl, hr9, ?_, ?_, hiz, F₉, N₉, ?_, ?_, ?_⟩
    · exact hio.1
    · exact hio.2
    · intro C a v s₂ m₂ E' hC ha hv hns hm hk
      exact wpAny_pure ⟨rfl, keeps_refl _⟩
    · intro C a v s₂ m₂ E' hC ha hv _ hns hm hk
      clear F₆ hr9 k9
      obtain ⟨ta, rfl⟩ := hv
      obtain ⟨ha1, ha2⟩ := mem_rangeInts ha
      obtain ⟨y1, u1, hy1, hv1⟩ := row_at hvs (n := (a - 1).toNat) (by rw [hrl]; omega)
      obtain ⟨y2, u2, hy2, hv2⟩ := row_at hvs (n := a.toNat) (by rw [hrl]; omega)
      have hl2 : s₂.heap.IsList xr.1 vs.toArray := listOf_is (hk _ _ (hx2 ▸ (N₉ xr (.tail _ (List.mem_append_right _ (.tail _ (.tail _ (List.mem_of_getElem? hxr)))))).1))
      have cq2 : s₂.heap.IsCell (s.heap.objs.size + 1) (some (.int q t2)) := ⟨oq, hk _ _ (N₉ (_, oq) (.tail _ (List.mem_append_right _ (.tail _ (.head _))))).1, hq2⟩
      have ca2 : s₂.heap.IsCell (s.heap.objs.size + 2) (some (.ref xr.1)) := ⟨o6, hk _ _ (hc2 ▸ (N₉ (c2, o6) (.tail _ (List.mem_append_right _ (.head _)))).1), hd6⟩
      have i4 : IntMulOk (q ^ a.toNat) y2 := .of_right (hbits _ hrm _ (List.mem_of_getElem? hy2))
      have a0 : 0 ≤ a - 1 := by omega
      have a1 : a - 1 < 1000000 := by omega
      have a2 : 0 ≤ a := by omega
      have a3 : a < 1000000 := by omega
      have a4 : a ≤ 1000000 := by omega
      have hqa : q.natAbs < 2 ^ 64 := by omega
      have hv1' : vs.toArray[(a - 1).toNat]? = some (Value.int y1 u1) := by rw [List.getElem?_toArray]; exact hv1
      have hv2' : vs.toArray[a.toNat]? = some (Value.int y2 u2) := by rw [List.getElem?_toArray]; exact hv2
      rw [show r.getD (a - 1).toNat 0 = y1 by rw [List.getD_eq_getElem?_getD, hy1]; rfl, show r.getD a.toNat 0 = y2 by rw [List.getD_eq_getElem?_getD, hy2]; rfl]
      clear N₉ F₉ N₇ hbits hQ hk
      walk_at "mW"
      refine sub_list hl2 a0 a1 hv1' ?_
      walk_at "mW"
      refine sub_list hl2 a2 a3 hv2' ?_
      walk_at "mW"
      · exact .int _ _
      · exact ⟨_, _, rfl, fun b o e => e⟩
    · intro D ys h' tk' Fd Nd hDn hlD hpl hcar
      have hys : IntsAre ys ((rangeInts 1 1 i).map fun k => r.getD (k - 1).toNat 0 + q ^ k.toNat * r.getD k.toNat 0) := carried_ints (by rw [show (rangeInts 1 1 i).filter (fun _ => true) = rangeInts 1 1 i from List.filter_eq_self.mpr (by simp)] at hcar; exact hcar)
      have hylen : ys.length = i := by rw [hys.length, List.length_map, rangeInts_length]
      have hl1 : h'.IsList h₆.objs.size [Value.int 1 (tk₅ + 1 + 1)].toArray := ⟨_, (Nd _ (.head _)).1, rfl, _, rfl⟩
      have hz1 : [Value.int 1 (tk₅ + 1 + 1)].length + ys.length ≤ sizeLine := by rw [hylen, sizeLine_eq, List.length_singleton]; omega
      clear F₉ N₉ N₇ hbits hQ hr9 k9 F₆
      have hz2 : ∀ t, ([Value.int 1 (tk₅ + 1 + 1)] ++ ys).length + [Value.int 1 t].length ≤ sizeLine := fun t => by rw [List.length_append, hylen, sizeLine_eq, List.length_singleton, List.length_singleton]; omega
      have hrz : rs.length ≤ 1000 := by omega
      have hneR : ∀ x ∈ rs, x.1 ≠ Rw := fun x hx => (hne x hx).1
      have hnext : (gRows q (i + 1))[i + 1]? = some ([1] ++ ((rangeInts 1 1 i).map fun k => r.getD (k - 1).toNat 0 + q ^ k.toNat * r.getD k.toNat 0) ++ [1]) := by
        show (gRows q i ++ [gNext q ((gRows q i).getD i []) (i + 1)])[i + 1]? = _
        rw [List.getElem?_append_right (Nat.le_of_eq (gRows_len q i)), gRows_len, show (gRows q i).getD i [] = r by rw [List.getD_eq_getElem?_getD, hr1]; rfl]
        simp [gNext]
      have hrows : ∀ x : Addr × Obj, rowO x ([1] ++ ((rangeInts 1 1 i).map fun k => r.getD (k - 1).toNat 0 + q ^ k.toNat * r.getD k.toNat 0) ++ [1]) → RowObjs (rs ++ [x]) (gRows q (i + 1)) := fun x hx => rowObjs_snoc hrs hx hnext
      have hys1 : ∀ t t', IntsAre ([Value.int 1 t] ++ ys ++ [Value.int 1 t']) ([1] ++ ((rangeInts 1 1 i).map fun k => r.getD (k - 1).toNat 0 + q ^ k.toNat * r.getD k.toNat 0) ++ [1]) := fun t t' => ((IntsAre.cons 1 t .nil).append hys).append (.cons 1 t' .nil)
      refine add_lists Fd Nd hl1 hlD (fun h10 F10 N10 => ?_) hz1
      walk_at "mW"
      rename_i hB FB NB kB _ _ _
      refine add_lists FB NB (listOf_is (n := 0) (NB _ (.tail _ (.head _))).1) (listOf_is (n := 0) (NB _ (.head _)).1) (fun hC FC NC => ?_) (hz2 _)
      walk_at "mW"
      refine app_row (row := [Value.int 1 (tk₅ + 1 + 1)] ++ ys ++ [Value.int 1 tk']) (nn := 0) FC (fun p hp => NC p ?_) (fun p hp => Heap.lt_size (NB p (.tail _ (.tail _ (.tail _ hp)))).1) hoR (fun e => hRc2 e.symm) (fun e => hRc1 e.symm) hneR hrz (fun h7 F7 N7 d1 d2 d3 d4 => ?_)
      · rcases List.mem_cons.mp hp with rfl | hp
        · exact .head _
        · exact .tail _ (.tail _ (.tail _ (.tail _ hp)))
      · walk_at "mW"
        refine ⟨_, _, _, _, rfl, F7, N7, ?_, _, _, o6, rfl, ⟨_, hd6⟩, hrows _ ⟨_, 0, rfl, hys1 _ _⟩, ?_, by with_unfolding_all exact m1⟩
        · intro p hp
          rcases List.mem_cons.mp hp with rfl | hp
          · exact .inl (.head _)
          · rcases List.mem_cons.mp hp with rfl | hp
            · exact .inl (.tail _ (.head _))
            · rcases List.mem_cons.mp hp with rfl | hp
              · exact .inl (.tail _ (.tail _ (.head _)))
              · rcases List.mem_append.mp hp with hp | hp
                · exact .inl (.tail _ (.tail _ (.tail _ (List.mem_map.mpr ⟨p, hp, rfl⟩))))
                · rw [List.mem_singleton.mp hp]; exact .inr (.inr d1)
        · intro x hx
          rcases List.mem_append.mp hx with hx | hx
          · exact hne x hx
          · rw [List.mem_singleton.mp hx]; exact ⟨d2, d3, d4⟩
  · rintro h₅ tk₅ m₅ news₅ F₅ N₅ ⟨rs, nn, oa', rfl, _, hrs, hne, m1⟩
    have hP := N₅ (Rw, _) (.head _)
    have hT := fun x (hx : x ∈ rs) => N₅ x (.tail _ (.tail _ (.tail _ hx)))
    walk_at "mW"
    exact hQ Rw nn rs _ ⟨_, _, rfl, fun b o e => F₅.keep b o e⟩ hP.2.2 hP.1 (fun x hx => ⟨(hT x hx).2.2, (hT x hx).1, (hne x hx).1⟩) hrs

end
end Mine

end

section
open PySem PySem.W PySem.Calls PyProof.Rows
open Sem (wp)
set_option Elab.async false
set_option maxRecDepth 100000
set_option maxHeartbeats 400000
namespace Mine
theorem fresh_K4 : True := by
  w_top off
  trivial
set_option linter.deprecated false
theorem ba_slot_set : Slot "bytearray" "__setitem__" "bytearray.__setitem__" :=
  .of (owner := "bytearray") (n := "__setitem__") (by rw [typeLookup_type, builtinLookup_eq_fast]; kernel_rfl) (by decide +kernel) (by decide +kernel) (by decide +kernel)
    (by first | exact .inl (by decide +kernel) | exact .inr (by decide +kernel)) (by rw [isSubtype_type]; kernel_rfl)
theorem ba_slot_buffer : Slot "bytearray" "__buffer__" "bytearray.__buffer__" :=
  .of (owner := "bytearray") (n := "__buffer__") (by rw [typeLookup_type, builtinLookup_eq_fast]; kernel_rfl) (by decide +kernel) (by decide +kernel) (by decide +kernel)
    (by first | exact .inl (by decide +kernel) | exact .inr (by decide +kernel)) (by rw [isSubtype_type]; kernel_rfl)
theorem ba_entry_set : entryFor table "bytearray.__setitem__" = some Builtin.«bytearray.__setitem__» := by first | exact entryFor_of_fast (by kernel_rfl) | exact entryFor_of_tree (by kernel_rfl)
theorem ba_args_set (a b c : Value) : argsOk "bytearray.__setitem__" ⟨[a, b, c], []⟩ := by
  unfold argsOk; rw [signature?_of (id := "bytearray.__setitem__") (n := ['_', '_', 'm', 'e', 't', 'i', 't', 'e', 's', '_', '_']) (o := ['y', 'a', 'r', 'r', 'a', 'e', 't', 'y', 'b']) (by kernel_rfl) ba_owner]; kernel_rfl
theorem ba_no_bytes : typeLookup (.type "bytearray") "__bytes__" = pure none := by rw [typeLookup_type, builtinLookup_eq_fast]; kernel_rfl
theorem ba_no_index : typeLookup (.type "bytearray") "__index__" = pure none := by rw [typeLookup_type, builtinLookup_eq_fast]; kernel_rfl
section
variable {w : World} {A : Around} {E : Value → Shared → Prop} {s : Shared}
theorem ba_setItem {B : Addr} {bs : Array UInt8} {k : Nat} {x : Int} {t u : Tok} {Q : Unit → Shared → Prop} (ho : s.heap.get? B = some (baObj bs)) (hk : k < bs.size) (hz : bs.size ≤ 1000000) (hx : 0 ≤ x ∧ x < 256)
    (h : ∀ h', h'.get? B = some (baObj (bs.setIfInBounds k x.toNat.toUInt8)) → Heap.SameBut B s.heap h' → Q () { s with heap := h' }) :
    wpAny (model PG w) A (setItem (.ref B) (.int k t) (.int x u)) Q E s := by
  have hT : s.TypeIs (.ref B) "bytearray" := ⟨_, ho, rfl⟩
  unfold setItem
  try with_reducible refine wpAny_holding ?_
  first | refine wpAny_bind (wpAny_pure ?_) | skip
  refine wpAny_bind (wpAny_sequenceKey hT (by decide) ?_)
  refine wpAny_bind (wpAny_callSpecial?_slot (name := Str.ofString "__setitem__") hT ba_slot_set
    (wpAny_call_entry ba_slot_set hT ba_entry_set ?_ (ba_args_set _ _ _)))
  unfold Builtin.«bytearray.__setitem__»
  dsimp only
  with_reducible refine bm_if_false rfl ?_
  with_reducible refine wpAny_bind ?_
  unfold Builtin.Bytes.subscript?
  with_reducible refine wpAny_bind ?_
  with_reducible refine wpAny_specialOf (typeIs_int _ _ _) F.slot_int_index.lookup ?_
  with_reducible refine bm_if_false rfl ?_
  with_reducible refine wpAny_bind ?_
  with_reducible refine wpAny_of_eq (ba_asIndex k t) ?_
  have e1 : (!Builtin.Bytes.fitsIndex (k : Int)) = false := by
    unfold Builtin.Bytes.fitsIndex
    simp only [Bool.not_eq_false', Bool.and_eq_true, decide_eq_true_eq]
    constructor <;> omega
  with_reducible refine bm_if_false e1 ?_
  with_reducible refine wpAny_pure ?_
  dsimp only
  with_reducible refine wpAny_bind ?_
  unfold Builtin.Bytes.byteValue
  with_reducible refine wpAny_bind ?_
  with_reducible refine wpAny_of_eq (ba_asIndex x u) ?_
  have e2 : (decide (x < 0) || decide (x ≥ 256)) = false := by simp; omega
  with_reducible refine bm_if_false e2 ?_
  with_reducible refine wpAny_pure ?_
  with_reducible refine wpAny_bind ?_
  unfold Builtin.Bytes.payload Builtin.Bytes.payload?
  refine wpAny_bind (wpAny_bind (wpAny_load ho ?_))
  refine wpAny_pure (wpAny_pure ?_)
  have e3 : seqIndex? (k : Int) bs.size = some k := by
    unfold seqIndex?
    have h2 : ¬ ((k : Int) < 0) := by omega
    simp only [h2, if_false]
    have h3 : (decide (0 ≤ (k : Int)) && decide ((k : Int) < (bs.size : Int))) = true := by simp; omega
    rw [if_pos h3]; simp
  rw [e3]
  dsimp only
  with_reducible refine wpAny_bind ?_
  show wpAny _ _ (updateBytearray B (·.setIfInBounds k x.toNat.toUInt8)) _ _ _
  refine ba_write ho (by rw [Array.size_setIfInBounds, sizeLine_eq]; omega) fun h' ho' hs' => ?_
  exact wpAny_pure ⟨.none, rfl, wpAny_pure (h h' ho' hs')⟩

theorem ba_cutB : ("bytearray.__buffer__".dropRight ("__buffer__".length + 1)) = "bytearray" := by decide +kernel
theorem ba_endsB : ("bytearray.__buffer__".endsWith ("." ++ "__buffer__")) = true := by decide +kernel
theorem ba_slotIsOwnB {a : Addr} {Q : Bool → Shared → Prop} (hT : s.TypeIs (.ref a) "bytearray") (h : Q true s) : wpAny (model PG w) A (Builtin.Bytes.slotIsOwn (.ref a) "__buffer__") Q E s := by
  unfold Builtin.Bytes.slotIsOwn
  refine wpAny_bind (wpAny_specialOf hT ba_slot_buffer.lookup ?_)
  show wpAny _ _ (if (!("bytearray.__buffer__".endsWith ("." ++ "__buffer__"))) = true then _ else _) _ _ _
  rw [ba_endsB]
  refine wpAny_ite_false rfl ?_
  show wpAny _ _ (isInstance (.ref a) (.type ("bytearray.__buffer__".dropRight ("__buffer__".length + 1)))) _ _ _
  rw [ba_cutB]
  exact wpAny_isInstance hT ba_sub h
theorem ba_bytes {B : Addr} {bs : Array UInt8} {Q : Value → Shared → Prop} (ho : s.heap.get? B = some (baObj bs)) (hz : bs.size ≤ 1000000)
    (h : ∀ t k, Q (.bytes bs t) { s with toks := k }) : wpAny (model PG w) A (call (.type "bytes") [.ref B]) Q E s := by
  have hT : s.TypeIs (.ref B) "bytearray" := ⟨_, ho, rfl⟩
  refine callType_codes (Q₁ := fun obj s₁ => s₁.TypeIs obj "bytes" ∧ Q obj s₁) F.bm_called (F.bm_typeCall _) F.entry_object_init ?_ fun obj s₁ h₁ =>
    ⟨h₁.1, F.args_object_init_2 obj _, object_init_meets F.bm_called.init.lookup F.bm_called.made (by decide) PG w A.in1 _ s₁ ⟨h₁.1, rfl, h₁.2⟩⟩
  refine codeAny_of_tree ?_
  show wpAny _ _ (do checkBuiltinCall "bytes.__new__" ⟨[.type "bytes", .ref B], []⟩; again (.builtin "bytes.__new__" ⟨[.type "bytes", .ref B], []⟩)) _ _ s
  refine wpAny_bind (wpAny_of_eq (F.bm_newCall _) (wpAny_pure ⟨plainId_quiet F.bm_plain _, codeAny_builtin F.bm_entry ?_⟩))
  rw [Around.under_plainId F.bm_plain _]
  unfold Builtin.«bytes.__new__»
  refine wpAny_bind (wpAny_of_eq (a := true) rfl ?_)
  refine bm_if_false rfl ?_
  refine wpAny_bind (wpAny_of_eq F.bm_sub ?_)
  refine bm_if_false rfl ?_
  refine wpAny_bind (wpAny_of_eq (F.bm_bind _) ?_)
  refine wpAny_bind (wpAny_of_eq (a := ()) rfl ?_)
  refine wpAny_bind (wpAny_of_eq (a := ()) rfl ?_)
  refine bm_if_false rfl ?_
  refine wpAny_bind (wpAny_specialOf hT ba_no_bytes ?_)
  refine wpAny_bind (wpAny_bind ?_)
  show wpAny _ _ (load B >>= _) _ _ _
  refine wpAny_bind (wpAny_load ho ?_)
  refine wpAny_pure (wpAny_pure ?_)
  refine bm_if_false rfl ?_
  refine wpAny_bind (wpAny_specialOf hT ba_no_index ?_)
  refine bm_if_true rfl ?_
  show wpAny _ _ (Builtin.Bytes.buffer? "bytes.__new__" (.ref B) true >>= _) _ _ s
  refine wpAny_bind ?_
  unfold Builtin.Bytes.buffer?
  refine wpAny_bind (wpAny_specialOf hT ba_slot_buffer.lookup ?_)
  dsimp only
  with_reducible refine wpAny_bind ?_
  refine ba_slotIsOwnB hT ?_
  refine bm_if_false rfl ?_
  refine wpAny_bind (wpAny_specialOf hT ba_slot_buffer.lookup ?_)
  show wpAny _ _ (Builtin.Bytes.ownRelease (.ref B) >>= _) _ _ _
  with_reducible refine wpAny_bind ?_
  unfold Builtin.Bytes.ownRelease
  refine wpAny_bind (ba_slotIsOwn hT (wpAny_pure ?_))
  refine bm_if_false rfl ?_
  with_reducible refine wpAny_bind ?_
  unfold Builtin.Bytes.payload Builtin.Bytes.payload?
  refine wpAny_bind (wpAny_bind (wpAny_load ho ?_))
  refine wpAny_pure (wpAny_pure (wpAny_pure ?_))
  refine wpAny_bind ?_
  with_reducible refine wpAny_rule ?_
  with_reducible refine wpAny_bind ?_
  refine wpAny_mkBytes ?_ (by rw [sizeLine_eq]; omega)
  show wpAny _ _ (if (Value.type "bytes" == Value.type "bytes") = true then _ else _) _ _ _
  refine bm_if_true (by decide) ?_
  first
    | exact wpAny_pure ⟨PySem.W.typeIs_bytes _ _ _, h _ _⟩
    | exact wpAny_bind (wpAny_pure (wpAny_pure ⟨PySem.W.typeIs_bytes _ _ _, h _ _⟩))
end
end Mine

end

section
open PySem PySem.W PySem.Calls PyProof.Rows
set_option Elab.async false
set_option maxRecDepth 100000
set_option maxHeartbeats 400000
namespace Mine
theorem fresh_C6 : True := by
  w_top off
  trivial
local macro_rules | `(tactic| walk_at "eval Name") => `(tactic| first
  | (with_unfolding_all refine nmL (by rfl) (by rfl) (by decide) (by first | with_reducible assumption | exact Fr.ns (by with_reducible assumption)) (by rfl) (by first | rfl | assumption) ?_)
  | (with_unfolding_all refine nmC (by rfl) (by rfl) (by decide) (by rfl) (by first | with_reducible assumption | assumption) ?_)
  | (with_unfolding_all refine nmG (by rfl) (by rfl) (by rfl) (by decide) (by rfl) (by first | with_reducible assumption | exact Wd.keeps (by with_reducible assumption) (Fr.keep (by with_reducible assumption))) ?_)
  | (with_unfolding_all refine nmB (by rfl) (by rfl) (by boot_by_name) (by rfl) (by rfl) (by decide) (by decide) (by rfl) (by first | with_reducible assumption | exact Wd.keeps (by with_reducible assumption) (Fr.keep (by with_reducible assumption))) ?_))
local macro_rules | `(tactic| walk_at "loadName") => `(tactic| (with_unfolding_all refine nmLd (by rfl) (by rfl) (by first | with_reducible assumption | exact Fr.ns (by with_reducible assumption)) (by rfl) (by first | rfl | assumption) ?_))
local macro_rules | `(tactic| walk_at "callWith ref") => `(tactic| (with_unfolding_all refine callF (by first | with_reducible assumption | exact Wd.keeps (by with_reducible assumption) (Fr.keep (by with_reducible assumption))) (by rfl) ?_ (by rfl) (by rfl)))
local macro_rules | `(tactic| walk_at "And") => `(tactic| ((with_reducible show Frag.In _ _ ∧ _); refine ⟨by first | exact (Wd.X (by with_reducible assumption)) | exact Wd.X (Wd.keeps (by with_reducible assumption) (Fr.keep (by with_reducible assumption))), ?_⟩; try dsimp only [List.nil_append, List.cons_append]))
local macro_rules | `(tactic| walk_at "mW") => `(tactic| repeat ((fail_if_success (with_reducible show wpAny _ _ (exec (Stmt.For _ _ _ _ _) _) _ _ _)); (fail_if_success (with_reducible show wpAny _ _ (execs (Stmt.Assign _ (Expr.List [] _) _ :: Stmt.For _ _ _ _ _ :: _) _) _ _ _)); (fail_if_success (with_reducible show wpAny _ _ (subscriptTail _ _ (Value.ref _) (Value.int _ _)) _ _ _)); (fail_if_success (with_reducible show wpAny _ _ (subscriptTail _ _ (Value.bytes _ _) (Value.int _ _)) _ _ _)); (fail_if_success (with_reducible show wpAny _ _ (setItem _ _ _) _ _ _)); (fail_if_success (with_reducible show wpAny _ _ (call (Value.type "bytes") _ _) _ _ _)); (fail_if_success (with_reducible show wpAny _ _ (call (Value.builtin "list.append") _ _) _ _ _)); (fail_if_success (with_reducible show Exists _)); (fail_if_success (with_reducible show wpAny _ _ (eval (Expr.ListComp _ _ _ _) _) _ _ _)); (fail_if_success (with_reducible show wpAny _ _ (eval (Expr.DictComp _ _ _ _ _) _) _ _ _)); (fail_if_success (with_reducible show wpAny _ _ (binaryOp _ (Value.ref _) (Value.ref _)) _ _ _)); walk1))
local macro_rules | `(tactic| walk_at "binaryOp Mult int int") => `(tactic| with_reducible refine mul_int ?_ (by with_reducible assumption))
local macro_rules | `(tactic| walk_at "binaryOp Pow int int") => `(tactic| with_reducible refine pow_int_small (by with_reducible assumption) (by with_reducible assumption) (by with_reducible assumption) ?_)

section
variable {w : World} {A : Around} {E : Value → Shared → Prop} {s : Shared}

theorem sw_range {bs : Array UInt8} {n : Nat} (hn : bs.size = 3 * n) (hz : n ≤ 20000) : Builtin.Range.small 0 (bs.size : Int) 3 = true ∧ Builtin.Range.rangeSize 0 (bs.size : Int) 3 = (n : Int) := by
  rw [hn]
  have hs : Builtin.Range.rangeSize 0 ((3 * n : Nat) : Int) 3 = (n : Int) := by
    unfold Builtin.Range.rangeSize
    rw [if_pos (by decide)]
    by_cases h0 : n = 0
    · subst h0; rfl
    · rw [if_pos (by omega)]; omega
  refine ⟨?_, hs⟩
  have hf : ∀ i : Int, 0 ≤ i → i ≤ 1000000 → Builtin.Range.rangeFitsLong i = true := fun i h0 h1 => by
    unfold Builtin.Range.rangeFitsLong
    simp only [Bool.and_eq_true, decide_eq_true_eq]
    constructor <;> omega
  unfold Builtin.Range.small
  rw [hs, hf 0 (by omega) (by omega), hf _ (show 0 ≤ ((3 * n : Nat) : Int) by omega) (by omega), hf 3 (by omega) (by omega), hf n (by omega) (by omega), if_pos (by decide), hf _ (show 0 ≤ ((3 * n : Nat) : Int) + (3 - 1) by omega) (by omega)]
  simp
/-- what stands in the bytes when i threes and j more octets have been turned -/
structure SwP (bs : Array UInt8) (n i j : Nat) (bb : Array UInt8) : Prop where
  size : bb.size = 3 * n
  done : ∀ p, p < 3 * i → bb[p]? = bs[3 * (p / 3) + 2 - p % 3]?
  part : ∀ j', j' < j → bb[3 * i + 2 - j']? = bs[3 * i + j']?
theorem SwP.next {bs bb : Array UInt8} {n i j : Nat} (h : SwP bs n i j bb) (hn : bs.size = 3 * n) (hi : i < n) (hj : j < 3) : SwP bs n i (j + 1) (bb.setIfInBounds (3 * i + 2 - j) ((bs.toList.getD (3 * i + j) 0).toNat : Int).toNat.toUInt8) := by
  have hs := h.size
  have hv : ((bs.toList.getD (3 * i + j) 0).toNat : Int).toNat.toUInt8 = bs[3 * i + j]'(by omega) := by
    rw [Int.toNat_natCast, List.getD_eq_getElem?_getD, Array.getElem?_toList, Array.getElem?_eq_getElem (by omega)]
    simp
  rw [hv]
  refine ⟨by simpa using hs, fun p hp => ?_, fun j' hj' => ?_⟩
  · rw [Array.getElem?_setIfInBounds_ne (by omega)]; exact h.done p hp
  · by_cases e : j' = j
    · subst e
      rw [Array.getElem?_setIfInBounds_self]
      rw [if_pos (by omega), Array.getElem?_eq_getElem (by omega)]
    · rw [Array.getElem?_setIfInBounds_ne (by omega)]; exact h.part j' (by omega)
theorem SwP.up {bs bb : Array UInt8} {n i : Nat} (h : SwP bs n i 3 bb) : SwP bs n (i + 1) 0 bb := by
  refine ⟨h.size, fun p hp => ?_, fun j hj => absurd hj (Nat.not_lt_zero _)⟩
  by_cases e : p < 3 * i
  · exact h.done p e
  · have h1 := h.part (3 * i + 2 - p) (by omega)
    rw [show 3 * i + 2 - (3 * i + 2 - p) = p by omega] at h1
    rw [h1, show 3 * i + (3 * i + 2 - p) = 3 * (p / 3) + 2 - p % 3 by omega]
theorem SwP.all {bs bb : Array UInt8} {n : Nat} (h : SwP bs n n 0 bb) : ∀ m k, m < n → k < 3 → bb[3 * m + k]? = bs[3 * m + 2 - k]? := fun m k hm hk => by
  rw [h.done (3 * m + k) (by omega), show 3 * ((3 * m + k) / 3) + 2 - (3 * m + k) % 3 = 3 * m + 2 - k by omega]
theorem set_ba {h₀ : Heap} {L B : Addr} {m : Str → Option Value} {own post : List (Addr × Obj)} {bb : Array UInt8} {k : Nat} {x : Int} {t u : Tok} {Q : Unit → Shared → Prop} (F : Fr h₀ L s.heap m) (N : News h₀ L s.heap (own ++ (B, baObj bb) :: post)) (h1 : ∀ p ∈ own, p.1 ≠ B) (h2 : ∀ p ∈ post, p.1 ≠ B)
    (hk : k < bb.size) (hz : bb.size ≤ 1000000) (hx : 0 ≤ x ∧ x < 256)
    (h : ∀ h', Fr h₀ L h' m → News h₀ L h' (own ++ (B, baObj (bb.setIfInBounds k x.toNat.toUInt8)) :: post) → Q () { s with heap := h' }) : wpAny (model PG w) A (setItem (.ref B) (.int k t) (.int x u)) Q E s := by
  have z := N (B, baObj bb) (List.mem_append_right _ (.head _))
  exact ba_setItem z.1 hk hz hx fun h' ho' hs => h h' (F.change hs z.2.1 z.2.2) (news_set N h1 h2 hs ho')
theorem callWithK_type1 {M : Model} {env : Env} {pos : Pos} {T : String} {e : Expr} {Q : Value → Shared → Prop} (hse : backTo pos (starEach [e] env) = [(false, eval e env)])
    (h : wpAny M A (eval e env) (fun v s₁ => wpK M A (call (.type T) [v] []) Q E s₁) E s) : wpK M A (callWith pos (.type T) [] (backTo pos (starEach [e] env)) []) Q E s := by
  rw [hse]
  exact callWithK_type rfl (evalArgs_plain (spliced_cons (wpAny_mono h (fun v s₁ h₁ => spliced_nil h₁) fun _ _ e => e)))
theorem c_swap {bs : Array UInt8} {n : Nat} {t t3 : Tok} {Q : Value → Shared → Prop} (R : Rm 2 A) (hgd : A.guards = some []) (W : Wd w s.heap) (hn : bs.size = 3 * n) (hz : n ≤ 20000)
    (hQ : ∀ (rs : Array UInt8) u s', Keeps s s' → rs.size = 3 * n → (∀ m k, m < n → k < 3 → rs[3 * m + k]? = bs[3 * m + 2 - k]?) → Q (.bytes rs u) s') :
    wpK (model PG w) A (call (.ref 85) [.bytes bs t, .int 3 t3] []) Q E s := by
  refine callK_def [(Str.ofString "data", .bytes bs t), (Str.ofString "width", .int 3 t3)] W rfl (by rfl) R.room (by rfl) (locs rfl) (by decide) (fun h₁ tk F W => ?_) rfl rfl rfl
  have N : News s.heap s.heap.objs.size h₁ [] := News.nil
  have hB : bs.size ≤ 1000000 := by omega
  refine wpK_execs_cons ?_
  refine wpK_Assign_Name ?_ rfl
  refine wpK_Call_Name ?_
  refine nmB (by rfl) (by rfl) (by boot_by_name) (by rfl) (by rfl) (by decide) (by decide) (by rfl) (W.keeps F.keep) ?_
  refine callWithK_type1 rfl ?_
  walk_at "mW"
  refine ba_call (n := bs.size) hgd (by rw [sizeLine_eq]; omega) fun h₂ hB2 hk2 tk₂ => ?_
  dsimp only at hB2 hk2 ⊢
  have F₂ := F.keeps hk2
  have hLs : s.heap.objs.size < h₁.objs.size := F.ns.lt
  have hBn := next_none F
  have hBL : h₁.objs.size ≠ s.heap.objs.size := Nat.ne_of_gt hLs
  generalize h₁.objs.size = B at hB2 hBn hBL ⊢
  refine wpAny_storeName_local rfl F₂.ns (fun h₃ hn₃ hs₃ => ?_)
  have F₃ := F₂.set hn₃ hs₃
  have N₃ : News s.heap s.heap.objs.size h₃ [(B, baObj (Array.replicate bs.size 0))] := fun p hp => by
    rw [List.mem_singleton.mp hp]
    exact ⟨(hs₃.2 B hBL).trans hB2, hBL, hBn⟩
  clear hn₃ hs₃ F₂ hB2 hk2 hLs hBn N F
  refine wpK_of ?_
  show wpAny _ _ _ _ _ _
  k_fold
  walk_at "mW"
  refine For_turns F₃ ?_ (by intro _; rfl)
  walk_at "mW"
  rename_i _ _ h₄ _ _ _ _ hr F₄ N₄ _
  dsimp only at hr F₄ N₄ ⊢
  refine range_turns (n := n) R.hh hr (sw_range hn hz).1 (sw_range hn hz).2 F₄ N₄ rfl rfl
    (fun i m news => ∃ bb, news = [(B, baObj bb)] ∧ SwP bs n i 0 bb ∧ m (Str.ofString "swapped_data") = some (.ref B) ∧ m (Str.ofString "data") = some (.bytes bs t) ∧ m (Str.ofString "width") = some (.int 3 t3)) ?_ ?_ ?_
  · exact ⟨_, rfl, ⟨by simp [hn], fun p hp => absurd hp (Nat.not_lt_zero _), fun j hj => absurd hj (Nat.not_lt_zero _)⟩, rfl, rfl, rfl⟩
  · rintro i tkv m₁ news₁ h₅ tk₅ own hi ⟨bb, rfl, hP, m1, m2, m3⟩ hap F' N'
    clear hr F₄ N₄
    walk_at "mW"
    refine For_turns F' ?_ (by intro _; rfl)
    walk_at "mW"
    rename_i h₆ _ _ _ _ hr6 F₆ N₆ _
    dsimp only at hr6 F₆ N₆ ⊢
    refine range_turns (n := 3) R.hh hr6 (by decide) (by decide) F₆ N₆ rfl rfl
      (fun j m news => ∃ bb, news = own ++ [(B, baObj bb)] ∧ SwP bs n i j bb ∧ m (Str.ofString "swapped_data") = some (.ref B) ∧ m (Str.ofString "data") = some (.bytes bs t) ∧ m (Str.ofString "width") = some (.int 3 t3) ∧ m (Str.ofString "i") = some (.int (0 + (i : Int) * 3) tkv)) ?_ ?_ ?_
    · exact ⟨bb, rfl, hP, by with_unfolding_all exact m1, by with_unfolding_all exact m2, by with_unfolding_all exact m3, by rfl⟩
    · rintro j tkj m₂ news₂ h₇ tk₇ own₂ hj ⟨b2, rfl, hP2, m1, m2, m3, m4⟩ hap2 F₇ N₇
      clear hr6 F₆ N₆
      have hx1 : 0 ≤ (0 + (i : Int) * 3) + (0 + (j : Int) * 1) := by omega
      have hx2 : (0 + (i : Int) * 3) + (0 + (j : Int) * 1) < (bs.toList.length : Int) := by rw [Array.length_toList, hn]; omega
      have hfit : bs.toList.length ≤ 1099511627776 := by rw [Array.length_toList]; omega
      have hke : (0 + (i : Int) * 3) + 3 - 1 - (0 + (j : Int) * 1) = ((3 * i + 2 - j : Nat) : Int) := by omega
      have hkb : 3 * i + 2 - j < b2.size := by rw [hP2.size]; omega
      have hzb : b2.size ≤ 1000000 := by rw [hP2.size]; omega
      have hoB : ∀ p ∈ own₂ ++ own, p.1 ≠ B := fun p hp => by
        rcases List.mem_append.mp hp with hp | hp
        · exact hap2 p hp _ (List.mem_append_right _ (.head _))
        · exact hap p hp _ (.head _)
      have N₈ : News s.heap s.heap.objs.size h₇ ((own₂ ++ own) ++ (B, baObj b2) :: []) := by rw [List.append_assoc]; exact N₇
      have hby : ∀ x : UInt8, 0 ≤ (x.toNat : Int) ∧ (x.toNat : Int) < 256 := fun x => ⟨Int.natCast_nonneg _, by have := x.toNat_lt; omega⟩
      have hidx : ((0 + (i : Int) * 3) + (0 + (j : Int) * 1)).toNat = 3 * i + j := by omega
      have hnext := hP2.next hn hi hj
      walk_at "mW"
      refine subscriptTail_builtin (typeIs_bytes _ _ _) FB.slot_bytes_getitem.lookup (getItem_bytes (l := bs.toList) hfit hx1 hx2 ?_)
      rw [hidx]
      walk_at "mW"
      rw [hke]
      refine set_ba F₇ N₈ hoB (fun p hp => nomatch hp) hkb hzb (hby _) (fun h₈ F₈ N₉ => ?_)
      walk_at "mW"
      refine ⟨_, _, _, own ++ [(B, baObj _)], rfl, F₈, by rw [List.append_assoc] at N₉; exact N₉, ?_, _, rfl, hnext, by with_unfolding_all exact m1, by with_unfolding_all exact m2, by with_unfolding_all exact m3, by with_unfolding_all exact m4⟩
      intro p hp
      exact .inl (by
        rcases List.mem_append.mp hp with hp | hp
        · exact List.mem_map.mpr ⟨p, List.mem_append_left _ hp, rfl⟩
        · rw [List.mem_singleton.mp hp]; exact List.mem_map.mpr ⟨(B, baObj b2), List.mem_append_right _ (.head _), rfl⟩)
    · rintro h₇ tk₇ m₂ news₂ F₇ N₇ ⟨b2, rfl, hP2, m1, m2, m3, m4⟩
      have hup := hP2.up
      walk_at "mW"
      exact ⟨_, _, _, [(B, baObj b2)], rfl, F₇, N₇, fun p hp => .inl (by rw [List.mem_singleton.mp hp]; exact List.mem_singleton.mpr rfl), b2, rfl, hup, m1, m2, m3⟩
  · rintro h₅ tk₅ m₅ news₅ F₅ N₅ ⟨bb, rfl, hP, m1, m2, m3⟩
    have hb := N₅ (B, _) (.head _)
    have hzb : bb.size ≤ 1000000 := by rw [hP.size]; omega
    have hend := hP.all
    walk_at "mW"
    exact ba_bytes hb.1 hzb fun t' k => hQ bb t' _ ⟨_, _, rfl, fun b o e => F₅.keep b o e⟩ hP.size hend

end
end Mine

end

section
open PySem PySem.W PySem.Calls PyProof.Rows
set_option Elab.async false
set_option maxRecDepth 100000
set_option maxHeartbeats 400000
namespace Mine
theorem fresh_P0 : True := by
  w_top off
  trivial
/-! the law in plain numbers -/
def home : Int := 526344
def tPow (q : Int) (way : Int) (t : List (Int × Int)) (rs : List Nat) : List (Int × Int) := rs.foldl (fun t r => timesC t way (-(q ^ r))) t
def tPair (q : Int) (way : Int) (ci cj : Nat) (t : List (Int × Int)) : List (Int × Int) := tPow q (-way) (tPow q way t (List.range ci)) ((List.range cj).map (· + 1))
def tabOf (a b c : Nat) (q : Int) : List (Int × Int) := tPair q 255 b c (tPair q 65535 a c (tPair q 65280 a b [(home, 1)]))
def revKey (k : Int) : Int := (k % 256) * 65536 + (k / 256 % 256) * 256 + k / 65536
def toldOf (t : List (Int × Int)) : List (Int × Int) := t.foldl (fun acc p => if p.2 ≠ 0 then put acc (revKey p.1) p.2 else acc) []
def due1 (acc : List (Int × Int)) (spot x : Int) : List (Int × Int) := put acc spot ((lk acc spot).getD 0 + x)
def dueOf (a b c : Nat) (q : Int) (rows : List (List Int)) : List (Int × Int) :=
  (pairL q a b rows).foldl (fun acc p => (pairL q a c rows).foldl (fun acc p2 => (pairL q b c rows).foldl (fun acc p3 => due1 acc (home - (p2.1 + p3.1) * 65536 + (p3.1 - p.1) * 256 + p.1 + p2.1) (p.2 * p2.2 * p3.2)) acc) acc) []
def wholeOf (a b c : Nat) (q : Int) : Int := (List.range c).foldl (fun x r => x * (1 - q ^ (r + 1)) ^ 2) (if a + b = 0 then 1 else 0)
end Mine

end

section
open PySem PySem.W PySem.Calls PyProof.Rows
set_option Elab.async false
set_option maxRecDepth 100000
set_option maxHeartbeats 400000
namespace Mine
theorem fresh_P1 : True := by
  w_top off
  trivial
/-! tables with polynomials of q -/
abbrev Py := List Int
def padd : Py → Py → Py
  | [], q => q
  | p, [] => p
  | a :: p, b :: q => (a + b) :: padd p q
def pneg (p : Py) : Py := p.map (fun x => -x)
def psh (r : Nat) (p : Py) : Py := List.replicate r 0 ++ p
def pmul : Py → Py → Py
  | [], _ => []
  | a :: p, q => padd (q.map (fun x => a * x)) (0 :: pmul p q)
def pz (p : Py) : Bool := p.all (fun x => x == 0)
def ev (q : Int) : Py → Int
  | [] => 0
  | a :: p => a + q * ev q p
section
variable {V : Type}
def lkG (t : List (Int × V)) (k : Int) : Option V := match t with
  | [] => none
  | p :: t => if p.1 == k then some p.2 else lkG t k
/-- add at a key, else behind all -/
def addAt (add : V → V → V) (k : Int) (x : V) : List (Int × V) → List (Int × V)
  | [] => [(k, x)]
  | p :: t => if p.1 == k then (p.1, add p.2 x) :: t else p :: addAt add k x t
def mergeG (add : V → V → V) (t t2 : List (Int × V)) : List (Int × V) := t2.foldl (fun acc p => addAt add p.1 p.2 acc) t
def timesG (add : V → V → V) (f : V → V) (way : Int) (t : List (Int × V)) : List (Int × V) := mergeG add t (t.map fun p => (p.1 + way, f p.2))
def powG (add : V → V → V) (f : Nat → V → V) (way : Int) (t : List (Int × V)) (rs : List Nat) : List (Int × V) := rs.foldl (fun t r => timesG add (f r) way t) t
def pairG (add : V → V → V) (f : Nat → V → V) (way : Int) (ci cj : Nat) (t : List (Int × V)) : List (Int × V) := powG add f (-way) (powG add f way t (List.range ci)) ((List.range cj).map (· + 1))
def tabG (one : V) (add : V → V → V) (f : Nat → V → V) (a b c : Nat) : List (Int × V) := pairG add f 255 b c (pairG add f 65535 a c (pairG add f 65280 a b [(home, one)]))
end
def tabP (a b c : Nat) : List (Int × Py) := tabG [1] padd (fun r v => pneg (psh r v)) a b c
def gNextP (above : List Py) (n : Nat) : List Py := [[1]] ++ ((rangeInts 1 1 (n - 1)).map fun k => padd (above.getD (k - 1).toNat []) (psh k.toNat (above.getD k.toNat []))) ++ [[1]]
def gRowsP : Nat → List (List Py)
  | 0 => [[[1]]]
  | n + 1 => gRowsP n ++ [gNextP ((gRowsP n).getD n []) (n + 1)]
def pvP (one other : Nat) (rows : List (List Py)) (k : Int) : Py := (if k.fmod 2 = 0 then id else pneg) (psh ((k * (k - 1)).fdiv 2).toNat ((rows.getD (one + other) []).getD ((other : Int) + k).toNat []))
def pairP (one other : Nat) (rows : List (List Py)) : List (Int × Py) := (List.range (one + other + 1)).map fun (i : Nat) => (-(other : Int) + (i : Int) * 1, pvP one other rows (-(other : Int) + (i : Int) * 1))
def dueP (a b c : Nat) (rows : List (List Py)) : List (Int × Py) :=
  (pairP a b rows).foldl (fun acc p => (pairP a c rows).foldl (fun acc p2 => (pairP b c rows).foldl (fun acc p3 => addAt padd (home - (p2.1 + p3.1) * 65536 + (p3.1 - p.1) * 256 + p.1 + p2.1) (pmul (pmul p.2 p2.2) p3.2) acc) acc) acc) []
def wholeP (a b c : Nat) : Py := (List.range c).foldl (fun x r => pmul (pmul x (padd [1] (pneg (psh (r + 1) [1])))) (padd [1] (pneg (psh (r + 1) [1])))) (if a + b = 0 then [1] else [])
def psub (p q : Py) : Py := padd p (pneg q)
def nodupK : List Int → Bool
  | [] => true
  | k :: l => l.all (fun x => x != k) && nodupK l
def okP (a b c : Nat) : Bool :=
  let t := tabP a b c
  let rows := gRowsP (a + b + c)
  let due := dueP a b c rows
  let told := t.map fun p => (revKey p.1, p.2)
  nodupK (t.map (·.1)) && t.all (fun p => decide (0 ≤ p.1) && decide (p.1 < 16777216)) && nodupK (told.map (·.1)) && nodupK (due.map (·.1)) &&
  pz (psub ((lkG t home).getD []) (pmul ((rows.getD (a + b + c) []).getD a []) ((rows.getD (b + c) []).getD b []))) &&
  told.all (fun p => pz (psub p.2 ((lkG due p.1).getD []))) && due.all (fun p => pz (psub p.2 ((lkG told p.1).getD []))) &&
  pz (psub (t.foldl (fun x p => padd x p.2) []) (wholeP a b c)) && decide (t.length ≤ 100)
end Mine

end

section
open PySem PySem.W PySem.Calls PyProof.Rows
set_option Elab.async false
set_option maxRecDepth 100000
set_option maxHeartbeats 400000
namespace Mine
theorem fresh_P2 : True := by
  w_top off
  trivial
/-! the tables of the program are the plain ones -/
def Nd {V : Type} (t : List (Int × V)) : Prop := (t.map (·.1)).Nodup
theorem lk_cons (p : Int × Int) (t : List (Int × Int)) (k : Int) : lk (p :: t) k = if p.1 = k then some p.2 else lk t k := by
  unfold lk
  rw [List.find?_cons]
  by_cases h : p.1 = k <;> simp [h]
theorem lk_lkG (t : List (Int × Int)) (k : Int) : lk t k = lkG t k := by
  induction t with
  | nil => rfl
  | cons p t ih => rw [lk_cons, lkG, ih]; simp only [beq_iff_eq]
theorem put_cons (p : Int × Int) (t : List (Int × Int)) (k x : Int) : put (p :: t) k x = if p.1 = k then (k, x) :: t.map (fun q => if q.1 = k then (q.1, x) else q) else p :: put t k x := by
  unfold put
  by_cases h : p.1 = k
  · simp [h]
  · simp only [List.any_cons, h, decide_false, Bool.false_or, if_false]
    split <;> simp [h]
theorem map_absent {t : List (Int × Int)} {k x : Int} (h : k ∉ t.map (·.1)) : t.map (fun q => if q.1 = k then (q.1, x) else q) = t := by
  induction t with
  | nil => rfl
  | cons p t ih =>
    simp only [List.map_cons, List.mem_cons, not_or] at h
    rw [List.map_cons, ih h.2, if_neg (fun e => h.1 e.symm)]
theorem addAt_keys {V : Type} (add : V → V → V) (k : Int) (x : V) (t : List (Int × V)) : (addAt add k x t).map (·.1) = if k ∈ t.map (·.1) then t.map (·.1) else t.map (·.1) ++ [k] := by
  induction t with
  | nil => simp [addAt]
  | cons p t ih =>
    rw [addAt]
    by_cases h : p.1 = k
    · simp [h]
    · have h' : (p.1 == k) = false := by simpa using h
      rw [h']
      simp only [Bool.false_eq_true, if_false, List.map_cons, ih, List.mem_cons]
      by_cases hm : k ∈ t.map (·.1)
      · simp [hm]
      · have : ¬ (k = p.1 ∨ k ∈ t.map (·.1)) := by rintro (e | e); exact h e.symm; exact hm e
        rw [if_neg hm, if_neg this]; rfl
theorem addAt_nd {V : Type} {add : V → V → V} {k : Int} {x : V} {t : List (Int × V)} (h : Nd t) : Nd (addAt add k x t) := by
  unfold Nd at h ⊢
  rw [addAt_keys]
  split
  · exact h
  · rename_i hm
    rw [List.nodup_append]
    refine ⟨h, by simp, fun a ha b hb e => ?_⟩
    rw [List.mem_singleton.mp hb] at e
    exact hm (e ▸ ha)
theorem mergeG_nd {V : Type} {add : V → V → V} {t2 : List (Int × V)} : ∀ {t : List (Int × V)}, Nd t → Nd (mergeG add t t2) := by
  induction t2 with
  | nil => intro t h; exact h
  | cons p t2 ih => intro t h; exact ih (addAt_nd h)
/-- laid at a key that is new, or over what stands there -/
theorem put_addAt {t : List (Int × Int)} (h : Nd t) (k x : Int) : put t k ((lk t k).getD 0 + x) = addAt (· + ·) k x t ∨ (lk t k = none ∧ put t k x = addAt (· + ·) k x t) := by
  induction t with
  | nil => exact .inr ⟨rfl, rfl⟩
  | cons p t ih =>
    have hn : p.1 ∉ t.map (·.1) ∧ Nd t := List.nodup_cons.mp h
    by_cases hk : p.1 = k
    · left
      rw [lk_cons, if_pos hk, put_cons, if_pos hk, addAt, map_absent (hk ▸ hn.1)]
      have : (p.1 == k) = true := by simpa using hk
      rw [this]; simp [hk]
    · have h' : (p.1 == k) = false := by simpa using hk
      rw [lk_cons, if_neg hk, put_cons, if_neg hk, put_cons, if_neg hk, addAt, h']
      simp only [Bool.false_eq_true, if_false]
      rcases ih hn.2 with e | ⟨e1, e2⟩
      · left; rw [e]
      · right; exact ⟨e1, by rw [e2]⟩
theorem put_new {t : List (Int × Int)} {k x : Int} (h : lk t k = none) (ht : Nd t) : put t k x = addAt (· + ·) k x t := by
  rcases put_addAt ht k x with e | ⟨_, e⟩
  · rw [h] at e; simpa using e
  · exact e
theorem mg1_addAt {t : List (Int × Int)} (h : Nd t) (p : Int × Int) : mg1 t p = addAt (· + ·) p.1 p.2 t := by
  unfold mg1
  cases hl : lk t p.1 with
  | none => exact put_new hl h
  | some y =>
    rcases put_addAt h p.1 p.2 with e | ⟨e, _⟩
    · rw [hl] at e; exact e
    · rw [hl] at e; cases e
theorem due1_addAt {t : List (Int × Int)} (h : Nd t) (k x : Int) : due1 t k x = addAt (· + ·) k x t := by
  unfold due1
  rcases put_addAt h k x with e | ⟨e1, e2⟩
  · exact e
  · rw [e1]; simpa using e2
theorem lk_none {t : List (Int × Int)} {k : Int} (h : k ∉ t.map (·.1)) : lk t k = none := by
  induction t with
  | nil => rfl
  | cons p t ih =>
    simp only [List.map_cons, List.mem_cons, not_or] at h
    rw [lk_cons, if_neg (fun e => h.1 e.symm), ih h.2]
theorem put_absent {t : List (Int × Int)} {k x : Int} (h : k ∉ t.map (·.1)) : put t k x = t ++ [(k, x)] := by
  induction t with
  | nil => rfl
  | cons p t ih =>
    simp only [List.map_cons, List.mem_cons, not_or] at h
    rw [put_cons, if_neg (fun e => h.1 e.symm), ih h.2]; rfl
theorem put_all (t : List (Int × Int)) : ∀ acc : List (Int × Int), Nd (acc ++ t) → t.foldl (fun acc p => put acc p.1 p.2) acc = acc ++ t := by
  induction t with
  | nil => intro acc _; simp
  | cons p t ih =>
    intro acc h
    have hp : p.1 ∉ acc.map (·.1) := by
      unfold Nd at h
      rw [List.map_append, List.nodup_append] at h
      exact fun hm => h.2.2 p.1 hm p.1 (by simp) rfl
    rw [List.foldl_cons, put_absent hp, ih (acc ++ [(p.1, p.2)]) (by simpa [Nd] using h)]
    simp
theorem cp_eq {t : List (Int × Int)} (h : Nd t) : cp t = t := by simpa [cp] using put_all t [] (by simpa using h)
theorem merge_eq (t2 : List (Int × Int)) : ∀ t : List (Int × Int), Nd t → t2.foldl mg1 t = mergeG (· + ·) t t2 := by
  induction t2 with
  | nil => intro t _; rfl
  | cons p t2 ih => intro t h; rw [List.foldl_cons, mg1_addAt h, ih _ (addAt_nd h)]; rfl
theorem dcomp_eq {kf vf : Int → Int → Int} {t : List (Int × Int)} (h : Nd (t.map fun p => (kf p.1 p.2, vf p.1 p.2))) : dcomp (fun _ _ => true) kf vf t = t.map fun p => (kf p.1 p.2, vf p.1 p.2) := by
  have := put_all (t.map fun p => (kf p.1 p.2, vf p.1 p.2)) [] (by simpa using h)
  rw [List.nil_append, List.foldl_map] at this
  rw [← this]
  rfl
theorem shift_nd {V W : Type} {t : List (Int × V)} (h : Nd t) (way : Int) (f : V → W) : Nd (t.map fun p => (p.1 + way, f p.2)) := by
  unfold Nd at h ⊢
  rw [List.map_map]
  have : ((fun p : Int × W => p.1) ∘ fun p : Int × V => (p.1 + way, f p.2)) = (fun x : Int => x + way) ∘ fun p : Int × V => p.1 := rfl
  rw [this, ← List.map_map]
  exact List.Pairwise.map _ (fun a b hab e => hab (by simpa using e)) h
theorem times_eq {t : List (Int × Int)} (h : Nd t) (way share : Int) : timesC t way share = timesG (· + ·) (fun v => v * share) way t := by
  unfold timesC timesG mergeC
  rw [cp_eq h, dcomp_eq (shift_nd h way fun v => v * share), merge_eq _ _ h]
theorem timesG_nd {V : Type} {add : V → V → V} {f : V → V} {way : Int} {t : List (Int × V)} (h : Nd t) : Nd (timesG add f way t) := mergeG_nd h
theorem pow_eq {q : Int} {way : Int} (rs : List Nat) : ∀ {t : List (Int × Int)}, Nd t → tPow q way t rs = powG (· + ·) (fun r v => v * -(q ^ r)) way t rs ∧ Nd (tPow q way t rs) := by
  induction rs with
  | nil => intro t h; exact ⟨rfl, h⟩
  | cons r rs ih =>
    intro t h
    unfold tPow powG
    rw [List.foldl_cons, List.foldl_cons, times_eq h]
    exact ih (timesG_nd h)
theorem pair_eq {q : Int} {way : Int} {ci cj : Nat} {t : List (Int × Int)} (h : Nd t) : tPair q way ci cj t = pairG (· + ·) (fun r v => v * -(q ^ r)) way ci cj t ∧ Nd (tPair q way ci cj t) := by
  unfold tPair pairG
  have h1 := pow_eq (q := q) (way := way) (List.range ci) h
  have h2 := pow_eq (q := q) (way := -way) ((List.range cj).map (· + 1)) h1.2
  rw [h1.1] at h2
  rw [h1.1]
  exact h2
theorem tab_eq (a b c : Nat) (q : Int) : tabOf a b c q = tabG 1 (· + ·) (fun r v => v * -(q ^ r)) a b c ∧ Nd (tabOf a b c q) := by
  unfold tabOf tabG
  have h0 : Nd [(home, (1 : Int))] := by simp [Nd]
  have h1 := pair_eq (q := q) (way := 65280) (ci := a) (cj := b) h0
  have h2 := pair_eq (q := q) (way := 65535) (ci := a) (cj := c) h1.2
  have h3 := pair_eq (q := q) (way := 255) (ci := b) (cj := c) h2.2
  rw [h1.1] at h2
  rw [h1.1, h2.1] at h3
  rw [h1.1, h2.1]
  exact h3
end Mine

end

section
open PySem PySem.W PySem.Calls PyProof.Rows
set_option Elab.async false
set_option maxRecDepth 100000
set_option maxHeartbeats 400000
namespace Mine
theorem fresh_P3 : True := by
  w_top off
  trivial
/-! polynomials at a number -/
theorem ev_padd (q : Int) : ∀ a b : Py, ev q (padd a b) = ev q a + ev q b
  | [], b => by simp [padd, ev]
  | a :: p, [] => by simp [padd, ev]
  | a :: p, b :: r => by simp only [padd, ev, ev_padd q p r, Int.mul_add]; omega
theorem ev_pneg (q : Int) : ∀ a : Py, ev q (pneg a) = -ev q a
  | [] => rfl
  | a :: p => by
    have := ev_pneg q p
    simp only [pneg, List.map_cons, ev] at this ⊢
    rw [this, Int.mul_neg]; omega
theorem ev_psh (q : Int) (r : Nat) (p : Py) : ev q (psh r p) = q ^ r * ev q p := by
  induction r with
  | zero => simp [psh]
  | succ r ih =>
    simp only [psh, List.replicate_succ, List.cons_append, ev] at ih ⊢
    rw [ih, Int.pow_succ, Int.zero_add, ← Int.mul_assoc, Int.mul_comm q (q ^ r)]
theorem ev_scale (q c : Int) : ∀ p : Py, ev q (p.map fun x => c * x) = c * ev q p
  | [] => by simp [ev]
  | a :: p => by
    simp only [List.map_cons, ev, ev_scale q c p, Int.mul_add]
    rw [← Int.mul_assoc, Int.mul_comm q c, Int.mul_assoc]
theorem ev_pmul (q : Int) : ∀ a b : Py, ev q (pmul a b) = ev q a * ev q b
  | [], b => by simp [pmul, ev]
  | a :: p, b => by
    simp only [pmul, ev_padd, ev_scale, ev, ev_pmul q p b, Int.zero_add, Int.add_mul, Int.mul_assoc]
theorem ev_pz (q : Int) {p : Py} (h : pz p = true) : ev q p = 0 := by
  induction p with
  | nil => rfl
  | cons a p ih =>
    simp only [pz, List.all_cons, Bool.and_eq_true, beq_iff_eq] at h
    simp only [ev, h.1, ih h.2]; simp
theorem ev_psub (q : Int) {a b : Py} (h : pz (psub a b) = true) : ev q a = ev q b := by
  have := ev_pz q h
  rw [psub, ev_padd, ev_pneg] at this
  omega
section
variable {V W : Type} {add : V → V → V} {add' : W → W → W} {f : V → W}
def mapV (f : V → W) (t : List (Int × V)) : List (Int × W) := t.map fun p => (p.1, f p.2)
theorem mapV_keys (t : List (Int × V)) : (mapV f t).map (·.1) = t.map (·.1) := by simp [mapV]
theorem lkG_mapV (t : List (Int × V)) (k : Int) : lkG (mapV f t) k = (lkG t k).map f := by
  induction t with
  | nil => rfl
  | cons p t ih =>
    simp only [mapV, List.map_cons, lkG] at ih ⊢
    rw [ih]; split <;> rfl
theorem addAt_mapV (ha : ∀ a b, f (add a b) = add' (f a) (f b)) (k : Int) (x : V) (t : List (Int × V)) : mapV f (addAt add k x t) = addAt add' k (f x) (mapV f t) := by
  induction t with
  | nil => rfl
  | cons p t ih =>
    simp only [mapV, addAt, List.map_cons] at ih ⊢
    cases (p.1 == k) with
    | true => simp [ha]
    | false => simp only [Bool.false_eq_true, if_false, List.map_cons, ih]
theorem mergeG_mapV (ha : ∀ a b, f (add a b) = add' (f a) (f b)) (t2 : List (Int × V)) : ∀ t, mapV f (mergeG add t t2) = mergeG add' (mapV f t) (mapV f t2) := by
  induction t2 with
  | nil => intro t; rfl
  | cons p t2 ih =>
    intro t
    have h := ih (addAt add p.1 p.2 t)
    rw [addAt_mapV ha] at h
    exact h
theorem timesG_mapV {g : V → V} {g' : W → W} (ha : ∀ a b, f (add a b) = add' (f a) (f b)) (hg : ∀ a, f (g a) = g' (f a)) (way : Int) (t : List (Int × V)) : mapV f (timesG add g way t) = timesG add' g' way (mapV f t) := by
  unfold timesG
  rw [mergeG_mapV ha]
  congr 1
  simp only [mapV, List.map_map]
  exact List.map_congr_left fun p _ => by simp [hg]
theorem powG_mapV {g : Nat → V → V} {g' : Nat → W → W} (ha : ∀ a b, f (add a b) = add' (f a) (f b)) (hg : ∀ r a, f (g r a) = g' r (f a)) (way : Int) (rs : List Nat) : ∀ t, mapV f (powG add g way t rs) = powG add' g' way (mapV f t) rs := by
  induction rs with
  | nil => intro t; rfl
  | cons r rs ih =>
    intro t
    have h := ih (timesG add (g r) way t)
    rw [timesG_mapV ha (hg r)] at h
    exact h
theorem pairG_mapV {g : Nat → V → V} {g' : Nat → W → W} (ha : ∀ a b, f (add a b) = add' (f a) (f b)) (hg : ∀ r a, f (g r a) = g' r (f a)) (way : Int) (ci cj : Nat) (t : List (Int × V)) : mapV f (pairG add g way ci cj t) = pairG add' g' way ci cj (mapV f t) := by
  unfold pairG
  rw [powG_mapV ha hg, powG_mapV ha hg]
end
theorem tabP_ev (q : Int) (a b c : Nat) : mapV (ev q) (tabP a b c) = tabOf a b c q := by
  rw [(tab_eq a b c q).1]
  unfold tabP tabG
  have ha : ∀ x y, ev q (padd x y) = ev q x + ev q y := ev_padd q
  have hg : ∀ (r : Nat) (x : Py), ev q (pneg (psh r x)) = ev q x * -(q ^ r) := fun r x => by rw [ev_pneg, ev_psh, Int.mul_neg, Int.mul_comm]
  rw [pairG_mapV (g' := fun r v => v * -(q ^ r)) ha hg, pairG_mapV (g' := fun r v => v * -(q ^ r)) ha hg, pairG_mapV (g' := fun r v => v * -(q ^ r)) ha hg]
  simp [mapV, ev]
theorem getD_map {α β : Type} (f : α → β) (l : List α) (n : Nat) (d : α) : (l.map f).getD n (f d) = f (l.getD n d) := by
  simp only [List.getD_eq_getElem?_getD, List.getElem?_map]
  cases l[n]? <;> rfl
theorem gNext_ev (q : Int) (above : List Py) (n : Nat) : (gNextP above n).map (ev q) = gNext q (above.map (ev q)) n := by
  unfold gNextP gNext
  simp only [List.map_append, List.map_map, List.map_cons, List.map_nil]
  have h1 : ev q [1] = 1 := by simp [ev]
  rw [h1]
  congr 2
  refine List.map_congr_left fun k _ => ?_
  have h0 : (0 : Int) = ev q [] := rfl
  simp only [Function.comp, ev_padd, ev_psh]
  rw [h0, getD_map, getD_map]
theorem gRows_ev (q : Int) : ∀ n, (gRowsP n).map (fun r => r.map (ev q)) = gRows q n
  | 0 => by simp [gRowsP, gRows, ev]
  | n + 1 => by
    have ih := gRows_ev q n
    unfold gRowsP gRows
    rw [List.map_append, ih]
    congr 1
    simp only [List.map_cons, List.map_nil, gNext_ev]
    rw [← ih]
    have h0 : ([] : List Int) = (fun r : List Py => r.map (ev q)) [] := rfl
    rw [h0, getD_map]
theorem pv_ev (q : Int) (one other : Nat) (rows : List (List Py)) (k : Int) : ev q (pvP one other rows k) = pvOf q one other (rows.map fun r => r.map (ev q)) k := by
  unfold pvP pvOf
  have h0 : (0 : Int) = ev q [] := rfl
  have h1 : ([] : List Int) = (fun r : List Py => r.map (ev q)) [] := rfl
  have e : ((rows.map fun r => r.map (ev q)).getD (one + other) []).getD ((other : Int) + k).toNat 0 = ev q ((rows.getD (one + other) []).getD ((other : Int) + k).toNat []) := by
    rw [h1, getD_map]
    show (List.map (ev q) _).getD _ (ev q []) = _
    rw [getD_map]
    rfl
  rw [e]
  have hk : k.fmod 2 = 0 ∨ k.fmod 2 = 1 := by
    have h2 : 0 ≤ k.fmod 2 := Int.fmod_nonneg_of_pos _ (by decide)
    have h3 : k.fmod 2 < 2 := Int.fmod_lt_of_pos _ (by decide)
    omega
  rcases hk with hk | hk
  · rw [hk, if_pos rfl, id, ev_psh]; simp
  · rw [hk, if_neg (by decide), ev_pneg, ev_psh, show (1 - 2 * 1 : Int) = -1 from rfl, Int.neg_one_mul, Int.neg_mul]
theorem pair_ev (q : Int) (one other : Nat) (rows : List (List Py)) : mapV (ev q) (pairP one other rows) = pairL q one other (rows.map fun r => r.map (ev q)) := by
  unfold pairP pairL mapV
  rw [List.map_map]
  exact List.map_congr_left fun i _ => by simp only [Function.comp, pv_ev]
end Mine

end

section
open PySem PySem.W PySem.Calls PyProof.Rows
set_option Elab.async false
set_option maxRecDepth 100000
set_option maxHeartbeats 400000
namespace Mine
theorem fresh_P4 : True := by
  w_top off
  trivial
theorem foldl_nd {α : Type} {F G : List (Int × Int) → α → List (Int × Int)} (h : ∀ acc x, Nd acc → F acc x = G acc x ∧ Nd (F acc x)) : ∀ (l : List α) (acc : List (Int × Int)), Nd acc → l.foldl F acc = l.foldl G acc ∧ Nd (l.foldl F acc) := by
  intro l
  induction l with
  | nil => intro acc hn; exact ⟨rfl, hn⟩
  | cons x l ih =>
    intro acc hn
    have h1 := h acc x hn
    have h2 := ih (F acc x) h1.2
    simp only [List.foldl_cons]
    rw [← h1.1]; exact h2
theorem foldl_mapV {q : Int} {F : List (Int × Py) → (Int × Py) → List (Int × Py)} {G : List (Int × Int) → (Int × Int) → List (Int × Int)} (h : ∀ acc p, mapV (ev q) (F acc p) = G (mapV (ev q) acc) (p.1, ev q p.2)) :
    ∀ (l : List (Int × Py)) (acc : List (Int × Py)), mapV (ev q) (l.foldl F acc) = (mapV (ev q) l).foldl G (mapV (ev q) acc) := by
  intro l
  induction l with
  | nil => intro acc; rfl
  | cons p l ih =>
    intro acc
    have h1 := ih (F acc p)
    rw [h] at h1
    exact h1
def dueA (l1 l2 l3 : List (Int × Int)) : List (Int × Int) :=
  l1.foldl (fun acc p => l2.foldl (fun acc p2 => l3.foldl (fun acc p3 => addAt (· + ·) (home - (p2.1 + p3.1) * 65536 + (p3.1 - p.1) * 256 + p.1 + p2.1) (p.2 * p2.2 * p3.2) acc) acc) acc) []
theorem due_eq (a b c : Nat) (q : Int) (rows : List (List Int)) : dueOf a b c q rows = dueA (pairL q a b rows) (pairL q a c rows) (pairL q b c rows) ∧ Nd (dueOf a b c q rows) := by
  unfold dueOf dueA
  refine foldl_nd (fun acc p hn => foldl_nd (fun acc p2 hn => foldl_nd (fun acc p3 hn => ?_) _ acc hn) _ acc hn) _ [] (by simp [Nd])
  refine ⟨due1_addAt hn _ _, ?_⟩
  rw [due1_addAt hn]
  exact addAt_nd hn
theorem due_ev (q : Int) (a b c : Nat) (rows : List (List Py)) : mapV (ev q) (dueP a b c rows) = dueA (pairL q a b (rows.map fun r => r.map (ev q))) (pairL q a c (rows.map fun r => r.map (ev q))) (pairL q b c (rows.map fun r => r.map (ev q))) := by
  unfold dueP dueA
  rw [← pair_ev, ← pair_ev, ← pair_ev]
  refine foldl_mapV (fun acc p => foldl_mapV (fun acc p2 => foldl_mapV (fun acc p3 => ?_) _ acc) _ acc) _ []
  rw [addAt_mapV (ev_padd q)]
  simp only [ev_pmul]
theorem whole_ev (q : Int) (a b c : Nat) : ev q (wholeP a b c) = wholeOf a b c q := by
  unfold wholeP wholeOf
  have h : ∀ (l : List Nat) (x : Py), ev q (l.foldl (fun x r => pmul (pmul x (padd [1] (pneg (psh (r + 1) [1])))) (padd [1] (pneg (psh (r + 1) [1])))) x) = l.foldl (fun x r => x * (1 - q ^ (r + 1)) ^ 2) (ev q x) := by
    intro l
    induction l with
    | nil => intro x; rfl
    | cons r l ih =>
      intro x
      rw [List.foldl_cons, List.foldl_cons, ih]
      congr 1
      simp only [ev_pmul, ev_padd, ev_pneg, ev_psh]
      have h1 : ev q [1] = 1 := by simp [ev]
      rw [h1, Int.mul_one, Int.pow_succ (1 - q ^ (r + 1)) 1, Int.pow_one, Int.mul_assoc]
      rfl
  rw [h]
  congr 1
  split <;> simp [ev]
theorem count_ev (q : Int) (t : List (Int × Py)) : ev q (t.foldl (fun x p => padd x p.2) []) = countC (mapV (ev q) t) := by
  unfold countC mapV
  rw [List.foldl_map]
  have h : ∀ (t : List (Int × Py)) (x : Py), ev q (t.foldl (fun x p => padd x p.2) x) = t.foldl (fun x p => x + ev q p.2) (ev q x) := by
    intro t
    induction t with
    | nil => intro x; rfl
    | cons p t ih => intro x; rw [List.foldl_cons, List.foldl_cons, ih, ev_padd]
  exact h t []
theorem nodupK_nd : ∀ {l : List Int}, nodupK l = true → l.Nodup
  | [], _ => List.nodup_nil
  | k :: l, h => by
    simp only [nodupK, Bool.and_eq_true, List.all_eq_true] at h
    refine List.nodup_cons.mpr ⟨fun hm => ?_, nodupK_nd h.2⟩
    have := h.1 k hm
    simp at this
theorem mem_lkG {V : Type} {t : List (Int × V)} {k : Int} {v : V} (h : lkG t k = some v) : (k, v) ∈ t := by
  induction t with
  | nil => cases h
  | cons p t ih =>
    rw [lkG] at h
    by_cases e : p.1 = k
    · rw [if_pos (by simpa using e)] at h
      cases h
      rw [← e]; exact .head _
    · rw [if_neg (by simpa using e)] at h
      exact .tail _ (ih h)
structure LawFacts (a b c : Nat) (q : Int) : Prop where
  nd : Nd (tabOf a b c q)
  range : ∀ p ∈ tabOf a b c q, 0 ≤ p.1 ∧ p.1 < 16777216
  len : (tabOf a b c q).length ≤ 100
  first : (lk (tabOf a b c q) home).getD 0 = ((gRows q (a + b + c)).getD (a + b + c) []).getD a 0 * ((gRows q (a + b + c)).getD (b + c) []).getD b 0
  ndr : Nd ((tabOf a b c q).map fun p => (revKey p.1, p.2))
  ndd : Nd (dueOf a b c q (gRows q (a + b + c)))
  same : ∀ k, (lk ((tabOf a b c q).map fun p => (revKey p.1, p.2)) k).getD 0 = (lk (dueOf a b c q (gRows q (a + b + c))) k).getD 0
  count : countC (tabOf a b c q) = wholeOf a b c q
theorem facts_of {a b c : Nat} (h : okP a b c = true) (q : Int) : LawFacts a b c q := by
  unfold okP at h
  simp only [Bool.and_eq_true] at h
  obtain ⟨⟨⟨⟨⟨⟨⟨⟨h1, h2⟩, h3⟩, h4⟩, h5⟩, h6⟩, h7⟩, h8⟩, h9⟩ := h
  have et := tabP_ev q a b c
  have er := gRows_ev q (a + b + c)
  have ed : mapV (ev q) (dueP a b c (gRowsP (a + b + c))) = dueOf a b c q (gRows q (a + b + c)) := by rw [due_ev, er, (due_eq _ _ _ _ _).1]
  have eo : mapV (ev q) ((tabP a b c).map fun p => (revKey p.1, p.2)) = (tabOf a b c q).map fun p => (revKey p.1, p.2) := by
    rw [← et]; simp [mapV]
  refine ⟨(tab_eq a b c q).2, ?_, ?_, ?_, ?_, (due_eq _ _ _ _ _).2, ?_, ?_⟩
  · intro p hp
    rw [← et] at hp
    obtain ⟨p', hp', rfl⟩ := List.mem_map.mp hp
    have := List.all_eq_true.mp h2 p' hp'
    simpa using this
  · rw [← et]
    simpa [mapV] using h9
  · have := ev_psub q h5
    rw [ev_pmul] at this
    rw [lk_lkG, ← et, lkG_mapV, ← er]
    have h0 : (0 : Int) = ev q [] := rfl
    have h1 : ([] : List Int) = (fun r : List Py => r.map (ev q)) [] := rfl
    have e1 : ((lkG (tabP a b c) home).map (ev q)).getD 0 = ev q ((lkG (tabP a b c) home).getD []) := by cases lkG (tabP a b c) home <;> rfl
    rw [e1, this]
    have e2 : ∀ (n m : Nat), (((gRowsP (a + b + c)).map fun r => r.map (ev q)).getD n []).getD m 0 = ev q (((gRowsP (a + b + c)).getD n []).getD m []) := by
      intro n m
      have e3 : ((gRowsP (a + b + c)).map fun r => r.map (ev q)).getD n [] = ((gRowsP (a + b + c)).getD n []).map (ev q) := getD_map (fun r : List Py => r.map (ev q)) _ n []
      rw [e3]
      exact getD_map (ev q) _ m []
    rw [e2, e2]
  · unfold Nd
    rw [← eo, mapV_keys]
    exact nodupK_nd h3
  · intro k
    rw [lk_lkG, lk_lkG, ← eo, ← ed, lkG_mapV, lkG_mapV]
    have e1 : ∀ o : Option Py, (o.map (ev q)).getD 0 = ev q (o.getD []) := fun o => by cases o <;> rfl
    rw [e1, e1]
    cases ht : lkG ((tabP a b c).map fun p => (revKey p.1, p.2)) k with
    | some v => exact ev_psub q (List.all_eq_true.mp h6 (k, v) (mem_lkG ht))
    | none =>
      cases hd : lkG (dueP a b c (gRowsP (a + b + c))) k with
      | none => rfl
      | some v =>
        have := ev_psub q (List.all_eq_true.mp h7 (k, v) (mem_lkG hd))
        rw [ht] at this
        exact this.symm
  · rw [← whole_ev, ← ev_psub q h8, count_ev, et]
end Mine

end

section
open PySem PySem.W PySem.Calls PyProof.Rows
set_option Elab.async false
set_option maxRecDepth 100000
set_option maxHeartbeats 400000
namespace Mine
theorem fresh_P5 : True := by
  w_top off
  trivial
theorem okP_000 : okP 0 0 0 = true := by decide +kernel
theorem okP_001 : okP 0 0 1 = true := by decide +kernel
theorem okP_002 : okP 0 0 2 = true := by decide +kernel
theorem okP_010 : okP 0 1 0 = true := by decide +kernel
theorem okP_011 : okP 0 1 1 = true := by decide +kernel
theorem okP_012 : okP 0 1 2 = true := by decide +kernel
theorem okP_020 : okP 0 2 0 = true := by decide +kernel
theorem okP_021 : okP 0 2 1 = true := by decide +kernel
theorem okP_022 : okP 0 2 2 = true := by decide +kernel
theorem okP_100 : okP 1 0 0 = true := by decide +kernel
theorem okP_101 : okP 1 0 1 = true := by decide +kernel
theorem okP_102 : okP 1 0 2 = true := by decide +kernel
theorem okP_110 : okP 1 1 0 = true := by decide +kernel
theorem okP_111 : okP 1 1 1 = true := by decide +kernel
theorem okP_112 : okP 1 1 2 = true := by decide +kernel
theorem okP_120 : okP 1 2 0 = true := by decide +kernel
theorem okP_121 : okP 1 2 1 = true := by decide +kernel
theorem okP_122 : okP 1 2 2 = true := by decide +kernel
theorem okP_200 : okP 2 0 0 = true := by decide +kernel
theorem okP_201 : okP 2 0 1 = true := by decide +kernel
theorem okP_202 : okP 2 0 2 = true := by decide +kernel
theorem okP_210 : okP 2 1 0 = true := by decide +kernel
theorem okP_211 : okP 2 1 1 = true := by decide +kernel
theorem okP_212 : okP 2 1 2 = true := by decide +kernel
theorem okP_220 : okP 2 2 0 = true := by decide +kernel
theorem okP_221 : okP 2 2 1 = true := by decide +kernel
theorem okP_222 : okP 2 2 2 = true := by decide +kernel
theorem okP_all {a b c : Nat} (ha : a ≤ 2) (hb : b ≤ 2) (hc : c ≤ 2) : okP a b c = true := by
  match a, b, c, ha, hb, hc with
  | 0, 0, 0, _, _, _ => exact okP_000
  | 0, 0, 1, _, _, _ => exact okP_001
  | 0, 0, 2, _, _, _ => exact okP_002
  | 0, 1, 0, _, _, _ => exact okP_010
  | 0, 1, 1, _, _, _ => exact okP_011
  | 0, 1, 2, _, _, _ => exact okP_012
  | 0, 2, 0, _, _, _ => exact okP_020
  | 0, 2, 1, _, _, _ => exact okP_021
  | 0, 2, 2, _, _, _ => exact okP_022
  | 1, 0, 0, _, _, _ => exact okP_100
  | 1, 0, 1, _, _, _ => exact okP_101
  | 1, 0, 2, _, _, _ => exact okP_102
  | 1, 1, 0, _, _, _ => exact okP_110
  | 1, 1, 1, _, _, _ => exact okP_111
  | 1, 1, 2, _, _, _ => exact okP_112
  | 1, 2, 0, _, _, _ => exact okP_120
  | 1, 2, 1, _, _, _ => exact okP_121
  | 1, 2, 2, _, _, _ => exact okP_122
  | 2, 0, 0, _, _, _ => exact okP_200
  | 2, 0, 1, _, _, _ => exact okP_201
  | 2, 0, 2, _, _, _ => exact okP_202
  | 2, 1, 0, _, _, _ => exact okP_210
  | 2, 1, 1, _, _, _ => exact okP_211
  | 2, 1, 2, _, _, _ => exact okP_212
  | 2, 2, 0, _, _, _ => exact okP_220
  | 2, 2, 1, _, _, _ => exact okP_221
  | 2, 2, 2, _, _, _ => exact okP_222

/-! the numbers are small -/
def smallRows (q : Int) : Bool := (gRows q 6).all fun r => r.all fun x => decide (x.natAbs < 4611686018427387904)
def smallPairs (q : Int) : Bool := (List.range 3).all fun one => (List.range 3).all fun other => (pairL q one other (gRows q 6)).all fun p => decide (p.2.natAbs < 4611686018427387904)
theorem smallRows_all : ((List.range 101).all fun i => smallRows ((i : Int) - 50)) = true := by decide +kernel
theorem smallPairs_all : ((List.range 101).all fun i => smallPairs ((i : Int) - 50)) = true := by decide +kernel
theorem bits_of {x : Int} (h : x.natAbs < 4611686018427387904) : Builtin.Int.intBits x ≤ 64 := intBits_le_64 (by omega) (by omega)
theorem q_range {q : Int} (h : -50 ≤ q ∧ q ≤ 50) : ∃ i : Nat, i ∈ List.range 101 ∧ q = (i : Int) - 50 := ⟨(q + 50).toNat, List.mem_range.mpr (by omega), by omega⟩
theorem gauss_bits {q : Int} (hq : -50 ≤ q ∧ q ≤ 50) {top : Nat} (ht : top ≤ 6) : ∀ r ∈ gRows q top, ∀ x ∈ r, Builtin.Int.intBits x ≤ 64 := by
  intro r hr x hx
  obtain ⟨i, hi, rfl⟩ := q_range hq
  have h1 := List.all_eq_true.mp smallRows_all i hi
  have h2 := List.all_eq_true.mp h1 r (gRows_sub _ ht hr)
  have h3 := List.all_eq_true.mp h2 x hx
  exact bits_of (by simpa using h3)
theorem gRows_at (q : Int) {n top : Nat} (h : n ≤ top) : (gRows q top)[n]? = (gRows q n)[n]? := by
  induction top with
  | zero => rw [show n = 0 by omega]
  | succ k ih =>
    by_cases e : n = k + 1
    · rw [e]
    · show (gRows q k ++ _)[n]? = _
      rw [List.getElem?_append_left (by rw [gRows_len]; omega)]; exact ih (by omega)
theorem gRows_row_at (q : Int) {n top : Nat} (h : n ≤ top) : ∃ r, (gRows q top)[n]? = some r ∧ r.length = n + 1 := by
  obtain ⟨r, hr⟩ : ∃ r, (gRows q n)[n]? = some r := ⟨(gRows q n)[n]'(by rw [gRows_len]; omega), List.getElem?_eq_getElem _⟩
  exact ⟨r, by rw [gRows_at q h, hr], gRows_row q n r hr⟩
theorem pairL_top (q : Int) {one other top : Nat} (h : one + other ≤ top) (ht : top ≤ 6) : pairL q one other (gRows q top) = pairL q one other (gRows q 6) := by
  unfold pairL pvOf
  have e : (gRows q top).getD (one + other) [] = (gRows q 6).getD (one + other) [] := by
    rw [List.getD_eq_getElem?_getD, List.getD_eq_getElem?_getD, gRows_at q h, gRows_at q (Nat.le_trans h ht)]
  rw [e]
theorem pair_bits {q : Int} (hq : -50 ≤ q ∧ q ≤ 50) {one other top : Nat} (h1 : one ≤ 2) (h2 : other ≤ 2) (h : one + other ≤ top) (ht : top ≤ 6) : ∀ p ∈ pairL q one other (gRows q top), Builtin.Int.intBits p.2 ≤ 64 := by
  intro p hp
  rw [pairL_top q h ht] at hp
  obtain ⟨i, hi, rfl⟩ := q_range hq
  have e1 := List.all_eq_true.mp smallPairs_all i hi
  have e2 := List.all_eq_true.mp e1 one (List.mem_range.mpr (by omega))
  have e3 := List.all_eq_true.mp e2 other (List.mem_range.mpr (by omega))
  have e4 := List.all_eq_true.mp e3 p hp
  exact bits_of (by simpa using e4)
theorem facts {a b c : Nat} (ha : a ≤ 2) (hb : b ≤ 2) (hc : c ≤ 2) (q : Int) : LawFacts a b c q := facts_of (okP_all ha hb hc) q
end Mine

end

section
open PySem PySem.W PySem.Calls PyProof.Rows
set_option Elab.async false
set_option maxRecDepth 100000
set_option maxHeartbeats 400000
namespace Mine
theorem fresh_N1 : True := by
  w_top off
  trivial
local macro_rules | `(tactic| walk_at "none of these") => `(tactic| skip)
local macro_rules | `(tactic| walk_at "eval Name") => `(tactic| first
  | (with_unfolding_all refine nmL (by rfl) (by rfl) (by decide) (by first | with_reducible assumption | exact Fr.ns (by with_reducible assumption)) (by rfl) (by first | rfl | assumption) ?_)
  | (with_unfolding_all refine nmC (by rfl) (by rfl) (by decide) (by rfl) (by first | with_reducible assumption | assumption) ?_)
  | (with_unfolding_all refine nmG (by rfl) (by rfl) (by rfl) (by decide) (by rfl) (by first | with_reducible assumption | exact Wd.keeps (by with_reducible assumption) (Fr.keep (by with_reducible assumption))) ?_)
  | (with_unfolding_all refine nmB (by rfl) (by rfl) (by boot_by_name) (by rfl) (by rfl) (by decide) (by decide) (by rfl) (by first | with_reducible assumption | exact Wd.keeps (by with_reducible assumption) (Fr.keep (by with_reducible assumption))) ?_))
local macro_rules | `(tactic| walk_at "loadName") => `(tactic| (with_unfolding_all refine nmLd (by rfl) (by rfl) (by first | with_reducible assumption | exact Fr.ns (by with_reducible assumption)) (by rfl) (by first | rfl | assumption) ?_))
local macro_rules | `(tactic| walk_at "callWith ref") => `(tactic| (with_unfolding_all refine callF (by first | with_reducible assumption | exact Wd.keeps (by with_reducible assumption) (Fr.keep (by with_reducible assumption))) (by rfl) ?_ (by rfl) (by rfl)))
local macro_rules | `(tactic| walk_at "And") => `(tactic| ((with_reducible show Frag.In _ _ ∧ _); refine ⟨by first | exact (Wd.X (by with_reducible assumption)) | exact Wd.X (Wd.keeps (by with_reducible assumption) (Fr.keep (by with_reducible assumption))), ?_⟩; try dsimp only [List.nil_append, List.cons_append]))
local macro_rules | `(tactic| walk_at "mW") => `(tactic| repeat ((fail_if_success (with_reducible show wpAny _ _ (exec (Stmt.For _ _ _ _ _) _) _ _ _)); (fail_if_success (with_reducible show wpAny _ _ (execs (Stmt.Assign _ (Expr.List [] _) _ :: Stmt.For _ _ _ _ _ :: _) _) _ _ _)); (fail_if_success (with_reducible show wpAny _ _ (subscriptTail _ _ (Value.ref _) (Value.int _ _)) _ _ _)); (fail_if_success (with_reducible show wpAny _ _ (subscriptTail _ _ (Value.bytes _ _) (Value.int _ _)) _ _ _)); (fail_if_success (with_reducible show wpAny _ _ (setItem _ _ _) _ _ _)); (fail_if_success (with_reducible show wpAny _ _ (call (Value.type "bytes") _ _) _ _ _)); (fail_if_success (with_reducible show wpAny _ _ (call (Value.builtin "list.append") _ _) _ _ _)); (fail_if_success (with_reducible show Exists _)); (fail_if_success (with_reducible show wpAny _ _ (eval (Expr.ListComp _ _ _ _) _) _ _ _)); (fail_if_success (with_reducible show wpAny _ _ (eval (Expr.DictComp _ _ _ _ _) _) _ _ _)); (fail_if_success (with_reducible show wpAny _ _ (binaryOp _ (Value.ref _) (Value.ref _)) _ _ _)); walk1))
local macro_rules | `(tactic| walk_at "binaryOp Mult int int") => `(tactic| with_reducible refine mul_int ?_ (by with_reducible assumption))
local macro_rules | `(tactic| walk_at "binaryOp Pow int int") => `(tactic| with_reducible refine pow_int_small (by with_reducible assumption) (by with_reducible assumption) (by with_reducible assumption) ?_)

section
variable {w : World} {A : Around} {E : Value → Shared → Prop} {s : Shared}

/-! a list's comprehension of two clauses -/
abbrev comp2 (elt t1 i1 t2 i2 : Expr) (scope : Scope) (pos : Pos) : Expr := .ListComp elt [⟨t1, i1, [], 0⟩, ⟨t2, i2, [], 0⟩] scope pos
theorem turn2_in (elt t1 i1 t2 i2 : Expr) (scope : Scope) (pos : Pos) (it acc : Value) (env : Env) :
    compTurn (comp2 elt t1 i1 t2 i2 scope pos) 1 it acc env = (standAt i2.pos >>= fun _ => pyNext it >>= fun r => match r with
      | none => pure (.done .next)
      | some v => letOwnedTupleGo t2 it v >>= fun _ => assign t2 env v >>= fun _ =>
        (eval elt env >>= fun x => call (.builtin "list.append") [acc, x] >>= fun _ => pure ()) >>= fun _ =>
          again (.compLoop (comp2 elt t1 i1 t2 i2 scope pos) 1 it acc env)) := by rfl
theorem turn2_out (elt t1 i1 t2 i2 : Expr) (scope : Scope) (pos : Pos) (it acc : Value) (env : Env) :
    compTurn (comp2 elt t1 i1 t2 i2 scope pos) 0 it acc env = (standAt i1.pos >>= fun _ => pyNext it >>= fun r => match r with
      | none => pure (.done .next)
      | some v => letOwnedTupleGo t1 it v >>= fun _ => assign t1 env v >>= fun _ =>
        eval i2 env >>= fun x => standAt i2.pos >>= fun _ => foldedSetIterable i2 env x >>= fun x => holding [x] (pyIter x) >>= fun it2 => runOwn (.compStart (comp2 elt t1 i1 t2 i2 scope pos) 1 it2 acc env) env >>= fun _ =>
          again (.compLoop (comp2 elt t1 i1 t2 i2 scope pos) 0 it acc env)) := by rfl
theorem start2_in {R : Result → Shared → Prop} {elt t1 i1 t2 i2 : Expr} {scope : Scope} {pos : Pos} {it acc : Value} {env : Env}
    (h0 : codeAny (model PG w) A (.compLoop (comp2 elt t1 i1 t2 i2 scope pos) 1 it acc env) R s)
    (h : wpAny (model PG w) A (pyIter it) (fun it' s' => codeAny (model PG w) A (.compLoop (comp2 elt t1 i1 t2 i2 scope pos) 1 it' acc env) R s') (fun _ _ => False) s) :
    codeAny (model PG w) A (.compStart (comp2 elt t1 i1 t2 i2 scope pos) 1 it acc env) R s := by
  refine codeAny_of_tree ?_
  show wpAny _ _ ((compStart (comp2 elt t1 i1 t2 i2 scope pos) 1 it acc env).onRaise (fun x => do noteFrame x env; standAt theWindowsPlace)) _ _ s
  refine wpAny_notedAt ?_
  unfold compStart
  show wpAny _ _ (ask >>= _) _ _ s
  refine wpAny_bind (wpAny_askSetting (wpAny_ite ?_))
  split
  · first
      | exact wpAny_bind (wpAny_pure (wpAny_pure (And.intro rfl h0)))
      | exact wpAny_pure (And.intro rfl h0)
  · first
      | exact wpAny_bind (wpAny_rule (wpAny_bind (wpAny_standAt (wpAny_bind (wpAny_mono h (fun it' s' h' => wpAny_pure (And.intro rfl h')) fun _ _ x => x.elim)))))
      | (refine wpAny_bind (wpAny_rule ?_); show wpAny _ _ (standAt i2.pos >>= _) _ _ s; exact wpAny_bind (wpAny_standAt (wpAny_bind (wpAny_mono h (fun it' s' h' => wpAny_pure (And.intro rfl h')) fun _ _ x => x.elim))))
theorem plainList_push {h : Heap} {D : Addr} {ys : Array Value} {l : List Value} {v : Value} (x : h.PlainList D ((ys ++ l.toArray).push v)) : h.PlainList D (ys ++ (l ++ [v]).toArray) := by
  have e : (ys ++ l.toArray).push v = ys ++ (l ++ [v]).toArray := by simp
  rw [← e]; exact x
/-- the inner clause: what is walked is put behind -/
theorem loop2_in {R : Result → Shared → Prop} {y : Str} {py py2 : Pos} {t1 i1 i2 : Expr} {scope : Scope} {pos : Pos} {I D : Addr} {fp : List Addr} {n : Nat} {P : Nat → Value → Prop} {St : Nat → Heap → Prop} {env : Env} {m : Str → Option Value} {ys : Array Value}
    (W : Walks PG w A I fp [I] n P St) (hx : env.kindOf y = some .local) (hk : env.scope.kind = .function) (hyd : (y == ("__debug__" : Str)) = false)
    (hDC : D ≠ env.locals) (hDf : D ∉ fp) (hCf : env.locals ∉ fp) (hst : St 0 s.heap) (hacc : s.heap.PlainList D ys) (hn : s.heap.Ns env.locals m) (hsz : ys.size + n ≤ sizeLine)
    (hR : ∀ h' tk m' (vs : List Value), h'.Ns env.locals m' → h'.PlainList D (ys ++ vs.toArray) → vs.length = n → (∀ j v, vs[j]? = some v → P j v) → (∀ b o, b ≠ env.locals → b ≠ I → b ≠ D → s.heap.get? b = some o → h'.get? b = some o) → R (.ok .next) { s with heap := h', toks := tk }) :
    codeAny (model PG w) A (.compLoop (comp2 (.Name y py) t1 i1 (.Name y py2) i2 scope pos) 1 (.ref I) (.ref D) env) R s := by
  have hI : I ∈ fp := W.sub I (List.mem_singleton.mpr rfl)
  have hCI : env.locals ≠ I := fun e => hCf (e ▸ hI)
  have hDI : D ≠ I := fun e => hDf (e ▸ hI)
  refine codeAny_loop rfl (fun k s' => ∃ h' tk m' vs, s' = { s with heap := h', toks := tk } ∧ St vs.length h' ∧ h'.PlainList D (ys ++ vs.toArray) ∧ h'.Ns env.locals m' ∧ (∀ j v, vs[j]? = some v → P j v) ∧ vs.length ≤ n ∧ k = n + 1 - vs.length ∧
      (∀ b o, b ≠ env.locals → b ≠ I → b ≠ D → s.heap.get? b = some o → h'.get? b = some o)) ?_ (n + 1)
    ⟨s.heap, s.toks, m, [], rfl, hst, by simpa using hacc, hn, by simp, Nat.zero_le _, rfl, fun _ _ _ _ _ e => e⟩
  rintro k s' ⟨H, tk, m', vs, rfl, hst', hacc', hn', hP, hi, rfl, hkp⟩
  show wpAny _ A ((compTurn (comp2 (.Name y py) t1 i1 (.Name y py2) i2 scope pos) 1 (.ref I) (.ref D) env).onRaise (fun x => do noteFrame x env; theTreesLotGoes x)) _ _ _
  refine wpAny_noted ?_
  rw [turn2_in]
  refine wpAny_bind (wpAny_standAt (wpAny_bind ?_))
  by_cases hlt : vs.length < n
  · refine W.item vs.length _ _ _ hlt hst' fun v h₁ tk₁ hPv hst₁ hk₁ => ?_
    refine wpAny_bind (wpAny_pure ?_)
    refine wpAny_bind (wpAny_assign_Name (wpAny_storeName_local hx (hn'.at' fun o e => hk₁ _ o (by simpa using hCI) e) (fun h₂ hn₂ hs₂ => ?_) (by rw [hk]; rfl)))
    have up₂ : ∀ b o, b ≠ env.locals → b ≠ I → H.get? b = some o → h₂.get? b = some o := fun b o hbC hbf e => hs₂.extBut b o hbC (hk₁ b o (by simpa using hbf) e)
    have hst₂ : St (vs.length + 1) h₂ := W.frame _ _ _ hst₁ fun b hb o e => hs₂.extBut b o (fun h => hCf (h ▸ hb)) e
    refine wpAny_bind (wpAny_bind (nmL hk hx hyd hn₂ rfl (if_pos rfl) ?_))
    have hsz' : (ys ++ vs.toArray).size ≤ sizeLine := Nat.le_trans (Nat.le_of_eq (show (ys ++ vs.toArray).size = ys.size + vs.length by simp)) (Nat.le_trans (Nat.add_le_add_left (Nat.le_of_lt hlt) _) hsz)
    refine wpAny_bind (wpAny_list_append_plain (hsz := hsz') (hacc'.at fun o e => up₂ _ o hDC hDI e) fun h₅ hl₅ hs₅ => ?_)
    refine wpAny_pure (wpAny_pure ⟨rfl, n + 1 - (vs.length + 1), by omega, h₅, _, _, vs ++ [v], rfl, ?_, plainList_push hl₅, hn₂.sameBut hs₅ (Ne.symm hDC), ?_, by rw [List.length_append, List.length_singleton]; omega, by rw [List.length_append, List.length_singleton], ?_⟩)
    · rw [List.length_append, List.length_singleton]
      exact W.frame _ _ _ hst₂ fun b hb o e => hs₅.extBut b o (fun h => hDf (h ▸ hb)) e
    · intro j u hj
      rcases Nat.lt_trichotomy j vs.length with h | h | h
      · exact hP j u (by rwa [List.getElem?_append_left h] at hj)
      · subst h; simp at hj; subst hj; exact hPv
      · have hnone : (vs ++ [v])[j]? = none := List.getElem?_eq_none (by rw [List.length_append, List.length_singleton]; omega)
        rw [hnone] at hj; cases hj
    · intro b o h1 h2 h3 e
      exact hs₅.extBut b o h3 (up₂ b o h1 h2 (hkp b o h1 h2 h3 e))
  · have hin : vs.length = n := by omega
    refine W.done _ _ _ (hin ▸ hst') fun h₁ tk₁ hk₁ => wpAny_pure ?_
    exact hR h₁ tk₁ m' vs (hn'.at' fun o e => hk₁ _ o (by simpa using hCI) e) (hacc'.at fun o e => hk₁ _ o (by simpa using hDI) e) hin hP fun b o h1 h2 h3 e => hk₁ b o (by simpa using h2) (hkp b o h1 h2 h3 e)

end
end Mine

end

section
open PySem PySem.W PySem.Calls PyProof.Rows
set_option Elab.async false
set_option maxRecDepth 100000
set_option maxHeartbeats 400000
namespace Mine
theorem fresh_N2 : True := by
  w_top off
  trivial
local macro_rules | `(tactic| walk_at "eval Name") => `(tactic| first
  | (with_unfolding_all refine nmL (by rfl) (by rfl) (by decide) (by first | with_reducible assumption | exact Fr.ns (by with_reducible assumption)) (by rfl) (by first | rfl | assumption) ?_)
  | (with_unfolding_all refine nmC (by rfl) (by rfl) (by decide) (by rfl) (by first | with_reducible assumption | assumption) ?_)
  | (with_unfolding_all refine nmG (by rfl) (by rfl) (by rfl) (by decide) (by rfl) (by first | with_reducible assumption | exact Wd.keeps (by with_reducible assumption) (Fr.keep (by with_reducible assumption))) ?_)
  | (with_unfolding_all refine nmB (by rfl) (by rfl) (by boot_by_name) (by rfl) (by rfl) (by decide) (by decide) (by rfl) (by first | with_reducible assumption | exact Wd.keeps (by with_reducible assumption) (Fr.keep (by with_reducible assumption))) ?_))
local macro_rules | `(tactic| walk_at "loadName") => `(tactic| (with_unfolding_all refine nmLd (by rfl) (by rfl) (by first | with_reducible assumption | exact Fr.ns (by with_reducible assumption)) (by rfl) (by first | rfl | assumption) ?_))
local macro_rules | `(tactic| walk_at "callWith ref") => `(tactic| (with_unfolding_all refine callF (by first | with_reducible assumption | exact Wd.keeps (by with_reducible assumption) (Fr.keep (by with_reducible assumption))) (by rfl) ?_ (by rfl) (by rfl)))
local macro_rules | `(tactic| walk_at "And") => `(tactic| ((with_reducible show Frag.In _ _ ∧ _); refine ⟨by first | exact (Wd.X (by with_reducible assumption)) | exact Wd.X (Wd.keeps (by with_reducible assumption) (Fr.keep (by with_reducible assumption))), ?_⟩; try dsimp only [List.nil_append, List.cons_append]))
local macro_rules | `(tactic| walk_at "mW") => `(tactic| repeat ((fail_if_success (with_reducible show wpAny _ _ (exec (Stmt.For _ _ _ _ _) _) _ _ _)); (fail_if_success (with_reducible show wpAny _ _ (execs (Stmt.Assign _ (Expr.List [] _) _ :: Stmt.For _ _ _ _ _ :: _) _) _ _ _)); (fail_if_success (with_reducible show wpAny _ _ (subscriptTail _ _ (Value.ref _) (Value.int _ _)) _ _ _)); (fail_if_success (with_reducible show wpAny _ _ (subscriptTail _ _ (Value.bytes _ _) (Value.int _ _)) _ _ _)); (fail_if_success (with_reducible show wpAny _ _ (setItem _ _ _) _ _ _)); (fail_if_success (with_reducible show wpAny _ _ (call (Value.type "bytes") _ _) _ _ _)); (fail_if_success (with_reducible show wpAny _ _ (call (Value.builtin "list.append") _ _) _ _ _)); (fail_if_success (with_reducible show Exists _)); (fail_if_success (with_reducible show wpAny _ _ (eval (Expr.ListComp _ _ _ _) _) _ _ _)); (fail_if_success (with_reducible show wpAny _ _ (eval (Expr.DictComp _ _ _ _ _) _) _ _ _)); (fail_if_success (with_reducible show wpAny _ _ (binaryOp _ (Value.ref _) (Value.ref _)) _ _ _)); walk1))
local macro_rules | `(tactic| walk_at "binaryOp Mult int int") => `(tactic| with_reducible refine mul_int ?_ (by with_reducible assumption))
local macro_rules | `(tactic| walk_at "binaryOp Pow int int") => `(tactic| with_reducible refine pow_int_small (by with_reducible assumption) (by with_reducible assumption) (by with_reducible assumption) ?_)

section
variable {w : World} {A : Around} {E : Value → Shared → Prop} {s : Shared}

theorem octets {x y : Str} {px py py2 : Pos} {iter i2 : Expr} {scope : Scope} {cl : List (Str × Addr)} {pos : Pos} {env : Env} {l : Addr} {items : Array Value} {ks : List Int} {Q : Value → Shared → Prop} (f : Int → List Int)
    (hh : A.handled = none) (hl : s.heap.IsList l items) (hi : IntsAre items.toList ks) (hf : ∀ k, (f k).length = 3) (hsz : 3 * ks.length + 3 ≤ sizeLine)
    (hit : ∀ Q', Q' (.ref l) s → wpAny (model PG w) A (eval iter env) Q' E s)
    (hclos : closureFor scope env = pure cl) (hcell : ∀ y ∈ scope.names, y.2 ≠ .cell) (hkind : scope.kind = .function)
    (hnames : ∀ y ∈ scope.names, y.2 = .local → scope.names.lookup y.1 = some .local) (hx : scope.names.lookup x = some .local) (hy : scope.names.lookup y = some .local) (hyd : (y == ("__debug__" : Str)) = false)
    (hsrc : ∀ C k t s₁ m₁, k ∈ ks → s₁.heap.Ns C m₁ → m₁ x = some (.int k t) → (∀ b o, s.heap.get? b = some o → s₁.heap.get? b = some o) →
      wpAny (model PG w) A (eval i2 (compEnvC scope cl C env)) (fun xv s₂ => ∃ T its, xv = .ref T ∧ Keeps s₁ s₂ ∧ s₁.heap.get? T = none ∧ s₂.heap.IsTuple T its ∧ IntsAre its.toList (f k)) (fun _ _ => False) s₁)
    (hq : ∀ D h' tk vs, s.heap.get? D = none → h'.IsList D vs.toArray → IntsAre vs (ks.flatMap f) → (∀ b o, s.heap.get? b = some o → h'.get? b = some o) → Q (.ref D) { s with heap := h', toks := tk })
    (hs1 : ∀ x, foldedSetIterable iter env x = pure x := by intro _; rfl) (hs2 : ∀ C x, foldedSetIterable i2 (compEnvC scope cl C env) x = pure x := by intro _ _; rfl) :
    wpAny (model PG w) A (eval (.ListComp (.Name y py) [⟨.Name x px, iter, [], 0⟩, ⟨.Name y py2, i2, [], 0⟩] scope pos) env) Q E s := by
  rw [eval_ListComp]
  refine wpAny_comprehension_free (use := none) rfl hs1 hclos hkind hnames (hit _ ?_)
  have hllt : l < s.heap.objs.size := by obtain ⟨o, e, _⟩ := hl; exact Heap.lt_size e
  refine wpAny_pyIter_list hl ?_
  have hI0 : (s.heap.push { cls := .type "list_iterator", data := .fields #[.ref l, .int 0 0] }).IsListIter s.heap.objs.size l 0 := ⟨_, Heap.get?_push_size _ rfl, rfl, rfl⟩
  have k₁ : ∀ b o, s.heap.get? b = some o → (s.heap.push { cls := .type "list_iterator", data := .fields #[.ref l, .int 0 0] }).get? b = some o := fun b o e => Heap.get?_push_of_some _ e
  have hz₁ : (s.heap.push { cls := .type "list_iterator", data := .fields #[.ref l, .int 0 0] }).objs.size = s.heap.objs.size + 1 := Heap.size_push ..
  try dsimp only
  generalize s.heap.push { cls := .type "list_iterator", data := .fields #[.ref l, .int 0 0] } = H₂ at hI0 k₁ hz₁ ⊢
  refine wpAny_newObj_type (wpAny_newFunctionEnv hcell (by intro y hy; simp at hy) (fun h₁ hns₁ hsb₁ => ?_) hkind)
  dsimp only at hns₁ hsb₁ ⊢
  have hD0 : (H₂.push { cls := .type "list", dict := none, data := .seq ([] : List Value).toArray }).PlainList H₂.objs.size #[] := ⟨_, Heap.get?_push_size _ rfl⟩
  have hz₃ : (H₂.push { cls := .type "list", dict := none, data := .seq ([] : List Value).toArray }).objs.size = H₂.objs.size + 1 := Heap.size_push ..
  have k₃ : ∀ b o, H₂.get? b = some o → (H₂.push { cls := .type "list", dict := none, data := .seq ([] : List Value).toArray }).get? b = some o := fun b o e => Heap.get?_push_of_some _ e
  generalize H₂.push { cls := .type "list", dict := none, data := .seq ([] : List Value).toArray } = H₃ at hns₁ hsb₁ hD0 hz₃ k₃ ⊢
  have noneOf : ∀ a, s.heap.objs.size ≤ a → s.heap.get? a = none := fun a ha => by
    cases e : s.heap.get? a with
    | none => rfl
    | some o' => exact absurd (Heap.lt_size e) (Nat.not_lt.mpr ha)
  have hIn := noneOf s.heap.objs.size (Nat.le_refl _)
  have hDn := noneOf H₂.objs.size (by omega)
  have hCn := noneOf H₃.objs.size (by omega)
  have hID : s.heap.objs.size ≠ H₂.objs.size := by omega
  have hIC : s.heap.objs.size ≠ H₃.objs.size := by omega
  have hDC : H₂.objs.size ≠ H₃.objs.size := by omega
  have hIlt : s.heap.objs.size < H₃.objs.size := by omega
  have hlI : l ≠ s.heap.objs.size := Nat.ne_of_lt hllt
  have hlC0 : l ≠ H₃.objs.size := Nat.ne_of_lt (Nat.lt_trans hllt hIlt)
  have old : ∀ b o, b ≠ H₃.objs.size → H₂.get? b = some o → h₁.get? b = some o := fun b o hb e => hsb₁.extBut b o hb (Heap.get?_push_of_some _ (k₃ b o e))
  have hI1 : h₁.IsListIter s.heap.objs.size l 0 := hI0.at fun o e => old _ o hIC e
  have hl1 : h₁.IsList l items := hl.at fun o e => old l o hlC0 (k₁ _ _ e)
  have hD1 : h₁.PlainList H₂.objs.size #[] := hD0.at fun o e => hsb₁.extBut _ o hDC (Heap.get?_push_of_some _ e)
  have kk₁ : ∀ b o, s.heap.get? b = some o → h₁.get? b = some o := fun b o e => old b o (fun q => by rw [q, hCn] at e; cases e) (k₁ b o e)
  clear hI0 k₁ hD0 k₃ hsb₁ old hz₁ hz₃
  generalize s.heap.objs.size = I at *
  generalize H₂.objs.size = D at *
  generalize H₃.objs.size = C at *
  have hlC : l ≠ C := hlC0
  have hlD : l ≠ D := fun e => by obtain ⟨o, eo, _⟩ := hl; rw [e, hDn] at eo; cases eo
  have hnlen : items.size = ks.length := by rw [← Array.length_toList, hi.length]
  have main : ∀ s₃ : Shared, (∃ tk, s₃ = { s with heap := h₁, toks := tk }) → codeAny (model PG w) A (.compLoop (comp2 (.Name y py) (.Name x px) iter (.Name y py2) i2 scope pos) 0 (.ref I) (.ref D) (compEnvC scope cl C env))
      (compPost (model PG w) A E none Q (.ref D) C) s₃ := by
    rintro s₃ ⟨tk₃, rfl⟩
    refine codeAny_loop rfl (fun k s' => ∃ h' tk m' vs i, s' = { s with heap := h', toks := tk } ∧ h'.IsListIter I l i ∧ h'.IsList l items ∧ h'.PlainList D (List.toArray vs) ∧ h'.Ns C m' ∧ IntsAre vs ((ks.take i).flatMap f) ∧ vs.length = 3 * i ∧ i ≤ items.size ∧ k = items.size + 1 - i ∧
        (∀ b o, s.heap.get? b = some o → h'.get? b = some o)) ?_ (items.size + 1)
      ⟨h₁, tk₃, _, [], 0, rfl, hI1, hl1, hD1, hns₁, .nil, rfl, Nat.zero_le _, rfl, kk₁⟩
    rintro k s' ⟨H, tk, m', vs, i, rfl, hI', hl', hD', hn', hvs, hvl, hile, rfl, hkp⟩
    show wpAny _ A ((compTurn (comp2 (.Name y py) (.Name x px) iter (.Name y py2) i2 scope pos) 0 (.ref I) (.ref D) (compEnvC scope cl C env)).onRaise (fun x => do noteFrame x (compEnvC scope cl C env); theTreesLotGoes x)) _ _ _
    refine wpAny_noted ?_
    rw [turn2_out]
    refine wpAny_bind (wpAny_standAt (wpAny_bind ?_))
    by_cases hlt : i < items.size
    · obtain ⟨k, tkk, hk1, hk2⟩ := row_at hi (n := i) (by omega)
      have hk2 : items[i]? = some (.int k tkk) := by rw [← Array.getElem?_toList]; exact hk2
      refine wpAny_pyNext_list_item hI' hl' hk2 fun h₂ hI₂ hs₂ => ?_
      refine wpAny_bind (wpAny_pure ?_)
      refine wpAny_bind (wpAny_assign_Name (wpAny_storeName_local (lookup_relabel_local hx) (hn'.sameBut hs₂ (Ne.symm hIC)) (fun h₃ hn₃ hs₃ => ?_) (by simp [compEnvC, relabel, hkind])))
      have up₃ : ∀ b o, b ≠ C → b ≠ I → H.get? b = some o → h₃.get? b = some o := fun b o hbC hbI e => hs₃.extBut b o hbC (hs₂.extBut b o hbI e)
      have hI₃ : h₃.IsListIter I l (i + 1) := hI₂.at fun o e => hs₃.extBut _ o hIC e
      have kp₃ : ∀ b o, s.heap.get? b = some o → h₃.get? b = some o := fun b o e => up₃ b o (fun q => by rw [q, hCn] at e; cases e) (fun q => by rw [q, hIn] at e; cases e) (hkp b o e)
      have hD₃ : h₃.PlainList D vs.toArray := hD'.at fun o e => up₃ _ o hDC (Ne.symm hID) e
      have hl₃ : h₃.IsList l items := hl'.at fun o e => up₃ _ o hlC hlI e
      refine wpAny_bind (wpAny_mono (hsrc C k tkk _ _ (List.mem_of_getElem? hk1) hn₃ (if_pos rfl) kp₃) (fun xv s₄ h4 => ?_) fun _ _ e => e.elim)
      obtain ⟨T, its, rfl, ⟨h₄, tk₄, rfl, k₄⟩, hTn, hT, hits⟩ := h4
      refine wpAny_bind (wpAny_standAt (wpAny_bind (wpAny_of_eq (hs2 C _) (wpAny_bind (wpAny_holding (wpAny_pyIter_tuple hT ?_))))))
      have hTlt : T < h₄.objs.size := by obtain ⟨o, e, _⟩ := hT; exact Heap.lt_size e
      have hJ0 : (h₄.push { cls := .type "tuple_iterator", data := .fields #[.ref T, .int 0 0] }).IsTupleIter h₄.objs.size T 0 := ⟨_, Heap.get?_push_size _ rfl, rfl, rfl⟩
      have k₅ : ∀ b o, h₄.get? b = some o → (h₄.push { cls := .type "tuple_iterator", data := .fields #[.ref T, .int 0 0] }).get? b = some o := fun b o e => Heap.get?_push_of_some _ e
      dsimp only at hJ0 k₅ ⊢
      generalize h₄.push { cls := .type "tuple_iterator", data := .fields #[.ref T, .int 0 0] } = h₅ at hJ0 k₅ ⊢
      have old5 : ∀ b o, h₃.get? b = some o → h₅.get? b = some o := fun b o e => k₅ b o (k₄ b o e)
      have ne4 : ∀ b o, h₃.get? b = some o → b ≠ h₄.objs.size := fun b o e => Nat.ne_of_lt (Heap.lt_size (k₄ b o e))
      have neT : ∀ b o, h₃.get? b = some o → b ≠ T := fun b o e q => by rw [q] at e; exact absurd (hTn.symm.trans e) (by simp)
      have hDo : ∃ o, h₃.get? D = some o := let ⟨n, e⟩ := hD₃; ⟨_, e⟩
      have hCo : ∃ o, h₃.get? C = some o := let ⟨o, _, _, e, _⟩ := hn₃; ⟨_, e⟩
      obtain ⟨oD, hDo⟩ := hDo
      obtain ⟨oC, hCo⟩ := hCo
      have hits3 : its.size = 3 := by rw [← Array.length_toList, hits.length, hf]
      refine wpAny_bind (wpAny_runOwn ?_)
      rw [Around.mark_none]
      have W2 : Walks PG w A h₄.objs.size [h₄.objs.size, T] [h₄.objs.size] its.size (fun i v => its[i]? = some v) (fun i h => h.IsTupleIter h₄.objs.size T i ∧ h.IsTuple T its) := Walks.tuple hh h₄.objs.size T (Nat.ne_of_lt hTlt) its
      have hstart : (fun (i : Nat) (h : Heap) => h.IsTupleIter h₄.objs.size T i ∧ h.IsTuple T its) 0 h₅ := ⟨hJ0, hT.at fun o e => k₅ _ _ e⟩
      have inner : codeAny (model PG w) A (.compLoop (comp2 (.Name y py) (.Name x px) iter (.Name y py2) i2 scope pos) 1 (.ref h₄.objs.size) (.ref D) (compEnvC scope cl C env))
          (fun r s' => match r with | .ok fl => wpAny (model PG w) A (again (.compLoop (comp2 (.Name y py) (.Name x px) iter (.Name y py2) i2 scope pos) 0 (.ref I) (.ref D) (compEnvC scope cl C env))) (fun fin s' => match fin with | .done f => compPost (model PG w) A E none Q (.ref D) C (.ok f) s' | .again c' => c' = .compLoop (comp2 (.Name y py) (.Name x px) iter (.Name y py2) i2 scope pos) 0 (.ref I) (.ref D) (compEnvC scope cl C env) ∧ ∃ m, m < items.size + 1 - i ∧ ∃ h' tk m' vs i, s' = { s with heap := h', toks := tk } ∧ h'.IsListIter I l i ∧ h'.IsList l items ∧ h'.PlainList D (List.toArray vs) ∧ h'.Ns C m' ∧ IntsAre vs ((ks.take i).flatMap f) ∧ vs.length = 3 * i ∧ i ≤ items.size ∧ m = items.size + 1 - i ∧
        (∀ b o, s.heap.get? b = some o → h'.get? b = some o)) (fun _ _ => False) s' | .error _ => False) { s with heap := h₅, toks := tk₄ } := by
        refine loop2_in (env := compEnvC scope cl C env) W2 (lookup_relabel_local hy) (by simp [compEnvC, relabel, hkind]) hyd hDC ?_ ?_ hstart (hD₃.at fun o e => old5 _ o e) (hn₃.at' fun o e => old5 _ o e) ?_ ?_
        · simp only [List.mem_cons, List.not_mem_nil, or_false, not_or]; exact ⟨ne4 _ _ hDo, neT _ _ hDo⟩
        · simp only [List.mem_cons, List.not_mem_nil, or_false, not_or]; exact ⟨ne4 _ _ hCo, neT _ _ hCo⟩
        · rw [hits3, List.size_toArray, hvl]; omega
        · intro h₆ tk₆ m₆ us hn₆ hD₆ hul hus hk₆
          have hus' : us = its.toList := by
            refine List.ext_getElem? fun j => ?_
            by_cases hj : j < us.length
            · have := hus j us[j] (List.getElem?_eq_getElem hj)
              rw [List.getElem?_eq_getElem hj, Array.getElem?_toList, this]
            · rw [List.getElem?_eq_none (by omega), List.getElem?_eq_none (by rw [Array.length_toList]; omega)]
          have keep6 : ∀ b o, b ≠ C → b ≠ D → h₃.get? b = some o → h₆.get? b = some o := fun b o h1 h2 e => hk₆ b o h1 (ne4 b o e) h2 (old5 b o e)
          have hIo : ∃ o, h₃.get? I = some o := let ⟨o, e, _⟩ := hI₃; ⟨_, e⟩
          have hlo : ∃ o, h₃.get? l = some o := let ⟨o, e, _⟩ := hl₃; ⟨_, e⟩
          refine wpAny_pure ⟨rfl, items.size + 1 - (i + 1), by omega, h₆, tk₆, m₆, vs ++ us, i + 1, rfl, hI₃.at fun o e => keep6 _ o hIC hID e, hl₃.at fun o e => keep6 _ o hlC hlD e, ?_, hn₆, ?_, ?_, by omega, rfl, ?_⟩
          · rw [← List.append_toArray]; exact hD₆
          · rw [take_succ_of hk1, List.flatMap_append, List.flatMap_singleton, hus']
            exact hvs.append hits
          · rw [List.length_append, hul, hvl, hits3]; omega
          · exact fun b o e => keep6 b o (fun q => by rw [q, hCn] at e; cases e) (fun q => by rw [q, hDn] at e; cases e) (kp₃ b o e)
      refine codeAny_mono (start2_in inner (wpAny_pyIter_tupleiter hJ0 inner)) (fun r s' hr => ?_)
      cases r with
      | ok fl => exact wpAny_mono hr (fun _ _ h => h) fun _ _ e => e.elim
      | error e => exact hr.elim
    · have hin : i = items.size := by omega
      subst hin
      refine wpAny_pyNext_list_end hh hI' hl' (by simp) fun h₂ he₂ => wpAny_pure ?_
      refine ⟨m', hn'.extBut he₂ (Ne.symm hIC), fun h₃ hs₃ => ?_⟩
      have hD₂ : h₂.PlainList D vs.toArray := hD'.at fun o e => he₂ _ o (Ne.symm hID) e
      have hD₃ : h₃.PlainList D vs.toArray := hD₂.at fun o e => hs₃.extBut _ o hDC e
      rw [hnlen, List.take_length] at hvs
      exact hq D h₃ tk vs hDn hD₃.isList hvs fun b o e => hs₃.extBut b o (fun q => by rw [q, hCn] at e; cases e) (he₂ b o (fun q => by rw [q, hIn] at e; cases e) (hkp b o e))
  exact codeAny_compStart_list (main _ ⟨_, rfl⟩) (wpAny_pyIter_listiter hI1 (main _ ⟨_, rfl⟩))

end
end Mine

end

section
open PySem PySem.W PySem.Calls PyProof.Rows
set_option Elab.async false
set_option maxRecDepth 100000
set_option maxHeartbeats 400000
namespace Mine
theorem fresh_L0 : True := by
  w_top off
  trivial
local macro_rules | `(tactic| walk_at "none of these") => `(tactic| skip)
local macro_rules | `(tactic| walk_at "eval Name") => `(tactic| first
  | (with_unfolding_all refine nmL (by rfl) (by rfl) (by decide) (by first | with_reducible assumption | exact Fr.ns (by with_reducible assumption)) (by rfl) (by first | rfl | assumption) ?_)
  | (with_unfolding_all refine nmC (by rfl) (by rfl) (by decide) (by rfl) (by first | with_reducible assumption | assumption) ?_)
  | (with_unfolding_all refine nmG (by rfl) (by rfl) (by rfl) (by decide) (by rfl) (by first | with_reducible assumption | exact Wd.keeps (by with_reducible assumption) (Fr.keep (by with_reducible assumption))) ?_)
  | (with_unfolding_all refine nmB (by rfl) (by rfl) (by boot_by_name) (by rfl) (by rfl) (by decide) (by decide) (by rfl) (by first | with_reducible assumption | exact Wd.keeps (by with_reducible assumption) (Fr.keep (by with_reducible assumption))) ?_))
local macro_rules | `(tactic| walk_at "loadName") => `(tactic| (with_unfolding_all refine nmLd (by rfl) (by rfl) (by first | with_reducible assumption | exact Fr.ns (by with_reducible assumption)) (by rfl) (by first | rfl | assumption) ?_))
local macro_rules | `(tactic| walk_at "callWith ref") => `(tactic| (with_unfolding_all refine callF (by first | with_reducible assumption | exact Wd.keeps (by with_reducible assumption) (Fr.keep (by with_reducible assumption))) (by rfl) ?_ (by rfl) (by rfl)))
local macro_rules | `(tactic| walk_at "And") => `(tactic| ((with_reducible show Frag.In _ _ ∧ _); refine ⟨by first | exact (Wd.X (by with_reducible assumption)) | exact Wd.X (Wd.keeps (by with_reducible assumption) (Fr.keep (by with_reducible assumption))), ?_⟩; try dsimp only [List.nil_append, List.cons_append]))
local macro_rules | `(tactic| walk_at "mW") => `(tactic| repeat ((fail_if_success (with_reducible show wpAny _ _ (exec (Stmt.For _ _ _ _ _) _) _ _ _)); (fail_if_success (with_reducible show wpAny _ _ (execs (Stmt.Assign _ (Expr.List [] _) _ :: Stmt.For _ _ _ _ _ :: _) _) _ _ _)); (fail_if_success (with_reducible show wpAny _ _ (subscriptTail _ _ (Value.ref _) (Value.int _ _)) _ _ _)); (fail_if_success (with_reducible show wpAny _ _ (subscriptTail _ _ (Value.bytes _ _) (Value.int _ _)) _ _ _)); (fail_if_success (with_reducible show wpAny _ _ (setItem _ _ _) _ _ _)); (fail_if_success (with_reducible show wpAny _ _ (call (Value.type "bytes") _ _) _ _ _)); (fail_if_success (with_reducible show wpAny _ _ (call (Value.builtin "list.append") _ _) _ _ _)); (fail_if_success (with_reducible show Exists _)); (fail_if_success (with_reducible show wpAny _ _ (eval (Expr.ListComp _ _ _ _) _) _ _ _)); (fail_if_success (with_reducible show wpAny _ _ (eval (Expr.DictComp _ _ _ _ _) _) _ _ _)); (fail_if_success (with_reducible show wpAny _ _ (binaryOp _ (Value.ref _) (Value.ref _)) _ _ _)); walk1))
local macro_rules | `(tactic| walk_at "binaryOp Mult int int") => `(tactic| with_reducible refine mul_int ?_ (by with_reducible assumption))
local macro_rules | `(tactic| walk_at "binaryOp Pow int int") => `(tactic| with_reducible refine pow_int_small (by with_reducible assumption) (by with_reducible assumption) (by with_reducible assumption) ?_)

section
variable {w : World} {A : Around} {E : Value → Shared → Prop} {s : Shared}

def lawBody : List Stmt := match PG.theDef (Str.ofString "law") with | some (_, b, _) => b | none => []
def lawScope : Scope := match PG.theDef (Str.ofString "law") with | some (_, _, s) => s | none => default
abbrev lenv (L : Addr) (cd : Value) : Env := envOf (Str.ofString "law") lawScope L 128 cd
def TbN (w : World) (news : List (Addr × Obj)) (T : Addr) (t : List (Int × Int)) : Prop := (T == sysModules) = false ∧ ∃ o, (T, o) ∈ news ∧ ObTb w o t
theorem TbN.isTb {h₀ h : Heap} {L : Addr} {news : List (Addr × Obj)} {T : Addr} {t} (x : TbN w news T t) (N : News h₀ L h news) : IsTb w h T t := let ⟨lo, o, ho, hb⟩ := x; hb.isTb (N _ ho).1 lo

end
end Mine

end

section
open PySem PySem.W PySem.Calls PyProof.Rows
set_option Elab.async false
set_option maxRecDepth 100000
set_option maxHeartbeats 400000
namespace Mine
theorem fresh_L1 : True := by
  w_top off
  trivial
local macro_rules | `(tactic| walk_at "eval Name") => `(tactic| first
  | (with_unfolding_all refine nmL (by rfl) (by rfl) (by decide) (by first | with_reducible assumption | exact Fr.ns (by with_reducible assumption)) (by rfl) (by first | rfl | assumption) ?_)
  | (with_unfolding_all refine nmC (by rfl) (by rfl) (by decide) (by rfl) (by first | with_reducible assumption | assumption) ?_)
  | (with_unfolding_all refine nmG (by rfl) (by rfl) (by rfl) (by decide) (by rfl) (by first | with_reducible assumption | exact Wd.keeps (by with_reducible assumption) (Fr.keep (by with_reducible assumption))) ?_)
  | (with_unfolding_all refine nmB (by rfl) (by rfl) (by boot_by_name) (by rfl) (by rfl) (by decide) (by decide) (by rfl) (by first | with_reducible assumption | exact Wd.keeps (by with_reducible assumption) (Fr.keep (by with_reducible assumption))) ?_))
local macro_rules | `(tactic| walk_at "loadName") => `(tactic| (with_unfolding_all refine nmLd (by rfl) (by rfl) (by first | with_reducible assumption | exact Fr.ns (by with_reducible assumption)) (by rfl) (by first | rfl | assumption) ?_))
local macro_rules | `(tactic| walk_at "callWith ref") => `(tactic| (with_unfolding_all refine callF (by first | with_reducible assumption | exact Wd.keeps (by with_reducible assumption) (Fr.keep (by with_reducible assumption))) (by rfl) ?_ (by rfl) (by rfl)))
local macro_rules | `(tactic| walk_at "And") => `(tactic| ((with_reducible show Frag.In _ _ ∧ _); refine ⟨by first | exact (Wd.X (by with_reducible assumption)) | exact Wd.X (Wd.keeps (by with_reducible assumption) (Fr.keep (by with_reducible assumption))), ?_⟩; try dsimp only [List.nil_append, List.cons_append]))
local macro_rules | `(tactic| walk_at "mW") => `(tactic| repeat ((fail_if_success (with_reducible show wpAny _ _ (exec (Stmt.For _ _ _ _ _) _) _ _ _)); (fail_if_success (with_reducible show wpAny _ _ (execs (Stmt.Assign _ (Expr.List [] _) _ :: Stmt.For _ _ _ _ _ :: _) _) _ _ _)); (fail_if_success (with_reducible show wpAny _ _ (subscriptTail _ _ (Value.ref _) (Value.int _ _)) _ _ _)); (fail_if_success (with_reducible show wpAny _ _ (subscriptTail _ _ (Value.bytes _ _) (Value.int _ _)) _ _ _)); (fail_if_success (with_reducible show wpAny _ _ (setItem _ _ _) _ _ _)); (fail_if_success (with_reducible show wpAny _ _ (call (Value.type "bytes") _ _) _ _ _)); (fail_if_success (with_reducible show wpAny _ _ (call (Value.builtin "list.append") _ _) _ _ _)); (fail_if_success (with_reducible show Exists _)); (fail_if_success (with_reducible show wpAny _ _ (eval (Expr.ListComp _ _ _ _) _) _ _ _)); (fail_if_success (with_reducible show wpAny _ _ (eval (Expr.DictComp _ _ _ _ _) _) _ _ _)); (fail_if_success (with_reducible show wpAny _ _ (binaryOp _ (Value.ref _) (Value.ref _)) _ _ _)); walk1))
local macro_rules | `(tactic| walk_at "binaryOp Mult int int") => `(tactic| with_reducible refine mul_int ?_ (by with_reducible assumption))
local macro_rules | `(tactic| walk_at "binaryOp Pow int int") => `(tactic| with_reducible refine pow_int_small (by with_reducible assumption) (by with_reducible assumption) (by with_reducible assumption) ?_)

section
variable {w : World} {A : Around} {E : Value → Shared → Prop} {s : Shared}

local macro_rules | `(tactic| walk_at "eval Name") => `(tactic| first
  | (with_unfolding_all refine nmL (by rfl) (by rfl) (by decide) (by first | with_reducible assumption | exact Fr.ns (by with_reducible assumption)) (by rfl) (by first | with_reducible assumption | rfl | assumption) ?_)
  | (with_unfolding_all refine nmC (by rfl) (by rfl) (by decide) (by rfl) (by first | with_reducible assumption | assumption) ?_)
  | (with_unfolding_all refine nmG (by rfl) (by rfl) (by rfl) (by decide) (by rfl) (by first | with_reducible assumption | exact Wd.keeps (by with_reducible assumption) (Fr.keep (by with_reducible assumption))) ?_)
  | (with_unfolding_all refine nmB (by rfl) (by rfl) (by boot_by_name) (by rfl) (by rfl) (by decide) (by decide) (by rfl) (by first | with_reducible assumption | exact Wd.keeps (by with_reducible assumption) (Fr.keep (by with_reducible assumption))) ?_))
local macro_rules | `(tactic| walk_at "mL") => `(tactic| repeat ((fail_if_success (with_reducible show wpAny _ _ (execs (Stmt.For _ _ _ _ _ :: _) _) _ _ _)); (fail_if_success (with_reducible show wpAny _ _ (exec (Stmt.For _ _ _ _ _) _) _ _ _)); (fail_if_success (with_reducible show wpAny _ _ (execs (Stmt.Assign _ (Expr.List [] _) _ :: Stmt.For _ _ _ _ _ :: _) _) _ _ _)); (fail_if_success (with_reducible show wpAny _ _ (subscriptTail _ _ (Value.ref _) (Value.int _ _)) _ _ _)); (fail_if_success (with_reducible show wpAny _ _ (subscriptTail _ _ (Value.bytes _ _) (Value.int _ _)) _ _ _)); (fail_if_success (with_reducible show wpAny _ _ (setItem _ _ _) _ _ _)); (fail_if_success (with_reducible show wpAny _ _ (call (Value.type "bytes") _ _) _ _ _)); (fail_if_success (with_reducible show wpAny _ _ (call (Value.builtin "list.append") _ _) _ _ _)); (fail_if_success (with_reducible show Exists _)); (fail_if_success (with_reducible show wpAny _ _ (eval (Expr.ListComp _ _ _ _) _) _ _ _)); (fail_if_success (with_reducible show wpAny _ _ (eval (Expr.DictComp _ _ _ _ _) _) _ _ _)); (fail_if_success (with_reducible show wpAny _ _ (binaryOp _ (Value.ref _) (Value.ref _)) _ _ _)); walk1))

def sqOk (q : Int) (r : Nat) : Bool := decide ((1 - q ^ r).natAbs < 4000) && decide (((1 - q ^ r) ^ 2).natAbs < 4611686018427387904)
theorem sqOk_all : ((List.range 101).all fun i => sqOk ((i : Int) - 50) 1 && sqOk ((i : Int) - 50) 2) = true := by decide +kernel
theorem sq_ok {q : Int} (hq : -50 ≤ q ∧ q ≤ 50) {r : Nat} (h : r = 1 ∨ r = 2) : (1 - q ^ r).natAbs < 2 ^ 64 ∧ Builtin.Int.intBits ((1 - q ^ r) ^ 2) ≤ 64 := by
  obtain ⟨i, hi, rfl⟩ := q_range hq
  have h1 := List.all_eq_true.mp sqOk_all i hi
  simp only [Bool.and_eq_true, sqOk, decide_eq_true_eq] at h1
  obtain ⟨⟨a1, a2⟩, b1, b2⟩ := h1
  rcases h with rfl | rfl
  · exact ⟨Nat.lt_trans a1 (by decide), bits_of a2⟩
  · exact ⟨Nat.lt_trans b1 (by decide), bits_of b2⟩
def whole_ (x0 : Int) (q : Int) (i : Nat) : Int := (List.range i).foldl (fun x r => x * (1 - q ^ (r + 1)) ^ 2) x0
theorem whole_succ (x0 q : Int) (i : Nat) : whole_ x0 q (i + 1) = whole_ x0 q i * (1 - q ^ (i + 1)) ^ 2 := by
  unfold whole_; rw [List.range_succ, List.foldl_append]; rfl
theorem law_20 {h₀ : Heap} {L T : Addr} {cd : Value} {m : Str → Option Value} {news : List (Addr × Obj)} {c : Nat} {q x0 : Int} {tc tq tx : Tok} {t : List (Int × Int)} {Q : Flow → Shared → Prop} (R : Rm 3 A) (W : Wd w h₀) (F : Fr h₀ L s.heap m) (N : News h₀ L s.heap news) (hT : TbN w news T t)
    (m3 : m (Str.ofString "c") = some (.int c tc)) (m4 : m (Str.ofString "q") = some (.int q tq)) (m5 : m (Str.ofString "table") = some (.ref T)) (m6 : m (Str.ofString "whole") = some (.int x0 tx))
    (hc : c ≤ 2) (hq : -50 ≤ q ∧ q ≤ 50) (hcount : countC t = whole_ x0 q c)
    (hQ : ∀ h' tk, (∀ b o, h₀.get? b = some o → h'.get? b = some o) → Q (.ret (.bool true)) { s with heap := h', toks := tk }) :
    wpAny (model PG w) A (execs (lawBody.drop 20) (lenv L cd)) Q (fun _ _ => False) s := by
  have hc3 : c = 0 ∨ c = 1 ∨ c = 2 := by omega
  have hsm : Builtin.Range.small 1 ((c : Int) + 1) 1 = true := by rcases hc3 with rfl | rfl | rfl <;> decide
  have hsz : Builtin.Range.rangeSize 1 ((c : Int) + 1) 1 = (c : Int) := by rcases hc3 with rfl | rfl | rfl <;> decide
  have hI : IsTb w s.heap T t := hT.isTb N
  conv in List.drop _ _ => whnf
  refine wpAny_execs_cons ?_
  refine For_turns F ?_ (by intro _; rfl)
  walk_at "mW"
  rename_i h₄ _ _ _ _ hr F₄ N₄ _
  dsimp only at hr F₄ N₄ ⊢
  refine range_turns (n := c) R.hh hr hsm hsz F₄ N₄ rfl rfl
    (fun i m news' => ∃ tk, news' = news ∧ m (Str.ofString "q") = some (.int q tq) ∧ m (Str.ofString "table") = some (.ref T) ∧ m (Str.ofString "whole") = some (.int (whole_ x0 q i) tk)) ?_ ?_ ?_
  · exact ⟨_, rfl, m4, m5, m6⟩
  · rintro i tkv m₁ news₁ h₅ tk₅ own hi ⟨tk, rfl, m1, m2, m3⟩ hap F' N'
    clear hr F₄ N₄
    have hr1 : i + 1 = 1 ∨ i + 1 = 2 := by omega
    have e0 : (1 + (i : Int) * 1).toNat = i + 1 := by omega
    obtain ⟨sq1, sq2⟩ := sq_ok hq hr1
    have p1 : 0 ≤ 1 + (i : Int) * 1 := by omega
    have p2 : 1 + (i : Int) * 1 ≤ 1000000 := by omega
    have p3 : q.natAbs < 2 ^ 64 := by omega
    have p4 : (0 : Int) ≤ 2 := by decide
    have p5 : (2 : Int) ≤ 1000000 := by decide
    have p6 : (1 - q ^ (1 + (i : Int) * 1).toNat).natAbs < 2 ^ 64 := by rw [e0]; exact sq1
    have p7 : ∀ x, IntMulOk x ((1 - q ^ (1 + (i : Int) * 1).toNat) ^ (2 : Int).toNat) := fun x => by rw [e0]; exact .of_right sq2
    have p8 := p7 (whole_ x0 q i)
    have e1 : whole_ x0 q i * ((1 - q ^ (1 + (i : Int) * 1).toNat) ^ (2 : Int).toNat) = whole_ x0 q (i + 1) := by rw [whole_succ, e0]; rfl
    walk_at "mW"
    rename_i F7 N7
    rw [e1] at F7
    refine ⟨_, _, _, news₁, rfl, F7, N7, fun p hp => .inl (List.mem_map_of_mem hp), _, rfl, by with_unfolding_all exact m1, by with_unfolding_all exact m2, rfl⟩
  · rintro h₅ tk₅ m₅ news₅ F₅ N₅ ⟨tk, rfl, m1, m2, m3⟩
    have hI' : IsTb w h₅ T t := hT.isTb N₅
    walk_at "mW"
    have W₅ : Wd w h₅ := W.keeps F₅.keep
    refine c_count R.tail W₅ hI' ?_
    rintro tk₆ s₆ ⟨h₆, tk₆', rfl, k₆⟩
    have F₆ : Fr h₀ L h₆ m₅ := Fr.after F₅ k₆
    dsimp only
    walk_at "mW"
    rw [hcount, beq_self_eq_true]
    exact hQ _ _ F₆.keep
theorem law_19 {h₀ : Heap} {L T : Addr} {cd : Value} {m : Str → Option Value} {news : List (Addr × Obj)} {a b c : Nat} {q : Int} {ta tb tc tq : Tok} {t : List (Int × Int)} {Q : Flow → Shared → Prop} (R : Rm 3 A) (W : Wd w h₀) (F : Fr h₀ L s.heap m) (N : News h₀ L s.heap news) (hT : TbN w news T t)
    (m1 : m (Str.ofString "a") = some (.int a ta)) (m2 : m (Str.ofString "b") = some (.int b tb)) (m3 : m (Str.ofString "c") = some (.int c tc)) (m4 : m (Str.ofString "q") = some (.int q tq)) (m5 : m (Str.ofString "table") = some (.ref T))
    (hc : c ≤ 2) (hq : -50 ≤ q ∧ q ≤ 50) (hcount : countC t = wholeOf a b c q)
    (hQ : ∀ h' tk, (∀ b o, h₀.get? b = some o → h'.get? b = some o) → Q (.ret (.bool true)) { s with heap := h', toks := tk }) :
    wpAny (model PG w) A (execs (lawBody.drop 19) (lenv L cd)) Q (fun _ _ => False) s := by
  have e : ∃ st, lawBody.drop 19 = st :: lawBody.drop 20 := ⟨_, rfl⟩
  have z1 : ((a : Int) + (b : Int) = 0) → countC t = whole_ 1 q c := fun h => by rw [hcount]; unfold wholeOf whole_; rw [if_pos (by omega)]
  have z0 : (¬ (a : Int) + (b : Int) = 0) → countC t = whole_ 0 q c := fun h => by rw [hcount]; unfold wholeOf whole_; rw [if_neg (by omega)]
  conv in List.drop _ _ => whnf
  refine wpAny_execs_cons ?_
  walk_at "mL"
  · rename_i h₁ F₁ N₁
    exact law_20 (news := news) (x0 := 1) R W F₁ N₁ hT m3 m4 m5 rfl hc hq (z1 ‹_›) hQ
  · walk_at "mL"
    rename_i h₁ F₁ N₁
    exact law_20 (news := news) (x0 := 0) R W F₁ N₁ hT m3 m4 m5 rfl hc hq (z0 ‹_›) hQ

end
end Mine

end

section
open PySem PySem.W PySem.Calls PyProof.Rows
set_option Elab.async false
set_option maxRecDepth 100000
set_option maxHeartbeats 400000
namespace Mine
theorem fresh_L2 : True := by
  w_top off
  trivial
local macro_rules | `(tactic| walk_at "none of these") => `(tactic| skip)
local macro_rules | `(tactic| walk_at "eval Name") => `(tactic| first
  | (with_unfolding_all refine nmL (by rfl) (by rfl) (by decide) (by first | with_reducible assumption | exact Fr.ns (by with_reducible assumption)) (by rfl) (by first | rfl | assumption) ?_)
  | (with_unfolding_all refine nmC (by rfl) (by rfl) (by decide) (by rfl) (by first | with_reducible assumption | assumption) ?_)
  | (with_unfolding_all refine nmG (by rfl) (by rfl) (by rfl) (by decide) (by rfl) (by first | with_reducible assumption | exact Wd.keeps (by with_reducible assumption) (Fr.keep (by with_reducible assumption))) ?_)
  | (with_unfolding_all refine nmB (by rfl) (by rfl) (by boot_by_name) (by rfl) (by rfl) (by decide) (by decide) (by rfl) (by first | with_reducible assumption | exact Wd.keeps (by with_reducible assumption) (Fr.keep (by with_reducible assumption))) ?_))
local macro_rules | `(tactic| walk_at "loadName") => `(tactic| (with_unfolding_all refine nmLd (by rfl) (by rfl) (by first | with_reducible assumption | exact Fr.ns (by with_reducible assumption)) (by rfl) (by first | rfl | assumption) ?_))
local macro_rules | `(tactic| walk_at "callWith ref") => `(tactic| (with_unfolding_all refine callF (by first | with_reducible assumption | exact Wd.keeps (by with_reducible assumption) (Fr.keep (by with_reducible assumption))) (by rfl) ?_ (by rfl) (by rfl)))
local macro_rules | `(tactic| walk_at "And") => `(tactic| ((with_reducible show Frag.In _ _ ∧ _); refine ⟨by first | exact (Wd.X (by with_reducible assumption)) | exact Wd.X (Wd.keeps (by with_reducible assumption) (Fr.keep (by with_reducible assumption))), ?_⟩; try dsimp only [List.nil_append, List.cons_append]))
local macro_rules | `(tactic| walk_at "mW") => `(tactic| repeat ((fail_if_success (with_reducible show wpAny _ _ (exec (Stmt.For _ _ _ _ _) _) _ _ _)); (fail_if_success (with_reducible show wpAny _ _ (execs (Stmt.Assign _ (Expr.List [] _) _ :: Stmt.For _ _ _ _ _ :: _) _) _ _ _)); (fail_if_success (with_reducible show wpAny _ _ (subscriptTail _ _ (Value.ref _) (Value.int _ _)) _ _ _)); (fail_if_success (with_reducible show wpAny _ _ (subscriptTail _ _ (Value.bytes _ _) (Value.int _ _)) _ _ _)); (fail_if_success (with_reducible show wpAny _ _ (setItem _ _ _) _ _ _)); (fail_if_success (with_reducible show wpAny _ _ (call (Value.type "bytes") _ _) _ _ _)); (fail_if_success (with_reducible show wpAny _ _ (call (Value.builtin "list.append") _ _) _ _ _)); (fail_if_success (with_reducible show Exists _)); (fail_if_success (with_reducible show wpAny _ _ (eval (Expr.ListComp _ _ _ _) _) _ _ _)); (fail_if_success (with_reducible show wpAny _ _ (eval (Expr.DictComp _ _ _ _ _) _) _ _ _)); (fail_if_success (with_reducible show wpAny _ _ (binaryOp _ (Value.ref _) (Value.ref _)) _ _ _)); walk1))
local macro_rules | `(tactic| walk_at "binaryOp Mult int int") => `(tactic| with_reducible refine mul_int ?_ (by with_reducible assumption))
local macro_rules | `(tactic| walk_at "binaryOp Pow int int") => `(tactic| with_reducible refine pow_int_small (by with_reducible assumption) (by with_reducible assumption) (by with_reducible assumption) ?_)

section
variable {w : World} {A : Around} {E : Value → Shared → Prop} {s : Shared}

local macro_rules | `(tactic| walk_at "eval Name") => `(tactic| first
  | (with_unfolding_all refine nmL (by rfl) (by rfl) (by decide) (by first | with_reducible assumption | exact Fr.ns (by with_reducible assumption)) (by rfl) (by first | with_reducible assumption | rfl | assumption) ?_)
  | (with_unfolding_all refine nmC (by rfl) (by rfl) (by decide) (by rfl) (by first | with_reducible assumption | assumption) ?_)
  | (with_unfolding_all refine nmG (by rfl) (by rfl) (by rfl) (by decide) (by rfl) (by first | with_reducible assumption | exact Wd.keeps (by with_reducible assumption) (Fr.keep (by with_reducible assumption))) ?_)
  | (with_unfolding_all refine nmB (by rfl) (by rfl) (by boot_by_name) (by rfl) (by rfl) (by decide) (by decide) (by rfl) (by first | with_reducible assumption | exact Wd.keeps (by with_reducible assumption) (Fr.keep (by with_reducible assumption))) ?_))
local macro_rules | `(tactic| walk_at "mL") => `(tactic| repeat ((fail_if_success (with_reducible show wpAny _ _ (execs (Stmt.For _ _ _ _ _ :: _) _) _ _ _)); (fail_if_success (with_reducible show wpAny _ _ (exec (Stmt.For _ _ _ _ _) _) _ _ _)); (fail_if_success (with_reducible show wpAny _ _ (execs (Stmt.Assign _ (Expr.List [] _) _ :: Stmt.For _ _ _ _ _ :: _) _) _ _ _)); (fail_if_success (with_reducible show wpAny _ _ (subscriptTail _ _ (Value.ref _) (Value.int _ _)) _ _ _)); (fail_if_success (with_reducible show wpAny _ _ (subscriptTail _ _ (Value.bytes _ _) (Value.int _ _)) _ _ _)); (fail_if_success (with_reducible show wpAny _ _ (setItem _ _ _) _ _ _)); (fail_if_success (with_reducible show wpAny _ _ (call (Value.type "bytes") _ _) _ _ _)); (fail_if_success (with_reducible show wpAny _ _ (call (Value.builtin "list.append") _ _) _ _ _)); (fail_if_success (with_reducible show Exists _)); (fail_if_success (with_reducible show wpAny _ _ (eval (Expr.ListComp _ _ _ _) _) _ _ _)); (fail_if_success (with_reducible show wpAny _ _ (eval (Expr.DictComp _ _ _ _ _) _) _ _ _)); (fail_if_success (with_reducible show wpAny _ _ (binaryOp _ (Value.ref _) (Value.ref _)) _ _ _)); walk1))

theorem keep_nz (u : List (Int × Int)) : ∀ acc : List (Int × Int), Nd (acc ++ u) → u.foldl (fun acc p => if p.2 ≠ 0 then put acc p.1 p.2 else acc) acc = acc ++ u.filter (fun p => decide (p.2 ≠ 0)) := by
  induction u with
  | nil => intro acc _; simp
  | cons p u ih =>
    intro acc h
    have hp : p.1 ∉ acc.map (·.1) := by
      unfold Nd at h
      rw [List.map_append, List.nodup_append] at h
      exact fun hm => h.2.2 p.1 hm p.1 (by simp) rfl
    have h' : Nd ((acc ++ [(p.1, p.2)]) ++ u) := by simpa [Nd] using h
    have h2 : Nd (acc ++ u) := by
      unfold Nd at h ⊢
      refine List.Sublist.nodup (List.Sublist.map _ ?_) h
      exact List.Sublist.append_left (List.sublist_cons_self _ _) _
    rw [List.foldl_cons]
    by_cases hz : p.2 = 0
    · rw [if_neg (by simpa using hz), ih acc h2]; simp [hz]
    · rw [if_pos hz, put_absent hp, ih _ h']; simp [hz]
theorem nd_filter {t : List (Int × Int)} (h : Nd t) (f : Int × Int → Bool) : Nd (t.filter f) := List.Sublist.nodup (List.Sublist.map _ List.filter_sublist) h
theorem nd_nodup {t : List (Int × Int)} (h : Nd t) : t.Nodup := by
  induction t with
  | nil => exact List.nodup_nil
  | cons p t ih =>
    unfold Nd at h
    rw [List.map_cons] at h
    obtain ⟨h1, h2⟩ := List.nodup_cons.mp h
    exact List.nodup_cons.mpr ⟨fun e => h1 (List.mem_map_of_mem e), ih h2⟩
theorem lk_iff {t : List (Int × Int)} (h : Nd t) (k x : Int) : lk t k = some x ↔ (k, x) ∈ t := by
  induction t with
  | nil => simp [lk]
  | cons p t ih =>
    unfold Nd at h
    rw [List.map_cons] at h
    obtain ⟨h1, h2⟩ := List.nodup_cons.mp h
    have ih := ih h2
    unfold lk at ih ⊢
    rw [List.find?_cons]
    by_cases e : p.1 = k
    · simp only [e, decide_true, Option.map_some, Option.some.injEq]
      constructor
      · intro hx; rw [← hx, ← e]; exact .head _
      · intro hm
        rcases List.mem_cons.mp hm with hm | hm
        · rw [← hm]
        · exact absurd (List.mem_map_of_mem (f := (·.1)) hm) (by rw [← e] at *; exact h1)
    · simp only [e, decide_false]
      rw [ih]
      constructor
      · exact .tail _
      · intro hm
        rcases List.mem_cons.mp hm with hm | hm
        · exact absurd (by rw [← hm]) e
        · exact hm
theorem same_mem {t u : List (Int × Int)} (ht : Nd t) (hu : Nd u) (h : ∀ k, (lk t k).getD 0 = (lk u k).getD 0) (p : Int × Int) (hp : p ∈ t.filter (fun p => decide (p.2 ≠ 0))) : p ∈ u.filter (fun p => decide (p.2 ≠ 0)) := by
  obtain ⟨h1, h2⟩ := List.mem_filter.mp hp
  have h2 : p.2 ≠ 0 := by simpa using h2
  have e := h p.1
  rw [(lk_iff ht p.1 p.2).mpr h1] at e
  cases hx : lk u p.1 with
  | none => rw [hx] at e; exact absurd e h2
  | some y =>
    rw [hx] at e
    have e : p.2 = y := e
    rw [← e] at hx
    exact List.mem_filter.mpr ⟨(lk_iff hu p.1 p.2).mp hx, by simpa using h2⟩
theorem same_tabs {t u : List (Int × Int)} (ht : Nd t) (hu : Nd u) (h : ∀ k, (lk t k).getD 0 = (lk u k).getD 0) :
    (t.filter (fun p => decide (p.2 ≠ 0))).length = (u.filter (fun p => decide (p.2 ≠ 0))).length ∧ ∀ p ∈ t.filter (fun p => decide (p.2 ≠ 0)), lk (u.filter (fun p => decide (p.2 ≠ 0))) p.1 = some p.2 := by
  refine ⟨?_, fun p hp => (lk_iff (nd_filter hu _) p.1 p.2).mpr (same_mem ht hu h p hp)⟩
  exact ((List.perm_ext_iff_of_nodup (nd_nodup (nd_filter ht _)) (nd_nodup (nd_filter hu _))).mpr fun p => ⟨same_mem ht hu h p, same_mem hu ht (fun k => (h k).symm) p⟩).length_eq
def nz (t : List (Int × Int)) : List (Int × Int) := dcomp (fun _ b => decide (b ≠ 0)) (fun a _ => a) (fun _ b => b) t
theorem nz_eq {t : List (Int × Int)} (h : Nd t) : nz t = t.filter (fun p => decide (p.2 ≠ 0)) := by
  have e := keep_nz t [] (by simpa using h)
  simpa [nz, dcomp] using e
theorem told_eq {t : List (Int × Int)} (h : Nd (t.map fun p => (revKey p.1, p.2))) : toldOf t = (t.map fun p => (revKey p.1, p.2)).filter (fun p => decide (p.2 ≠ 0)) := by
  have e := keep_nz (t.map fun p => (revKey p.1, p.2)) [] (by simpa using h)
  rw [List.foldl_map] at e
  simpa [toldOf] using e
theorem told_due {a b c : Nat} {q : Int} (f : LawFacts a b c q) : (toldOf (tabOf a b c q)).length = (nz (dueOf a b c q (gRows q (a + b + c)))).length ∧ ∀ p ∈ toldOf (tabOf a b c q), lk (nz (dueOf a b c q (gRows q (a + b + c)))) p.1 = some p.2 := by
  rw [told_eq f.ndr, nz_eq f.ndd]
  exact same_tabs f.ndr f.ndd f.same
theorem TbR.hits {kb : List (Int × Value)} {tb : List (Int × Int)} (hb : TbR kb tb) {ka : List (Int × Value)} {ta : List (Int × Int)} (ha : TbR ka ta) : (∀ p ∈ ta, lk tb p.1 = some p.2) → KeqHits A s kb ka true := by
  induction ha with
  | nil => intro _; exact .nil
  | @cons k x tk kvs t _ ih =>
    intro h
    rcases hb.valueAt k with ⟨h1, _⟩ | ⟨y, tk', h1, h2⟩
    · rw [h (k, x) (.head _)] at h1; exact nomatch h1
    · have e : some x = some y := (h (k, x) (.head _)).symm.trans h1
      injection e with e
      subst e
      have z : KeqHits A s kb ((k, .int x tk) :: kvs) ((x == x) && true) := .hit h2 (SeqAt.EqAt.int_int x tk x tk') (ih fun p hp => h p (.tail _ hp))
      rw [beq_self_eq_true] at z
      exact z
theorem tb_ne {k : Nat} {a b : Addr} {ta tb : List (Int × Int)} {Q : Value → Shared → Prop} (R : Rm k A) (Ia : IsTb w s.heap a ta) (Ib : IsTb w s.heap b tb) (hl : ta.length = tb.length) (hall : ∀ p ∈ ta, lk tb p.1 = some p.2) (h : Q (.bool false) s) :
    wpAny (model PG w) A (compareOp .NotEq (.ref a) (.ref b)) Q E s := by
  obtain ⟨ka, da, ra, la⟩ := Ia
  obtain ⟨kb, db, rb, lb⟩ := Ib
  refine keq_ne (r := true) la lb da db R.units (fun _ => rb.hits ra hall) ?_
  rw [ra.length, rb.length, hl, beq_self_eq_true]; exact h

end
end Mine

end

section
open PySem PySem.W PySem.Calls PyProof.Rows
set_option Elab.async false
set_option maxRecDepth 100000
set_option maxHeartbeats 400000
namespace Mine
theorem fresh_L3 : True := by
  w_top off
  trivial
local macro_rules | `(tactic| walk_at "none of these") => `(tactic| skip)
local macro_rules | `(tactic| walk_at "eval Name") => `(tactic| first
  | (with_unfolding_all refine nmL (by rfl) (by rfl) (by decide) (by first | with_reducible assumption | exact Fr.ns (by with_reducible assumption)) (by rfl) (by first | rfl | assumption) ?_)
  | (with_unfolding_all refine nmC (by rfl) (by rfl) (by decide) (by rfl) (by first | with_reducible assumption | assumption) ?_)
  | (with_unfolding_all refine nmG (by rfl) (by rfl) (by rfl) (by decide) (by rfl) (by first | with_reducible assumption | exact Wd.keeps (by with_reducible assumption) (Fr.keep (by with_reducible assumption))) ?_)
  | (with_unfolding_all refine nmB (by rfl) (by rfl) (by boot_by_name) (by rfl) (by rfl) (by decide) (by decide) (by rfl) (by first | with_reducible assumption | exact Wd.keeps (by with_reducible assumption) (Fr.keep (by with_reducible assumption))) ?_))
local macro_rules | `(tactic| walk_at "loadName") => `(tactic| (with_unfolding_all refine nmLd (by rfl) (by rfl) (by first | with_reducible assumption | exact Fr.ns (by with_reducible assumption)) (by rfl) (by first | rfl | assumption) ?_))
local macro_rules | `(tactic| walk_at "callWith ref") => `(tactic| (with_unfolding_all refine callF (by first | with_reducible assumption | exact Wd.keeps (by with_reducible assumption) (Fr.keep (by with_reducible assumption))) (by rfl) ?_ (by rfl) (by rfl)))
local macro_rules | `(tactic| walk_at "And") => `(tactic| ((with_reducible show Frag.In _ _ ∧ _); refine ⟨by first | exact (Wd.X (by with_reducible assumption)) | exact Wd.X (Wd.keeps (by with_reducible assumption) (Fr.keep (by with_reducible assumption))), ?_⟩; try dsimp only [List.nil_append, List.cons_append]))
local macro_rules | `(tactic| walk_at "mW") => `(tactic| repeat ((fail_if_success (with_reducible show wpAny _ _ (exec (Stmt.For _ _ _ _ _) _) _ _ _)); (fail_if_success (with_reducible show wpAny _ _ (execs (Stmt.Assign _ (Expr.List [] _) _ :: Stmt.For _ _ _ _ _ :: _) _) _ _ _)); (fail_if_success (with_reducible show wpAny _ _ (subscriptTail _ _ (Value.ref _) (Value.int _ _)) _ _ _)); (fail_if_success (with_reducible show wpAny _ _ (subscriptTail _ _ (Value.bytes _ _) (Value.int _ _)) _ _ _)); (fail_if_success (with_reducible show wpAny _ _ (setItem _ _ _) _ _ _)); (fail_if_success (with_reducible show wpAny _ _ (call (Value.type "bytes") _ _) _ _ _)); (fail_if_success (with_reducible show wpAny _ _ (call (Value.builtin "list.append") _ _) _ _ _)); (fail_if_success (with_reducible show Exists _)); (fail_if_success (with_reducible show wpAny _ _ (eval (Expr.ListComp _ _ _ _) _) _ _ _)); (fail_if_success (with_reducible show wpAny _ _ (eval (Expr.DictComp _ _ _ _ _) _) _ _ _)); (fail_if_success (with_reducible show wpAny _ _ (binaryOp _ (Value.ref _) (Value.ref _)) _ _ _)); walk1))
local macro_rules | `(tactic| walk_at "binaryOp Mult int int") => `(tactic| with_reducible refine mul_int ?_ (by with_reducible assumption))
local macro_rules | `(tactic| walk_at "binaryOp Pow int int") => `(tactic| with_reducible refine pow_int_small (by with_reducible assumption) (by with_reducible assumption) (by with_reducible assumption) ?_)

section
variable {w : World} {A : Around} {E : Value → Shared → Prop} {s : Shared}

local macro_rules | `(tactic| walk_at "eval Name") => `(tactic| first
  | (with_unfolding_all refine nmL (by rfl) (by rfl) (by decide) (by first | with_reducible assumption | exact Fr.ns (by with_reducible assumption)) (by rfl) (by first | with_reducible assumption | rfl | assumption) ?_)
  | (with_unfolding_all refine nmC (by rfl) (by rfl) (by decide) (by rfl) (by first | with_reducible assumption | assumption) ?_)
  | (with_unfolding_all refine nmG (by rfl) (by rfl) (by rfl) (by decide) (by rfl) (by first | with_reducible assumption | exact Wd.keeps (by with_reducible assumption) (Fr.keep (by with_reducible assumption))) ?_)
  | (with_unfolding_all refine nmB (by rfl) (by rfl) (by boot_by_name) (by rfl) (by rfl) (by decide) (by decide) (by rfl) (by first | with_reducible assumption | exact Wd.keeps (by with_reducible assumption) (Fr.keep (by with_reducible assumption))) ?_))
local macro_rules | `(tactic| walk_at "mL") => `(tactic| repeat ((fail_if_success (with_reducible show wpAny _ _ (execs (Stmt.For _ _ _ _ _ :: _) _) _ _ _)); (fail_if_success (with_reducible show wpAny _ _ (exec (Stmt.For _ _ _ _ _) _) _ _ _)); (fail_if_success (with_reducible show wpAny _ _ (execs (Stmt.Assign _ (Expr.List [] _) _ :: Stmt.For _ _ _ _ _ :: _) _) _ _ _)); (fail_if_success (with_reducible show wpAny _ _ (subscriptTail _ _ (Value.ref _) (Value.int _ _)) _ _ _)); (fail_if_success (with_reducible show wpAny _ _ (subscriptTail _ _ (Value.bytes _ _) (Value.int _ _)) _ _ _)); (fail_if_success (with_reducible show wpAny _ _ (setItem _ _ _) _ _ _)); (fail_if_success (with_reducible show wpAny _ _ (call (Value.type "bytes") _ _) _ _ _)); (fail_if_success (with_reducible show wpAny _ _ (call (Value.builtin "list.append") _ _) _ _ _)); (fail_if_success (with_reducible show Exists _)); (fail_if_success (with_reducible show wpAny _ _ (eval (Expr.ListComp _ _ _ _) _) _ _ _)); (fail_if_success (with_reducible show wpAny _ _ (eval (Expr.DictComp _ _ _ _ _) _) _ _ _)); (fail_if_success (with_reducible show wpAny _ _ (binaryOp _ (Value.ref _) (Value.ref _)) _ _ _)); walk1))
local macro_rules | `(tactic| walk_at "mE") => `(tactic| repeat ((fail_if_success (with_reducible show wpAny _ _ (execs (_ :: _) _) _ _ _)); (fail_if_success (with_reducible show wpAny _ _ (exec (Stmt.For _ _ _ _ _) _) _ _ _)); (fail_if_success (with_reducible show wpAny _ _ (execs (Stmt.Assign _ (Expr.List [] _) _ :: Stmt.For _ _ _ _ _ :: _) _) _ _ _)); (fail_if_success (with_reducible show wpAny _ _ (subscriptTail _ _ (Value.ref _) (Value.int _ _)) _ _ _)); (fail_if_success (with_reducible show wpAny _ _ (subscriptTail _ _ (Value.bytes _ _) (Value.int _ _)) _ _ _)); (fail_if_success (with_reducible show wpAny _ _ (setItem _ _ _) _ _ _)); (fail_if_success (with_reducible show wpAny _ _ (call (Value.type "bytes") _ _) _ _ _)); (fail_if_success (with_reducible show wpAny _ _ (call (Value.builtin "list.append") _ _) _ _ _)); (fail_if_success (with_reducible show Exists _)); (fail_if_success (with_reducible show wpAny _ _ (eval (Expr.ListComp _ _ _ _) _) _ _ _)); (fail_if_success (with_reducible show wpAny _ _ (eval (Expr.DictComp _ _ _ _ _) _) _ _ _)); (fail_if_success (with_reducible show wpAny _ _ (binaryOp _ (Value.ref _) (Value.ref _)) _ _ _)); walk1))

theorem law_18 {h₀ : Heap} {L T T1 T2 : Addr} {cd : Value} {m : Str → Option Value} {news : List (Addr × Obj)} {a b c : Nat} {q : Int} {ta tb tc tq : Tok} {t told due : List (Int × Int)} {Q : Flow → Shared → Prop} (R : Rm 3 A) (W : Wd w h₀) (F : Fr h₀ L s.heap m) (N : News h₀ L s.heap news) (hT : TbN w news T t) (hT1 : TbN w news T1 told) (hT2 : TbN w news T2 due)
    (m1 : m (Str.ofString "a") = some (.int a ta)) (m2 : m (Str.ofString "b") = some (.int b tb)) (m3 : m (Str.ofString "c") = some (.int c tc)) (m4 : m (Str.ofString "q") = some (.int q tq)) (m5 : m (Str.ofString "table") = some (.ref T))
    (m6 : m (Str.ofString "told") = some (.ref T1)) (m7 : m (Str.ofString "due") = some (.ref T2))
    (hc : c ≤ 2) (hq : -50 ≤ q ∧ q ≤ 50) (hcount : countC t = wholeOf a b c q) (hdue : due.length ≤ 1000000) (hl : told.length = (nz due).length) (hall : ∀ p ∈ told, lk (nz due) p.1 = some p.2)
    (hQ : ∀ h' tk, (∀ b o, h₀.get? b = some o → h'.get? b = some o) → Q (.ret (.bool true)) { s with heap := h', toks := tk }) :
    wpAny (model PG w) A (execs (lawBody.drop 18) (lenv L cd)) Q (fun _ _ => False) s := by
  have I1 : IsTb w s.heap T1 told := hT1.isTb N
  have I2 : IsTb w s.heap T2 due := hT2.isTb N
  have W₁ : Wd w s.heap := W.keeps F.keep
  conv in List.drop _ _ => whnf
  refine wpAny_execs_cons ?_
  walk_at "mL"
  refine dict_comp (t := due) (d := T2) (cl := []) (fun _ b => decide (b ≠ 0)) (fun a _ => a) (fun _ b => b)
    R.hh I2 hdue ?_ ?_ ?_ ?_ ?_ ?_ ?_ ?_ ?_ ?_ ?_ ?_ ?_ ?_
  · rfl
  · rfl
  · intro Q' hQ'
    exact nmL (by rfl) (by rfl) (by decide) F.ns (by rfl) m7 hQ'
  · rfl
  · decide
  · rfl
  · decide
  · rfl
  · rfl
  · decide
  · intro C a b tka tkb s₃ m₃ _ hn hm1 hm2 hk
    have W₃ : Wd w s₃.heap := W₁.keeps hk
    rw [List.forIn_cons]
    refine wpAny_bind ?_
    show wpAny _ _ (PySem.isTrue _ _ _ >>= _) _ _ _
    refine wpAny_bind ?_
    have hb : (b != 0) = decide (b ≠ 0) := by by_cases h : b = 0 <;> simp [h]
    walk_at "mL"
    exact wpAny_pure (wpAny_pure ⟨hb, ⟨_, _, rfl, fun _ _ e => e⟩⟩)
  · intro C a b tka tkb s₃ m₃ _ _ hn hm1 hm2 hk
    exact nmL (by rfl) (by rfl) (by decide) hn (by rfl) hm1 ⟨⟨_, rfl⟩, keeps_refl _⟩
  · intro C a b tka tkb s₃ m₃ _ _ hn hm1 hm2 hk
    exact nmL (by rfl) (by rfl) (by decide) hn (by rfl) hm2 ⟨⟨_, rfl⟩, keeps_refl _⟩
  · intro r s' hk hr hTr
    obtain ⟨h₂, tk₂, rfl, k₂⟩ := hk
    refine tb_ne R (I1.keeps k₂) hTr hl hall ?_
    have F₂ : Fr h₀ L h₂ m := Fr.after F k₂
    have N₂ : News h₀ L h₂ news := News.keepsAll N k₂
    walk_at "mE"
    exact law_19 (s := { s with heap := h₂, toks := _ }) R W F₂ N₂ hT m1 m2 m3 m4 m5 hc hq hcount hQ

end
end Mine

end

section
open PySem PySem.W PySem.Calls PyProof.Rows
set_option Elab.async false
set_option maxRecDepth 100000
set_option maxHeartbeats 400000
namespace Mine
theorem fresh_L4 : True := by
  w_top off
  trivial
local macro_rules | `(tactic| walk_at "eval Name") => `(tactic| first
  | (with_unfolding_all refine nmL (by rfl) (by rfl) (by decide) (by first | with_reducible assumption | exact Fr.ns (by with_reducible assumption)) (by rfl) (by first | rfl | assumption) ?_)
  | (with_unfolding_all refine nmC (by rfl) (by rfl) (by decide) (by rfl) (by first | with_reducible assumption | assumption) ?_)
  | (with_unfolding_all refine nmG (by rfl) (by rfl) (by rfl) (by decide) (by rfl) (by first | with_reducible assumption | exact Wd.keeps (by with_reducible assumption) (Fr.keep (by with_reducible assumption))) ?_)
  | (with_unfolding_all refine nmB (by rfl) (by rfl) (by boot_by_name) (by rfl) (by rfl) (by decide) (by decide) (by rfl) (by first | with_reducible assumption | exact Wd.keeps (by with_reducible assumption) (Fr.keep (by with_reducible assumption))) ?_))
local macro_rules | `(tactic| walk_at "loadName") => `(tactic| (with_unfolding_all refine nmLd (by rfl) (by rfl) (by first | with_reducible assumption | exact Fr.ns (by with_reducible assumption)) (by rfl) (by first | rfl | assumption) ?_))
local macro_rules | `(tactic| walk_at "callWith ref") => `(tactic| (with_unfolding_all refine callF (by first | with_reducible assumption | exact Wd.keeps (by with_reducible assumption) (Fr.keep (by with_reducible assumption))) (by rfl) ?_ (by rfl) (by rfl)))
local macro_rules | `(tactic| walk_at "And") => `(tactic| ((with_reducible show Frag.In _ _ ∧ _); refine ⟨by first | exact (Wd.X (by with_reducible assumption)) | exact Wd.X (Wd.keeps (by with_reducible assumption) (Fr.keep (by with_reducible assumption))), ?_⟩; try dsimp only [List.nil_append, List.cons_append]))
local macro_rules | `(tactic| walk_at "mW") => `(tactic| repeat ((fail_if_success (with_reducible show wpAny _ _ (exec (Stmt.For _ _ _ _ _) _) _ _ _)); (fail_if_success (with_reducible show wpAny _ _ (execs (Stmt.Assign _ (Expr.List [] _) _ :: Stmt.For _ _ _ _ _ :: _) _) _ _ _)); (fail_if_success (with_reducible show wpAny _ _ (subscriptTail _ _ (Value.ref _) (Value.int _ _)) _ _ _)); (fail_if_success (with_reducible show wpAny _ _ (subscriptTail _ _ (Value.bytes _ _) (Value.int _ _)) _ _ _)); (fail_if_success (with_reducible show wpAny _ _ (setItem _ _ _) _ _ _)); (fail_if_success (with_reducible show wpAny _ _ (call (Value.type "bytes") _ _) _ _ _)); (fail_if_success (with_reducible show wpAny _ _ (call (Value.builtin "list.append") _ _) _ _ _)); (fail_if_success (with_reducible show Exists _)); (fail_if_success (with_reducible show wpAny _ _ (eval (Expr.ListComp _ _ _ _) _) _ _ _)); (fail_if_success (with_reducible show wpAny _ _ (eval (Expr.DictComp _ _ _ _ _) _) _ _ _)); (fail_if_success (with_reducible show wpAny _ _ (binaryOp _ (Value.ref _) (Value.ref _)) _ _ _)); walk1))
local macro_rules | `(tactic| walk_at "binaryOp Mult int int") => `(tactic| with_reducible refine mul_int ?_ (by with_reducible assumption))
local macro_rules | `(tactic| walk_at "binaryOp Pow int int") => `(tactic| with_reducible refine pow_int_small (by with_reducible assumption) (by with_reducible assumption) (by with_reducible assumption) ?_)

section
variable {w : World} {A : Around} {E : Value → Shared → Prop} {s : Shared}

local macro_rules | `(tactic| walk_at "eval Name") => `(tactic| first
  | (with_unfolding_all refine nmL (by rfl) (by rfl) (by decide) (by first | with_reducible assumption | exact Fr.ns (by with_reducible assumption)) (by rfl) (by first | with_reducible assumption | rfl | assumption) ?_)
  | (with_unfolding_all refine nmC (by rfl) (by rfl) (by decide) (by rfl) (by first | with_reducible assumption | assumption) ?_)
  | (with_unfolding_all refine nmG (by rfl) (by rfl) (by rfl) (by decide) (by rfl) (by first | with_reducible assumption | exact Wd.keeps (by with_reducible assumption) (Fr.keep (by with_reducible assumption))) ?_)
  | (with_unfolding_all refine nmB (by rfl) (by rfl) (by boot_by_name) (by rfl) (by rfl) (by decide) (by decide) (by rfl) (by first | with_reducible assumption | exact Wd.keeps (by with_reducible assumption) (Fr.keep (by with_reducible assumption))) ?_))
local macro_rules | `(tactic| walk_at "mL") => `(tactic| repeat ((fail_if_success (with_reducible show wpAny _ _ (execs (Stmt.For _ _ _ _ _ :: _) _) _ _ _)); (fail_if_success (with_reducible show wpAny _ _ (exec (Stmt.For _ _ _ _ _) _) _ _ _)); (fail_if_success (with_reducible show wpAny _ _ (execs (Stmt.Assign _ (Expr.List [] _) _ :: Stmt.For _ _ _ _ _ :: _) _) _ _ _)); (fail_if_success (with_reducible show wpAny _ _ (subscriptTail _ _ (Value.ref _) (Value.int _ _)) _ _ _)); (fail_if_success (with_reducible show wpAny _ _ (subscriptTail _ _ (Value.bytes _ _) (Value.int _ _)) _ _ _)); (fail_if_success (with_reducible show wpAny _ _ (setItem _ _ _) _ _ _)); (fail_if_success (with_reducible show wpAny _ _ (call (Value.type "bytes") _ _) _ _ _)); (fail_if_success (with_reducible show wpAny _ _ (call (Value.builtin "list.append") _ _) _ _ _)); (fail_if_success (with_reducible show Exists _)); (fail_if_success (with_reducible show wpAny _ _ (eval (Expr.ListComp _ _ _ _) _) _ _ _)); (fail_if_success (with_reducible show wpAny _ _ (eval (Expr.DictComp _ _ _ _ _) _) _ _ _)); (fail_if_success (with_reducible show wpAny _ _ (binaryOp _ (Value.ref _) (Value.ref _)) _ _ _)); walk1))
local macro_rules | `(tactic| walk_at "mE") => `(tactic| repeat ((fail_if_success (with_reducible show wpAny _ _ (execs (_ :: _) _) _ _ _)); (fail_if_success (with_reducible show wpAny _ _ (exec (Stmt.For _ _ _ _ _) _) _ _ _)); (fail_if_success (with_reducible show wpAny _ _ (execs (Stmt.Assign _ (Expr.List [] _) _ :: Stmt.For _ _ _ _ _ :: _) _) _ _ _)); (fail_if_success (with_reducible show wpAny _ _ (subscriptTail _ _ (Value.ref _) (Value.int _ _)) _ _ _)); (fail_if_success (with_reducible show wpAny _ _ (subscriptTail _ _ (Value.bytes _ _) (Value.int _ _)) _ _ _)); (fail_if_success (with_reducible show wpAny _ _ (setItem _ _ _) _ _ _)); (fail_if_success (with_reducible show wpAny _ _ (call (Value.type "bytes") _ _) _ _ _)); (fail_if_success (with_reducible show wpAny _ _ (call (Value.builtin "list.append") _ _) _ _ _)); (fail_if_success (with_reducible show Exists _)); (fail_if_success (with_reducible show wpAny _ _ (eval (Expr.ListComp _ _ _ _) _) _ _ _)); (fail_if_success (with_reducible show wpAny _ _ (eval (Expr.DictComp _ _ _ _ _) _) _ _ _)); (fail_if_success (with_reducible show wpAny _ _ (binaryOp _ (Value.ref _) (Value.ref _)) _ _ _)); walk1))

structure Ms (m : Str → Option Value) (a b c : Nat) (q : Int) (T g : Addr) : Prop where
  a : ∃ t, m (Str.ofString "a") = some (.int a t)
  b : ∃ t, m (Str.ofString "b") = some (.int b t)
  c : ∃ t, m (Str.ofString "c") = some (.int c t)
  q : ∃ t, m (Str.ofString "q") = some (.int q t)
  home : ∃ t, m (Str.ofString "home") = some (.int home t)
  table : m (Str.ofString "table") = some (.ref T)
  gauss : m (Str.ofString "gauss") = some (.ref g)
def msNames : List Str := ["a", "b", "c", "q", "home", "table", "gauss"].map Str.ofString
theorem Ms.set {m : Str → Option Value} {a b c : Nat} {q : Int} {T g : Addr} (h : Ms m a b c q T g) (x : Str) (v : Option Value) (hx : x ∉ msNames) : Ms (fun y => if y = x then v else m y) a b c q T g := by
  have e : ∀ y ∈ msNames, (if y = x then v else m y) = m y := fun y hy => if_neg fun (e : y = x) => hx (by rw [← e]; exact hy)
  have z : ∀ y : String, y ∈ ["a", "b", "c", "q", "home", "table", "gauss"] → (if Str.ofString y = x then v else m (Str.ofString y)) = m (Str.ofString y) := fun y hy => e _ (List.mem_map_of_mem hy)
  exact ⟨by rw [z _ (by simp)]; exact h.a, by rw [z _ (by simp)]; exact h.b, by rw [z _ (by simp)]; exact h.c, by rw [z _ (by simp)]; exact h.q, by rw [z _ (by simp)]; exact h.home, by rw [z _ (by simp)]; exact h.table, by rw [z _ (by simp)]; exact h.gauss⟩
def GaussIn (news : List (Addr × Obj)) (g : Addr) (rows : List (List Int)) : Prop := ∃ n, ∃ rs : List (Addr × Obj), (g, PySem.W.listOf (rs.map fun x => Value.ref x.1).toArray n) ∈ news ∧ (∀ x ∈ rs, x ∈ news) ∧ RowObjs rs rows
theorem GaussIn.mono {news news' : List (Addr × Obj)} {g : Addr} {rows} (x : GaussIn news g rows) (h : ∀ p ∈ news, p ∈ news') : GaussIn news' g rows := let ⟨n, rs, h1, h2, h3⟩ := x; ⟨n, rs, h _ h1, fun p hp => h _ (h2 p hp), h3⟩
theorem GaussIn.at {h₀ h : Heap} {L : Addr} {news : List (Addr × Obj)} {g : Addr} {rows} (x : GaussIn news g rows) (N : News h₀ L h news) : RowsAt h g rows := by
  obtain ⟨n, rs, h1, h2, h3, h4⟩ := x
  refine ⟨rs.map fun x => Value.ref x.1, ⟨_, (N _ h1).1, rfl, ?_⟩, by simp [h3], fun i r hr => ?_⟩
  · exact ⟨_, rfl⟩
  · obtain ⟨y, hy⟩ : ∃ y, rs[i]? = some y := ⟨rs[i]'(by rw [h3]; exact (List.getElem?_eq_some_iff.mp hr).1), List.getElem?_eq_getElem _⟩
    obtain ⟨r', hr', ho⟩ := h4 i y hy
    have e : r' = r := Option.some.inj (hr'.symm.trans hr)
    subst e
    obtain ⟨vs, k, e, hi⟩ := ho
    exact ⟨y.1, vs, by simp [hy], ⟨_, (N _ (h2 y (List.mem_of_getElem? hy))).1, by rw [e], by rw [e]; exact ⟨_, rfl⟩⟩, hi⟩

end
end Mine

end

section
open PySem PySem.W PySem.Calls PyProof.Rows
set_option Elab.async false
set_option maxRecDepth 100000
set_option maxHeartbeats 400000
namespace Mine
theorem fresh_L5 : True := by
  w_top off
  trivial
local macro_rules | `(tactic| walk_at "none of these") => `(tactic| skip)
local macro_rules | `(tactic| walk_at "eval Name") => `(tactic| first
  | (with_unfolding_all refine nmL (by rfl) (by rfl) (by decide) (by first | with_reducible assumption | exact Fr.ns (by with_reducible assumption)) (by rfl) (by first | rfl | assumption) ?_)
  | (with_unfolding_all refine nmC (by rfl) (by rfl) (by decide) (by rfl) (by first | with_reducible assumption | assumption) ?_)
  | (with_unfolding_all refine nmG (by rfl) (by rfl) (by rfl) (by decide) (by rfl) (by first | with_reducible assumption | exact Wd.keeps (by with_reducible assumption) (Fr.keep (by with_reducible assumption))) ?_)
  | (with_unfolding_all refine nmB (by rfl) (by rfl) (by boot_by_name) (by rfl) (by rfl) (by decide) (by decide) (by rfl) (by first | with_reducible assumption | exact Wd.keeps (by with_reducible assumption) (Fr.keep (by with_reducible assumption))) ?_))
local macro_rules | `(tactic| walk_at "loadName") => `(tactic| (with_unfolding_all refine nmLd (by rfl) (by rfl) (by first | with_reducible assumption | exact Fr.ns (by with_reducible assumption)) (by rfl) (by first | rfl | assumption) ?_))
local macro_rules | `(tactic| walk_at "callWith ref") => `(tactic| (with_unfolding_all refine callF (by first | with_reducible assumption | exact Wd.keeps (by with_reducible assumption) (Fr.keep (by with_reducible assumption))) (by rfl) ?_ (by rfl) (by rfl)))
local macro_rules | `(tactic| walk_at "And") => `(tactic| ((with_reducible show Frag.In _ _ ∧ _); refine ⟨by first | exact (Wd.X (by with_reducible assumption)) | exact Wd.X (Wd.keeps (by with_reducible assumption) (Fr.keep (by with_reducible assumption))), ?_⟩; try dsimp only [List.nil_append, List.cons_append]))
local macro_rules | `(tactic| walk_at "mW") => `(tactic| repeat ((fail_if_success (with_reducible show wpAny _ _ (exec (Stmt.For _ _ _ _ _) _) _ _ _)); (fail_if_success (with_reducible show wpAny _ _ (execs (Stmt.Assign _ (Expr.List [] _) _ :: Stmt.For _ _ _ _ _ :: _) _) _ _ _)); (fail_if_success (with_reducible show wpAny _ _ (subscriptTail _ _ (Value.ref _) (Value.int _ _)) _ _ _)); (fail_if_success (with_reducible show wpAny _ _ (subscriptTail _ _ (Value.bytes _ _) (Value.int _ _)) _ _ _)); (fail_if_success (with_reducible show wpAny _ _ (setItem _ _ _) _ _ _)); (fail_if_success (with_reducible show wpAny _ _ (call (Value.type "bytes") _ _) _ _ _)); (fail_if_success (with_reducible show wpAny _ _ (call (Value.builtin "list.append") _ _) _ _ _)); (fail_if_success (with_reducible show Exists _)); (fail_if_success (with_reducible show wpAny _ _ (eval (Expr.ListComp _ _ _ _) _) _ _ _)); (fail_if_success (with_reducible show wpAny _ _ (eval (Expr.DictComp _ _ _ _ _) _) _ _ _)); (fail_if_success (with_reducible show wpAny _ _ (binaryOp _ (Value.ref _) (Value.ref _)) _ _ _)); walk1))
local macro_rules | `(tactic| walk_at "binaryOp Mult int int") => `(tactic| with_reducible refine mul_int ?_ (by with_reducible assumption))
local macro_rules | `(tactic| walk_at "binaryOp Pow int int") => `(tactic| with_reducible refine pow_int_small (by with_reducible assumption) (by with_reducible assumption) (by with_reducible assumption) ?_)

section
variable {w : World} {A : Around} {E : Value → Shared → Prop} {s : Shared}

local macro_rules | `(tactic| walk_at "eval Name") => `(tactic| first
  | (with_unfolding_all refine nmL (by rfl) (by rfl) (by decide) (by first | with_reducible assumption | exact Fr.ns (by with_reducible assumption)) (by rfl) (by first | with_reducible assumption | rfl | assumption) ?_)
  | (with_unfolding_all refine nmC (by rfl) (by rfl) (by decide) (by rfl) (by first | with_reducible assumption | assumption) ?_)
  | (with_unfolding_all refine nmG (by rfl) (by rfl) (by rfl) (by decide) (by rfl) (by first | with_reducible assumption | exact Wd.keeps (by with_reducible assumption) (Fr.keep (by with_reducible assumption))) ?_)
  | (with_unfolding_all refine nmB (by rfl) (by rfl) (by boot_by_name) (by rfl) (by rfl) (by decide) (by decide) (by rfl) (by first | with_reducible assumption | exact Wd.keeps (by with_reducible assumption) (Fr.keep (by with_reducible assumption))) ?_))
local macro_rules | `(tactic| walk_at "mL") => `(tactic| repeat ((fail_if_success (with_reducible show wpAny _ _ (execs (Stmt.For _ _ _ _ _ :: _) _) _ _ _)); (fail_if_success (with_reducible show wpAny _ _ (exec (Stmt.For _ _ _ _ _) _) _ _ _)); (fail_if_success (with_reducible show wpAny _ _ (execs (Stmt.Assign _ (Expr.List [] _) _ :: Stmt.For _ _ _ _ _ :: _) _) _ _ _)); (fail_if_success (with_reducible show wpAny _ _ (subscriptTail _ _ (Value.ref _) (Value.int _ _)) _ _ _)); (fail_if_success (with_reducible show wpAny _ _ (subscriptTail _ _ (Value.bytes _ _) (Value.int _ _)) _ _ _)); (fail_if_success (with_reducible show wpAny _ _ (setItem _ _ _) _ _ _)); (fail_if_success (with_reducible show wpAny _ _ (call (Value.type "bytes") _ _) _ _ _)); (fail_if_success (with_reducible show wpAny _ _ (call (Value.builtin "list.append") _ _) _ _ _)); (fail_if_success (with_reducible show Exists _)); (fail_if_success (with_reducible show wpAny _ _ (eval (Expr.ListComp _ _ _ _) _) _ _ _)); (fail_if_success (with_reducible show wpAny _ _ (eval (Expr.DictComp _ _ _ _ _) _) _ _ _)); (fail_if_success (with_reducible show wpAny _ _ (binaryOp _ (Value.ref _) (Value.ref _)) _ _ _)); walk1))
local macro_rules | `(tactic| walk_at "mE") => `(tactic| repeat ((fail_if_success (with_reducible show wpAny _ _ (execs (_ :: _) _) _ _ _)); (fail_if_success (with_reducible show wpAny _ _ (exec (Stmt.For _ _ _ _ _) _) _ _ _)); (fail_if_success (with_reducible show wpAny _ _ (execs (Stmt.Assign _ (Expr.List [] _) _ :: Stmt.For _ _ _ _ _ :: _) _) _ _ _)); (fail_if_success (with_reducible show wpAny _ _ (subscriptTail _ _ (Value.ref _) (Value.int _ _)) _ _ _)); (fail_if_success (with_reducible show wpAny _ _ (subscriptTail _ _ (Value.bytes _ _) (Value.int _ _)) _ _ _)); (fail_if_success (with_reducible show wpAny _ _ (setItem _ _ _) _ _ _)); (fail_if_success (with_reducible show wpAny _ _ (call (Value.type "bytes") _ _) _ _ _)); (fail_if_success (with_reducible show wpAny _ _ (call (Value.builtin "list.append") _ _) _ _ _)); (fail_if_success (with_reducible show Exists _)); (fail_if_success (with_reducible show wpAny _ _ (eval (Expr.ListComp _ _ _ _) _) _ _ _)); (fail_if_success (with_reducible show wpAny _ _ (eval (Expr.DictComp _ _ _ _ _) _) _ _ _)); (fail_if_success (with_reducible show wpAny _ _ (binaryOp _ (Value.ref _) (Value.ref _)) _ _ _)); walk1))

def valsOf (o : Obj) : Value × Value := match o.data with | .seq vs _ => (vs.getD 0 .none, vs.getD 1 .none) | _ => (.none, .none)
theorem pq_turns {env : Env} {h₀ : Heap} {body : List Stmt} {Q : Flow → Shared → Prop} {one other : Nat} {q : Int} {t1 t2 t3 : Tok} {g : Addr} {rows : List (List Int)} {x x' : Str} {px px' pt : Pos} {k : Nat} {m : Str → Option Value} {news : List (Addr × Obj)} (R : Rm 3 A) (W : Wd w h₀) (hq : -50 ≤ q ∧ q ≤ 50) (ht : one ≤ 2 ∧ other ≤ 2) (hR : RowsAt s.heap g rows)
    (hrow : ∃ r, rows[one + other]? = some r ∧ r.length = one + other + 1) (hbits : ∀ r ∈ rows, ∀ x ∈ r, Builtin.Int.intBits x ≤ 64)
    (F : Fr h₀ env.locals s.heap m) (N : News h₀ env.locals s.heap news) (hx : env.kindOf x = some .local) (hx' : env.kindOf x' = some .local) (hk : env.scope.kind = .function)
    (J : Nat → (Str → Option Value) → List (Addr × Obj) → Prop) (h0 : J 0 m news)
    (step : ∀ i p t t' m₁ news₁ h₁ tk₁ own, i < one + other + 1 → (pairL q one other rows)[i]? = some p → J i m₁ news₁ → (∀ z ∈ own, ∀ y ∈ news₁, (∃ o, s.heap.get? y.1 = some o) → z.1 ≠ y.1) → Fr h₀ env.locals h₁ (fun y => if y = x' then some (.int p.2 t') else if y = x then some (.int p.1 t) else m₁ y) → News h₀ env.locals h₁ (own ++ news₁) →
      wpAny (model PG w) A (execs body env) (StepJ h₀ env.locals own (news₁.map (·.1)) h₁ (J (i + 1)) { s with heap := h₁, toks := tk₁ } Q) E { s with heap := h₁, toks := tk₁ })
    (done : ∀ h' tk m' news', Fr h₀ env.locals h' m' → News h₀ env.locals h' news' → J (one + other + 1) m' news' → Q .next { s with heap := h', toks := tk }) :
    wpAny (model PG w) A (call (.ref 123) [.int one t1, .int other t2, .int q t3, .ref g] []) (fun xv s₁ => wpAny (model PG w) A (pyIter xv) (fun it s₂ => TurnsAt PG w A h₀ env (.Tuple [.Name x px, .Name x' px'] k pt) body Q E it s₂) E s₁) E s := by
  refine c_pair R.tail (W.keeps F.keep) hq ht hR hrow hbits ?_
  rintro P n ts s' ⟨h₁, tk₁, rfl, k₁⟩ hP0 hP hts ⟨hlen, hobj⟩
  have hplen : (pairL q one other rows).length = one + other + 1 := by simp [pairL]
  have hsz : ((ts.map fun x => Value.ref x.1).toArray).size = one + other + 1 := by simp [hlen, hplen]
  have hL : ∃ o, s.heap.get? env.locals = some o := let ⟨o, _, _, ho, _⟩ := F.ns; ⟨o, ho⟩
  have hget : ∀ j, j < one + other + 1 → ∃ y p t, ts[j]? = some y ∧ (pairL q one other rows)[j]? = some p ∧ y.2 = tupObj p t ∧ y ∈ ts := fun j hj => by
    obtain ⟨y, hy⟩ : ∃ y, ts[j]? = some y := ⟨ts[j]'(by omega), List.getElem?_eq_getElem _⟩
    obtain ⟨p, t, e1, e2⟩ := hobj j y hy
    exact ⟨y, p, t, hy, e1, e2, List.mem_of_getElem? hy⟩
  refine pairs_turns (s := { s with heap := h₁, toks := tk₁ }) (items := (ts.map fun x => Value.ref x.1).toArray) (Ts := fun j => (ts.getD j (0, default)).1) (vals := fun j => valsOf (ts.getD j (0, default)).2)
    R.hh ⟨_, hP, rfl, ⟨_, rfl⟩⟩ ?_ ?_ ?_ ?_ (Fr.after F k₁) (News.keepsAll N k₁) hx hx' hk J h0 ?_ ?_
  · intro j hj
    obtain ⟨y, p, t, hy, _⟩ := hget j (hsz ▸ hj)
    simp [hy]
  · intro j hj
    obtain ⟨y, p, t, hy, _, e, hm⟩ := hget j (hsz ▸ hj)
    have := (hts y hm).2.1
    simp only [List.getD_eq_getElem?_getD, hy, Option.getD_some]
    rw [e] at this ⊢
    exact ⟨_, this, rfl, ⟨_, rfl⟩⟩
  · intro e
    obtain ⟨o, ho⟩ := hL
    rw [← e, hP0] at ho; exact nomatch ho
  · intro j hj e
    obtain ⟨y, p, t, hy, _, _, hm⟩ := hget j (hsz ▸ hj)
    simp only [List.getD_eq_getElem?_getD, hy, Option.getD_some] at e
    obtain ⟨o, ho⟩ := hL
    rw [← e, (hts y hm).1] at ho; exact nomatch ho
  · intro i m₁ news₁ h₂ tk₂ own hi hJ hap F' N'
    obtain ⟨y, p, t, hy, hp, e, hm⟩ := hget i (hsz ▸ hi)
    simp only [List.getD_eq_getElem?_getD, hy, Option.getD_some, e] at F'
    refine step i p t.1 t.2 m₁ news₁ h₂ tk₂ own (hsz ▸ hi) hp hJ (fun z hz u hu ⟨o, ho⟩ e' => ?_) F' N'
    rcases hap z hz with e1 | ⟨j, hj, e1⟩ | e1
    · rw [← e', e1, hP0] at ho; exact nomatch ho
    · obtain ⟨y', _, _, hy', _, _, hm'⟩ := hget j (hsz ▸ hj)
      simp only [List.getD_eq_getElem?_getD, hy', Option.getD_some] at e1
      rw [← e', e1, (hts y' hm').1] at ho; exact nomatch ho
    · exact e1 u hu e'
  · intro h' tk m' news' F' N' hJ
    rw [hsz] at hJ
    exact done h' tk m' news' F' N' hJ

end
end Mine

end

section
open PySem PySem.W PySem.Calls PyProof.Rows
set_option Elab.async false
set_option maxRecDepth 100000
set_option maxHeartbeats 400000
namespace Mine
theorem fresh_L6 : True := by
  w_top off
  trivial
local macro_rules | `(tactic| walk_at "eval Name") => `(tactic| first
  | (with_unfolding_all refine nmL (by rfl) (by rfl) (by decide) (by first | with_reducible assumption | exact Fr.ns (by with_reducible assumption)) (by rfl) (by first | rfl | assumption) ?_)
  | (with_unfolding_all refine nmC (by rfl) (by rfl) (by decide) (by rfl) (by first | with_reducible assumption | assumption) ?_)
  | (with_unfolding_all refine nmG (by rfl) (by rfl) (by rfl) (by decide) (by rfl) (by first | with_reducible assumption | exact Wd.keeps (by with_reducible assumption) (Fr.keep (by with_reducible assumption))) ?_)
  | (with_unfolding_all refine nmB (by rfl) (by rfl) (by boot_by_name) (by rfl) (by rfl) (by decide) (by decide) (by rfl) (by first | with_reducible assumption | exact Wd.keeps (by with_reducible assumption) (Fr.keep (by with_reducible assumption))) ?_))
local macro_rules | `(tactic| walk_at "loadName") => `(tactic| (with_unfolding_all refine nmLd (by rfl) (by rfl) (by first | with_reducible assumption | exact Fr.ns (by with_reducible assumption)) (by rfl) (by first | rfl | assumption) ?_))
local macro_rules | `(tactic| walk_at "callWith ref") => `(tactic| (with_unfolding_all refine callF (by first | with_reducible assumption | exact Wd.keeps (by with_reducible assumption) (Fr.keep (by with_reducible assumption))) (by rfl) ?_ (by rfl) (by rfl)))
local macro_rules | `(tactic| walk_at "And") => `(tactic| ((with_reducible show Frag.In _ _ ∧ _); refine ⟨by first | exact (Wd.X (by with_reducible assumption)) | exact Wd.X (Wd.keeps (by with_reducible assumption) (Fr.keep (by with_reducible assumption))), ?_⟩; try dsimp only [List.nil_append, List.cons_append]))
local macro_rules | `(tactic| walk_at "mW") => `(tactic| repeat ((fail_if_success (with_reducible show wpAny _ _ (exec (Stmt.For _ _ _ _ _) _) _ _ _)); (fail_if_success (with_reducible show wpAny _ _ (execs (Stmt.Assign _ (Expr.List [] _) _ :: Stmt.For _ _ _ _ _ :: _) _) _ _ _)); (fail_if_success (with_reducible show wpAny _ _ (subscriptTail _ _ (Value.ref _) (Value.int _ _)) _ _ _)); (fail_if_success (with_reducible show wpAny _ _ (subscriptTail _ _ (Value.bytes _ _) (Value.int _ _)) _ _ _)); (fail_if_success (with_reducible show wpAny _ _ (setItem _ _ _) _ _ _)); (fail_if_success (with_reducible show wpAny _ _ (call (Value.type "bytes") _ _) _ _ _)); (fail_if_success (with_reducible show wpAny _ _ (call (Value.builtin "list.append") _ _) _ _ _)); (fail_if_success (with_reducible show Exists _)); (fail_if_success (with_reducible show wpAny _ _ (eval (Expr.ListComp _ _ _ _) _) _ _ _)); (fail_if_success (with_reducible show wpAny _ _ (eval (Expr.DictComp _ _ _ _ _) _) _ _ _)); (fail_if_success (with_reducible show wpAny _ _ (binaryOp _ (Value.ref _) (Value.ref _)) _ _ _)); walk1))
local macro_rules | `(tactic| walk_at "binaryOp Mult int int") => `(tactic| with_reducible refine mul_int ?_ (by with_reducible assumption))
local macro_rules | `(tactic| walk_at "binaryOp Pow int int") => `(tactic| with_reducible refine pow_int_small (by with_reducible assumption) (by with_reducible assumption) (by with_reducible assumption) ?_)

section
variable {w : World} {A : Around} {E : Value → Shared → Prop} {s : Shared}

local macro_rules | `(tactic| walk_at "eval Name") => `(tactic| first
  | (with_unfolding_all refine nmL (by rfl) (by rfl) (by decide) (by first | with_reducible assumption | exact Fr.ns (by with_reducible assumption)) (by rfl) (by first | with_reducible assumption | rfl | assumption) ?_)
  | (with_unfolding_all refine nmC (by rfl) (by rfl) (by decide) (by rfl) (by first | with_reducible assumption | assumption) ?_)
  | (with_unfolding_all refine nmG (by rfl) (by rfl) (by rfl) (by decide) (by rfl) (by first | with_reducible assumption | exact Wd.keeps (by with_reducible assumption) (Fr.keep (by with_reducible assumption))) ?_)
  | (with_unfolding_all refine nmB (by rfl) (by rfl) (by boot_by_name) (by rfl) (by rfl) (by decide) (by decide) (by rfl) (by first | with_reducible assumption | exact Wd.keeps (by with_reducible assumption) (Fr.keep (by with_reducible assumption))) ?_))
local macro_rules | `(tactic| walk_at "mL") => `(tactic| repeat ((fail_if_success (with_reducible show wpAny _ _ (execs (Stmt.For _ _ _ _ _ :: _) _) _ _ _)); (fail_if_success (with_reducible show wpAny _ _ (exec (Stmt.For _ _ _ _ _) _) _ _ _)); (fail_if_success (with_reducible show wpAny _ _ (execs (Stmt.Assign _ (Expr.List [] _) _ :: Stmt.For _ _ _ _ _ :: _) _) _ _ _)); (fail_if_success (with_reducible show wpAny _ _ (subscriptTail _ _ (Value.ref _) (Value.int _ _)) _ _ _)); (fail_if_success (with_reducible show wpAny _ _ (subscriptTail _ _ (Value.bytes _ _) (Value.int _ _)) _ _ _)); (fail_if_success (with_reducible show wpAny _ _ (setItem _ _ _) _ _ _)); (fail_if_success (with_reducible show wpAny _ _ (call (Value.type "bytes") _ _) _ _ _)); (fail_if_success (with_reducible show wpAny _ _ (call (Value.builtin "list.append") _ _) _ _ _)); (fail_if_success (with_reducible show Exists _)); (fail_if_success (with_reducible show wpAny _ _ (eval (Expr.ListComp _ _ _ _) _) _ _ _)); (fail_if_success (with_reducible show wpAny _ _ (eval (Expr.DictComp _ _ _ _ _) _) _ _ _)); (fail_if_success (with_reducible show wpAny _ _ (binaryOp _ (Value.ref _) (Value.ref _)) _ _ _)); walk1))
local macro_rules | `(tactic| walk_at "mE") => `(tactic| repeat ((fail_if_success (with_reducible show wpAny _ _ (execs (_ :: _) _) _ _ _)); (fail_if_success (with_reducible show wpAny _ _ (exec (Stmt.For _ _ _ _ _) _) _ _ _)); (fail_if_success (with_reducible show wpAny _ _ (execs (Stmt.Assign _ (Expr.List [] _) _ :: Stmt.For _ _ _ _ _ :: _) _) _ _ _)); (fail_if_success (with_reducible show wpAny _ _ (subscriptTail _ _ (Value.ref _) (Value.int _ _)) _ _ _)); (fail_if_success (with_reducible show wpAny _ _ (subscriptTail _ _ (Value.bytes _ _) (Value.int _ _)) _ _ _)); (fail_if_success (with_reducible show wpAny _ _ (setItem _ _ _) _ _ _)); (fail_if_success (with_reducible show wpAny _ _ (call (Value.type "bytes") _ _) _ _ _)); (fail_if_success (with_reducible show wpAny _ _ (call (Value.builtin "list.append") _ _) _ _ _)); (fail_if_success (with_reducible show Exists _)); (fail_if_success (with_reducible show wpAny _ _ (eval (Expr.ListComp _ _ _ _) _) _ _ _)); (fail_if_success (with_reducible show wpAny _ _ (eval (Expr.DictComp _ _ _ _ _) _) _ _ _)); (fail_if_success (with_reducible show wpAny _ _ (binaryOp _ (Value.ref _) (Value.ref _)) _ _ _)); walk1))

def spot3 (p p2 p3 : Int × Int) : Int := home - (p2.1 + p3.1) * 65536 + (p3.1 - p.1) * 256 + p.1 + p2.1
def st3 (p p2 : Int × Int) (acc : List (Int × Int)) (p3 : Int × Int) : List (Int × Int) := due1 acc (spot3 p p2 p3) (p.2 * p2.2 * p3.2)
def st2 (l3 : List (Int × Int)) (p : Int × Int) (acc : List (Int × Int)) (p2 : Int × Int) : List (Int × Int) := l3.foldl (st3 p p2) acc
def st1 (l2 l3 : List (Int × Int)) (acc : List (Int × Int)) (p : Int × Int) : List (Int × Int) := l2.foldl (st2 l3 p) acc
theorem dueOf_st (a b c : Nat) (q : Int) (rows : List (List Int)) : dueOf a b c q rows = (pairL q a b rows).foldl (st1 (pairL q a c rows) (pairL q b c rows)) [] := rfl
theorem due1_len (acc : List (Int × Int)) (k x : Int) : (due1 acc k x).length ≤ acc.length + 1 := put_length_le _ _ _
theorem TbR.getD {kvs t} (h : TbR kvs t) (k : Int) (t0 : Tok) : ∃ tk, (PySem.valueAt kvs k).getD (Value.int 0 t0) = Value.int ((lk t k).getD 0) tk := by
  rcases h.valueAt k with ⟨h1, h2⟩ | ⟨x, tk, h1, h2⟩
  · exact ⟨t0, by rw [h1, h2]; rfl⟩
  · exact ⟨tk, by rw [h1, h2]; rfl⟩
theorem law_17 {h₀ : Heap} {L T D g : Addr} {cd : Value} {m : Str → Option Value} {news : List (Addr × Obj)} {a b c : Nat} {q : Int} {o : Obj} {rows : List (List Int)} {Q : Flow → Shared → Prop} (R : Rm 3 A) (W : Wd w h₀) (F : Fr h₀ L s.heap m) (N : News h₀ L s.heap ((D, o) :: news)) (hD : ∀ p ∈ news, p.1 ≠ D) (lo : (D == sysModules) = false) (ho : ObTb w o [])
    (M : Ms m a b c q T g) (mt : ∃ T1, m (Str.ofString "told") = some (.ref T1)) (md : m (Str.ofString "due") = some (.ref D))
    (hG : GaussIn news g rows) (ha : a ≤ 2) (hb : b ≤ 2) (hc : c ≤ 2) (hq : -50 ≤ q ∧ q ≤ 50)
    (hrow : ∀ i j : Nat, i ≤ 2 → j ≤ 2 → i + j ≤ a + b + c → ∃ r, rows[i + j]? = some r ∧ r.length = i + j + 1) (hbits : ∀ r ∈ rows, ∀ x ∈ r, Builtin.Int.intBits x ≤ 64)
    (hpb : ∀ i j : Nat, i ≤ 2 → j ≤ 2 → i + j ≤ a + b + c → ∀ p ∈ pairL q i j rows, Builtin.Int.intBits p.2 ≤ 64)
    (hQ : ∀ h' tk m' o', Fr h₀ L h' m' → News h₀ L h' ((D, o') :: news) → ObTb w o' (dueOf a b c q rows) → (dueOf a b c q rows).length ≤ 125 → Ms m' a b c q T g → m' (Str.ofString "told") = m (Str.ofString "told") → m' (Str.ofString "due") = some (.ref D) →
      wpAny (model PG w) A (execs (lawBody.drop 18) (lenv L cd)) Q (fun _ _ => False) { s with heap := h', toks := tk }) :
    wpAny (model PG w) A (execs (lawBody.drop 17) (lenv L cd)) Q (fun _ _ => False) s := by
  have e17 : ∃ st, lawBody.drop 17 = st :: lawBody.drop 18 := ⟨_, rfl⟩
  obtain ⟨⟨ta, n1⟩, ⟨tb, n2⟩, ⟨tc, n3⟩, ⟨tq, n4⟩, ⟨th, n5⟩, n6, n7⟩ := M
  obtain ⟨T1, mt⟩ := mt
  have hR : RowsAt s.heap g rows := hG.at (fun p hp => N p (.tail _ hp))
  have W₁ : Wd w s.heap := W.keeps F.keep
  conv in List.drop 17 _ => whnf
  refine wpAny_execs_cons ?_
  refine For_turns F ?_ (by intro _; rfl)
  walk_at "mE"
  refine pq_turns (x := Str.ofString "k") (x' := Str.ofString "first") R W hq ⟨ha, hb⟩ hR (hrow a b ha hb (by omega)) hbits F N rfl rfl rfl
    (fun i m' news' => ∃ o', news' = (D, o') :: news ∧ ObTb w o' (((pairL q a b rows).take i).foldl (st1 (pairL q a c rows) (pairL q b c rows)) []) ∧ (((pairL q a b rows).take i).foldl (st1 (pairL q a c rows) (pairL q b c rows)) []).length ≤ 25 * i ∧ Ms m' a b c q T g ∧ m' (Str.ofString "told") = some (.ref T1) ∧ m' (Str.ofString "due") = some (.ref D)) ?_ ?_ ?_
  · exact ⟨o, rfl, ho, Nat.le_refl _, ⟨⟨ta, n1⟩, ⟨tb, n2⟩, ⟨tc, n3⟩, ⟨tq, n4⟩, ⟨th, n5⟩, n6, n7⟩, mt, md⟩
  · rintro i p tp tp' m₁ news₁ h₁ tk₁ own hi hp ⟨o₁, rfl, ho₁, hl₁, M₁, mt₁, md₁⟩ hap F₁ N₁
    have M₁' := (M₁.set (Str.ofString "k") (some (.int p.1 tp)) (by decide)).set (Str.ofString "first") (some (.int p.2 tp')) (by decide)
    obtain ⟨⟨ta, n1⟩, ⟨tb, n2⟩, ⟨tc, n3⟩, ⟨tq, n4⟩, ⟨th, n5⟩, n6, n7⟩ := M₁'
    have hR₁ : RowsAt h₁ g rows := hG.at (fun p hp => N₁ p (List.mem_append_right _ (.tail _ hp)))
    have hown1 : ∀ z ∈ own, z.1 ≠ D := fun z hz => hap z hz (D, o₁) (.head _) ⟨o, (N (D, o) (.head _)).1⟩
    have hNs1 : ∀ y ∈ own ++ (D, o₁) :: news, ∃ o, h₁.get? y.1 = some o := fun y hy => ⟨_, (N₁ y hy).1⟩
    have W₂ : Wd w h₁ := W.keeps F₁.keep
    have hb1 := hpb a b ha hb (by omega) p (List.mem_of_getElem? hp)
    have hacc1 := take_succ_of hp
    refine wpAny_execs_cons ?_
    refine For_turns F₁ ?_ (by intro _; rfl)
    walk_at "mE"
    refine pq_turns (env := lenv L cd) (x := Str.ofString "m") (x' := Str.ofString "second") R W hq ⟨ha, hc⟩ hR₁ (hrow a c ha hc (by omega)) hbits F₁ N₁ rfl rfl rfl
      (fun j m' news' => ∃ o', news' = own ++ (D, o') :: news ∧ ObTb w o' (((pairL q a c rows).take j).foldl (st2 (pairL q b c rows) p) (((pairL q a b rows).take i).foldl (st1 (pairL q a c rows) (pairL q b c rows)) [])) ∧ (((pairL q a c rows).take j).foldl (st2 (pairL q b c rows) p) (((pairL q a b rows).take i).foldl (st1 (pairL q a c rows) (pairL q b c rows)) [])).length ≤ 25 * i + 5 * j ∧ Ms m' a b c q T g ∧ m' (Str.ofString "told") = some (.ref T1) ∧ m' (Str.ofString "due") = some (.ref D) ∧ m' (Str.ofString "k") = some (.int p.1 tp) ∧ m' (Str.ofString "first") = some (.int p.2 tp')) ?_ ?_ ?_
    · exact ⟨o₁, rfl, ho₁, hl₁, (M₁.set (Str.ofString "k") (some (.int p.1 tp)) (by decide)).set (Str.ofString "first") (some (.int p.2 tp')) (by decide), by with_unfolding_all exact mt₁, by with_unfolding_all exact md₁, by rfl, by rfl⟩
    · rintro j p2 u u' m₂ news₂ h₂ tk₂ own2 hj hp2 ⟨o₂, rfl, ho₂, hl₂, M₂, mt₂, md₂, mk, mf⟩ hap2 F₂ N₂
      have M₂' := (M₂.set (Str.ofString "m") (some (.int p2.1 u)) (by decide)).set (Str.ofString "second") (some (.int p2.2 u')) (by decide)
      obtain ⟨⟨ta, n1⟩, ⟨tb, n2⟩, ⟨tc, n3⟩, ⟨tq, n4⟩, ⟨th, n5⟩, n6, n7⟩ := M₂'
      have hR₂ : RowsAt h₂ g rows := hG.at (fun p hp => N₂ p (List.mem_append_right _ (List.mem_append_right _ (.tail _ hp))))
      have hown2 : ∀ z ∈ own2, z.1 ≠ D := fun z hz => hap2 z hz (D, o₂) (List.mem_append_right _ (.head _)) ⟨o₁, (N₁ (D, o₁) (List.mem_append_right _ (.head _))).1⟩
      have W₃ : Wd w h₂ := W.keeps F₂.keep
      have hb2 := hpb a c ha hc (by omega) p2 (List.mem_of_getElem? hp2)
      have hacc2 := take_succ_of hp2
      generalize hA2 : ((pairL q a c rows).take j).foldl (st2 (pairL q b c rows) p) (((pairL q a b rows).take i).foldl (st1 (pairL q a c rows) (pairL q b c rows)) []) = A2 at ho₂ hl₂
      refine wpAny_execs_cons ?_
      refine For_turns F₂ ?_ (by intro _; rfl)
      walk_at "mE"
      refine pq_turns (x := Str.ofString "n") (x' := Str.ofString "third") R W hq ⟨hb, hc⟩ hR₂ (hrow b c hb hc (by omega)) hbits F₂ N₂ rfl rfl rfl
        (fun l m' news' => ∃ o', news' = own2 ++ (own ++ (D, o') :: news) ∧ ObTb w o' (((pairL q b c rows).take l).foldl (st3 p p2) A2) ∧ (((pairL q b c rows).take l).foldl (st3 p p2) A2).length ≤ 25 * i + 5 * j + l ∧ Ms m' a b c q T g ∧ m' (Str.ofString "told") = some (.ref T1) ∧ m' (Str.ofString "due") = some (.ref D) ∧ m' (Str.ofString "k") = some (.int p.1 tp) ∧ m' (Str.ofString "first") = some (.int p.2 tp') ∧ m' (Str.ofString "m") = some (.int p2.1 u) ∧ m' (Str.ofString "second") = some (.int p2.2 u')) ?_ ?_ ?_
      · exact ⟨o₂, rfl, ho₂, hl₂, (M₂.set (Str.ofString "m") (some (.int p2.1 u)) (by decide)).set (Str.ofString "second") (some (.int p2.2 u')) (by decide), by with_unfolding_all exact mt₂, by with_unfolding_all exact md₂, by with_unfolding_all exact mk, by with_unfolding_all exact mf, by rfl, by rfl⟩
      · rintro l p3 v v' m₃ news₃ h₃ tk₃ own3 hl hp3 ⟨o₃, rfl, ho₃, hl₃, M₃, mt₃, md₃, mk, mf, mm, ms⟩ hap3 F₃ N₃
        have hown3 : ∀ z ∈ own3, z.1 ≠ D := fun z hz => hap3 z hz (D, o₃) (List.mem_append_right _ (List.mem_append_right _ (.head _))) ⟨o₂, (N₂ (D, o₂) (List.mem_append_right _ (List.mem_append_right _ (.head _)))).1⟩
        have N₄ : News h₀ L h₃ ((own3 ++ (own2 ++ own)) ++ (D, o₃) :: news) := by rw [List.append_assoc, List.append_assoc]; exact N₃
        have hownA : ∀ z ∈ own3 ++ (own2 ++ own), z.1 ≠ D := fun z hz => by
          rcases List.mem_append.mp hz with hz | hz
          · exact hown3 z hz
          · rcases List.mem_append.mp hz with hz | hz
            · exact hown2 z hz
            · exact hown1 z hz
        have hb3 := hpb b c hb hc (by omega) p3 (List.mem_of_getElem? hp3)
        have W₄ : Wd w h₃ := W.keeps F₃.keep
        have i1 : IntMulOk (p2.1 + p3.1) (256 ^ (2 : Int).toNat) := .of_right (intBits_le_64 (by decide) (by decide))
        have i2 : IntMulOk (p3.1 - p.1) 256 := .of_right (intBits_le_64 (by decide) (by decide))
        have i3 : IntMulOk p.2 p2.2 := .of_right hb2
        have i4 : IntMulOk (p.2 * p2.2) p3.2 := .of_right hb3
        have w1 : (0 : Int) ≤ 2 := by decide
        have w2 : (2 : Int) ≤ 1000000 := by decide
        have w3 : (256 : Int).natAbs < 2 ^ 64 := by decide
        have M₃' := (M₃.set (Str.ofString "n") (some (.int p3.1 v)) (by decide)).set (Str.ofString "third") (some (.int p3.2 v')) (by decide)
        obtain ⟨⟨ta, n1⟩, ⟨tb, n2⟩, ⟨tc, n3⟩, ⟨tq, n4⟩, ⟨th, n5⟩, n6, n7⟩ := M₃'
        have hz : (((pairL q b c rows).take l).foldl (st3 p p2) A2).length ≤ 1000000 := by omega
        have hacc3 := take_succ_of hp3
        have e3 : due1 (((pairL q b c rows).take l).foldl (st3 p p2) A2) (spot3 p p2 p3) (p.2 * p2.2 * p3.2) = ((pairL q b c rows).take (l + 1)).foldl (st3 p p2) A2 := by rw [hacc3, List.foldl_append]; rfl
        have hl4 : (((pairL q b c rows).take (l + 1)).foldl (st3 p p2) A2).length ≤ 25 * i + 5 * j + (l + 1) := by
          have := due1_len (((pairL q b c rows).take l).foldl (st3 p p2) A2) (spot3 p p2 p3) (p.2 * p2.2 * p3.2)
          rw [e3] at this; omega
        have hmD : (D, o₃) ∈ (own3 ++ (own2 ++ own)) ++ (D, o₃) :: news := List.mem_append_right _ (.head _)
        have hspot : home - (p2.1 + p3.1) * 256 ^ (2 : Int).toNat + (p3.1 - p.1) * 256 + p.1 + p2.1 = spot3 p p2 p3 := rfl
        have ho₃' := ho₃
        obtain ⟨kvs, hdk, hTk⟩ := ho₃
        obtain ⟨f, hf⟩ : ∃ f : Tok → Tok, ∀ t0, (PySem.valueAt kvs (spot3 p p2 p3)).getD (Value.int 0 t0) = Value.int ((lk (((pairL q b c rows).take l).foldl (st3 p p2) A2) (spot3 p p2 p3)).getD 0) (f t0) := ⟨fun t => Classical.choose (hTk.getD _ t), fun t => Classical.choose_spec (hTk.getD _ t)⟩
        walk_at "mW"
        rename_i h₄ F₄ N₅
        rw [hspot] at F₄
        refine kdg_method N₅ hmD hdk ?_
        walk_at "mW"
        refine kdg_get2 N₅ hmD hdk lo (intKind_is PG w _ _) _ rfl ?_
        rw [hf]
        walk_at "mW"
        refine set_tb F₄ N₅ hownA hD ho₃' hz (fun h₅ o₅ F₅ N₆ ho₅ => ?_)
        have ho₅ : ObTb w o₅ (due1 _ _ _) := ho₅
        rw [e3] at ho₅
        walk_at "mW"
        refine ⟨_, _, _, own2 ++ (own ++ (D, o₅) :: news), rfl, F₅, by rw [List.append_assoc, List.append_assoc] at N₆; exact N₆, fun p hp => .inl ?_, o₅, rfl, ho₅, hl4,
          ((M₃.set (Str.ofString "n") (some (.int p3.1 v)) (by decide)).set (Str.ofString "third") (some (.int p3.2 v')) (by decide)).set (Str.ofString "spot") _ (by decide), by with_unfolding_all exact mt₃, by with_unfolding_all exact md₃, by with_unfolding_all exact mk, by with_unfolding_all exact mf, by with_unfolding_all exact mm, by with_unfolding_all exact ms⟩
        rcases List.mem_append.mp hp with hp | hp
        · exact List.mem_map.mpr ⟨p, List.mem_append_left _ hp, rfl⟩
        · rcases List.mem_append.mp hp with hp | hp
          · exact List.mem_map.mpr ⟨p, List.mem_append_right _ (List.mem_append_left _ hp), rfl⟩
          · rcases List.mem_cons.mp hp with rfl | hp
            · exact List.mem_map.mpr ⟨(D, o₃), List.mem_append_right _ (List.mem_append_right _ (.head _)), rfl⟩
            · exact List.mem_map.mpr ⟨p, List.mem_append_right _ (List.mem_append_right _ (.tail _ hp)), rfl⟩
      · rintro h₃ tk₃ m₃ news₃ F₃ N₃ ⟨o₃, rfl, ho₃, hl₃, M₃, mt₃, md₃, mk, mf, mm, ms⟩
        have e : b + c + 1 = (pairL q b c rows).length := by simp [pairL]
        rw [e, List.take_length] at ho₃ hl₃
        have e2 : ((pairL q a c rows).take (j + 1)).foldl (st2 (pairL q b c rows) p) (((pairL q a b rows).take i).foldl (st1 (pairL q a c rows) (pairL q b c rows)) []) = (pairL q b c rows).foldl (st3 p p2) A2 := by rw [hacc2, List.foldl_append, hA2]; rfl
        rw [← e2] at ho₃ hl₃
        have hl : (((pairL q a c rows).take (j + 1)).foldl (st2 (pairL q b c rows) p) (((pairL q a b rows).take i).foldl (st1 (pairL q a c rows) (pairL q b c rows)) [])).length ≤ 25 * i + 5 * (j + 1) := by rw [← e] at hl₃; omega
        walk_at "mE"
        exact ⟨_, _, _, own ++ (D, o₃) :: news, rfl, F₃, N₃, fun p hp => .inl (by
          rcases List.mem_append.mp hp with hp | hp
          · exact List.mem_map.mpr ⟨p, List.mem_append_left _ hp, rfl⟩
          · rcases List.mem_cons.mp hp with rfl | hp
            · exact List.mem_map.mpr ⟨(D, o₂), List.mem_append_right _ (.head _), rfl⟩
            · exact List.mem_map.mpr ⟨p, List.mem_append_right _ (.tail _ hp), rfl⟩), o₃, rfl, ho₃, hl, M₃, mt₃, md₃, mk, mf⟩
    · rintro h₂ tk₂ m₂ news₂ F₂ N₂ ⟨o₂, rfl, ho₂, hl₂, M₂, mt₂, md₂, _, _⟩
      have e : a + c + 1 = (pairL q a c rows).length := by simp [pairL]
      rw [e, List.take_length] at ho₂ hl₂
      have e2 : ((pairL q a b rows).take (i + 1)).foldl (st1 (pairL q a c rows) (pairL q b c rows)) [] = (pairL q a c rows).foldl (st2 (pairL q b c rows) p) (((pairL q a b rows).take i).foldl (st1 (pairL q a c rows) (pairL q b c rows)) []) := by rw [hacc1, List.foldl_append]; rfl
      rw [← e2] at ho₂ hl₂
      have hl : (((pairL q a b rows).take (i + 1)).foldl (st1 (pairL q a c rows) (pairL q b c rows)) []).length ≤ 25 * (i + 1) := by rw [← e] at hl₂; omega
      walk_at "mE"
      exact ⟨_, _, _, (D, o₂) :: news, rfl, F₂, N₂, fun p hp => .inl (by
        rcases List.mem_cons.mp hp with rfl | hp
        · exact .head _
        · exact .tail _ (List.mem_map_of_mem hp)), o₂, rfl, ho₂, hl, M₂, mt₂, md₂⟩
  · rintro h₁ tk₁ m₁ news₁ F₁ N₁ ⟨o₁, rfl, ho₁, hl₁, M₁, mt₁, md₁⟩
    have e : a + b + 1 = (pairL q a b rows).length := by simp [pairL]
    rw [e, List.take_length] at ho₁ hl₁
    exact hQ h₁ tk₁ m₁ o₁ F₁ N₁ ho₁ (by rw [dueOf_st]; rw [← e] at hl₁; omega) M₁ (by rw [mt₁, mt]) md₁

end
end Mine

end

section
open PySem PySem.W PySem.Calls PyProof.Rows
set_option Elab.async false
set_option maxRecDepth 100000
set_option maxHeartbeats 400000
namespace Mine
theorem fresh_L7 : True := by
  w_top off
  trivial
local macro_rules | `(tactic| walk_at "none of these") => `(tactic| skip)
local macro_rules | `(tactic| walk_at "eval Name") => `(tactic| first
  | (with_unfolding_all refine nmL (by rfl) (by rfl) (by decide) (by first | with_reducible assumption | exact Fr.ns (by with_reducible assumption)) (by rfl) (by first | rfl | assumption) ?_)
  | (with_unfolding_all refine nmC (by rfl) (by rfl) (by decide) (by rfl) (by first | with_reducible assumption | assumption) ?_)
  | (with_unfolding_all refine nmG (by rfl) (by rfl) (by rfl) (by decide) (by rfl) (by first | with_reducible assumption | exact Wd.keeps (by with_reducible assumption) (Fr.keep (by with_reducible assumption))) ?_)
  | (with_unfolding_all refine nmB (by rfl) (by rfl) (by boot_by_name) (by rfl) (by rfl) (by decide) (by decide) (by rfl) (by first | with_reducible assumption | exact Wd.keeps (by with_reducible assumption) (Fr.keep (by with_reducible assumption))) ?_))
local macro_rules | `(tactic| walk_at "loadName") => `(tactic| (with_unfolding_all refine nmLd (by rfl) (by rfl) (by first | with_reducible assumption | exact Fr.ns (by with_reducible assumption)) (by rfl) (by first | rfl | assumption) ?_))
local macro_rules | `(tactic| walk_at "callWith ref") => `(tactic| (with_unfolding_all refine callF (by first | with_reducible assumption | exact Wd.keeps (by with_reducible assumption) (Fr.keep (by with_reducible assumption))) (by rfl) ?_ (by rfl) (by rfl)))
local macro_rules | `(tactic| walk_at "And") => `(tactic| ((with_reducible show Frag.In _ _ ∧ _); refine ⟨by first | exact (Wd.X (by with_reducible assumption)) | exact Wd.X (Wd.keeps (by with_reducible assumption) (Fr.keep (by with_reducible assumption))), ?_⟩; try dsimp only [List.nil_append, List.cons_append]))
local macro_rules | `(tactic| walk_at "mW") => `(tactic| repeat ((fail_if_success (with_reducible show wpAny _ _ (exec (Stmt.For _ _ _ _ _) _) _ _ _)); (fail_if_success (with_reducible show wpAny _ _ (execs (Stmt.Assign _ (Expr.List [] _) _ :: Stmt.For _ _ _ _ _ :: _) _) _ _ _)); (fail_if_success (with_reducible show wpAny _ _ (subscriptTail _ _ (Value.ref _) (Value.int _ _)) _ _ _)); (fail_if_success (with_reducible show wpAny _ _ (subscriptTail _ _ (Value.bytes _ _) (Value.int _ _)) _ _ _)); (fail_if_success (with_reducible show wpAny _ _ (setItem _ _ _) _ _ _)); (fail_if_success (with_reducible show wpAny _ _ (call (Value.type "bytes") _ _) _ _ _)); (fail_if_success (with_reducible show wpAny _ _ (call (Value.builtin "list.append") _ _) _ _ _)); (fail_if_success (with_reducible show Exists _)); (fail_if_success (with_reducible show wpAny _ _ (eval (Expr.ListComp _ _ _ _) _) _ _ _)); (fail_if_success (with_reducible show wpAny _ _ (eval (Expr.DictComp _ _ _ _ _) _) _ _ _)); (fail_if_success (with_reducible show wpAny _ _ (binaryOp _ (Value.ref _) (Value.ref _)) _ _ _)); walk1))
local macro_rules | `(tactic| walk_at "binaryOp Mult int int") => `(tactic| with_reducible refine mul_int ?_ (by with_reducible assumption))
local macro_rules | `(tactic| walk_at "binaryOp Pow int int") => `(tactic| with_reducible refine pow_int_small (by with_reducible assumption) (by with_reducible assumption) (by with_reducible assumption) ?_)

section
variable {w : World} {A : Around} {E : Value → Shared → Prop} {s : Shared}

local macro_rules | `(tactic| walk_at "eval Name") => `(tactic| first
  | (with_unfolding_all refine nmL (by rfl) (by rfl) (by decide) (by first | with_reducible assumption | exact Fr.ns (by with_reducible assumption)) (by rfl) (by first | with_reducible assumption | rfl | assumption) ?_)
  | (with_unfolding_all refine nmC (by rfl) (by rfl) (by decide) (by rfl) (by first | with_reducible assumption | assumption) ?_)
  | (with_unfolding_all refine nmG (by rfl) (by rfl) (by rfl) (by decide) (by rfl) (by first | with_reducible assumption | exact Wd.keeps (by with_reducible assumption) (Fr.keep (by with_reducible assumption))) ?_)
  | (with_unfolding_all refine nmB (by rfl) (by rfl) (by boot_by_name) (by rfl) (by rfl) (by decide) (by decide) (by rfl) (by first | with_reducible assumption | exact Wd.keeps (by with_reducible assumption) (Fr.keep (by with_reducible assumption))) ?_))
local macro_rules | `(tactic| walk_at "mL") => `(tactic| repeat ((fail_if_success (with_reducible show wpAny _ _ (execs (Stmt.For _ _ _ _ _ :: _) _) _ _ _)); (fail_if_success (with_reducible show wpAny _ _ (exec (Stmt.For _ _ _ _ _) _) _ _ _)); (fail_if_success (with_reducible show wpAny _ _ (execs (Stmt.Assign _ (Expr.List [] _) _ :: Stmt.For _ _ _ _ _ :: _) _) _ _ _)); (fail_if_success (with_reducible show wpAny _ _ (subscriptTail _ _ (Value.ref _) (Value.int _ _)) _ _ _)); (fail_if_success (with_reducible show wpAny _ _ (subscriptTail _ _ (Value.bytes _ _) (Value.int _ _)) _ _ _)); (fail_if_success (with_reducible show wpAny _ _ (setItem _ _ _) _ _ _)); (fail_if_success (with_reducible show wpAny _ _ (call (Value.type "bytes") _ _) _ _ _)); (fail_if_success (with_reducible show wpAny _ _ (call (Value.builtin "list.append") _ _) _ _ _)); (fail_if_success (with_reducible show Exists _)); (fail_if_success (with_reducible show wpAny _ _ (eval (Expr.ListComp _ _ _ _) _) _ _ _)); (fail_if_success (with_reducible show wpAny _ _ (eval (Expr.DictComp _ _ _ _ _) _) _ _ _)); (fail_if_success (with_reducible show wpAny _ _ (binaryOp _ (Value.ref _) (Value.ref _)) _ _ _)); walk1))
local macro_rules | `(tactic| walk_at "mE") => `(tactic| repeat ((fail_if_success (with_reducible show wpAny _ _ (execs (_ :: _) _) _ _ _)); (fail_if_success (with_reducible show wpAny _ _ (exec (Stmt.For _ _ _ _ _) _) _ _ _)); (fail_if_success (with_reducible show wpAny _ _ (execs (Stmt.Assign _ (Expr.List [] _) _ :: Stmt.For _ _ _ _ _ :: _) _) _ _ _)); (fail_if_success (with_reducible show wpAny _ _ (subscriptTail _ _ (Value.ref _) (Value.int _ _)) _ _ _)); (fail_if_success (with_reducible show wpAny _ _ (subscriptTail _ _ (Value.bytes _ _) (Value.int _ _)) _ _ _)); (fail_if_success (with_reducible show wpAny _ _ (setItem _ _ _) _ _ _)); (fail_if_success (with_reducible show wpAny _ _ (call (Value.type "bytes") _ _) _ _ _)); (fail_if_success (with_reducible show wpAny _ _ (call (Value.builtin "list.append") _ _) _ _ _)); (fail_if_success (with_reducible show Exists _)); (fail_if_success (with_reducible show wpAny _ _ (eval (Expr.ListComp _ _ _ _) _) _ _ _)); (fail_if_success (with_reducible show wpAny _ _ (eval (Expr.DictComp _ _ _ _ _) _) _ _ _)); (fail_if_success (with_reducible show wpAny _ _ (binaryOp _ (Value.ref _) (Value.ref _)) _ _ _)); walk1))

theorem sub_bytes {value slice : Expr} {bs : Array UInt8} {t u : Tok} {k : Int} {j : Nat} {Q : Value → Shared → Prop} (e : k = (j : Int)) (hj : j < bs.size) (hz : bs.size ≤ 1000000)
    (h : Q (.int ((bs.toList.getD j 0).toNat : Int) s.toks) { s with toks := s.toks + 1 })
    (hs : subscripted slice false (.bytes bs t) (.int k u) = operate [.bytes bs t, .int k u] (getItem (.bytes bs t) (.int k u)) := by with_unfolding_all rfl) (ht : ∀ r, letTemporaryGo value (.bytes bs t) r = pure () := by intro _; with_unfolding_all rfl) :
    wpAny (model PG w) A (subscriptTail value slice (.bytes bs t) (.int k u)) Q E s := by
  subst e
  exact subscriptTail_builtin (typeIs_bytes _ _ _) FB.slot_bytes_getitem.lookup (getItem_bytes (l := bs.toList) (by rw [Array.length_toList]; omega) (by omega) (by rw [Array.length_toList]; omega) (by rw [Int.toNat_natCast]; exact h)) hs ht
theorem told_len (l : List (Int × Int)) : (toldOf l).length ≤ l.length := by
  unfold toldOf
  suffices h : ∀ (l acc : List (Int × Int)), (l.foldl (fun acc p => if p.2 ≠ 0 then put acc (revKey p.1) p.2 else acc) acc).length ≤ acc.length + l.length by simpa using h l []
  intro l
  induction l with
  | nil => intro acc; simp
  | cons p l ih =>
    intro acc
    rw [List.foldl_cons, List.length_cons]
    split
    · have h1 := ih (put acc (revKey p.1) p.2); have h2 := put_length_le acc (revKey p.1) p.2; omega
    · have h1 := ih acc; omega
theorem told_step {t : List (Int × Int)} {i : Nat} {p : Int × Int} (h : t[i]? = some p) : toldOf (t.take (i + 1)) = if p.2 ≠ 0 then put (toldOf (t.take i)) (revKey p.1) p.2 else toldOf (t.take i) := by
  unfold toldOf
  rw [take_succ_of h, List.foldl_append]; rfl
theorem law_14 {h₀ : Heap} {L T g K : Addr} {cd : Value} {m : Str → Option Value} {news : List (Addr × Obj)} {a b c : Nat} {q : Int} {kn : Nat} {items : Array Value} {rs : Array UInt8} {tr : Tok} {Q : Flow → Shared → Prop} (R : Rm 3 A) (W : Wd w h₀) (F : Fr h₀ L s.heap m) (N : News h₀ L s.heap news)
    (M : Ms m a b c q T g) (hT : TbN w news T (tabOf a b c q)) (hG : GaussIn news g (gRows q (a + b + c))) (hK : (K, PySem.W.listOf items kn) ∈ news) (hki : IntsAre items.toList ((tabOf a b c q).map (·.1)))
    (mk : m (Str.ofString "keys") = some (.ref K)) (mtu : m (Str.ofString "turned") = some (.bytes rs tr)) (hrs : rs.size = 3 * (tabOf a b c q).length)
    (hrv : ∀ (i : Nat) (p : Int × Int), (tabOf a b c q)[i]? = some p → ((rs.toList.getD (3 * i) 0).toNat : Int) * 65536 + ((rs.toList.getD (3 * i + 1) 0).toNat : Int) * 256 + ((rs.toList.getD (3 * i + 2) 0).toNat : Int) = revKey p.1)
    (ha : a ≤ 2) (hb : b ≤ 2) (hc : c ≤ 2) (hq : -50 ≤ q ∧ q ≤ 50)
    (hQ : ∀ h' tk, (∀ b o, h₀.get? b = some o → h'.get? b = some o) → Q (.ret (.bool true)) { s with heap := h', toks := tk }) :
    wpAny (model PG w) A (execs (lawBody.drop 14) (lenv L cd)) Q (fun _ _ => False) s := by
  have f := facts ha hb hc q
  have e16 : ∃ st, lawBody.drop 14 = st :: lawBody.drop 15 := ⟨_, rfl⟩
  conv in List.drop 14 _ => whnf
  walk_at "mL"
  refine newDict_K F N W.nolimit ?_
  intro T1 h₁ o₁ F₁ N₁ hlt1 lo1 _ _ hi1 _
  have hd1 : ObTb w o₁ [] := ⟨[], hi1, .nil⟩
  have hne1 : ∀ p ∈ news, p.1 ≠ T1 := fun p hp => Nat.ne_of_lt (hlt1 p hp)
  walk_at "mL"
  refine wpAny_execs_cons ?_
  rename_i h₂ F₂ N₂
  refine For_turns F₂ ?_ (by intro _; rfl)
  walk_at "mE"
  obtain ⟨loT, oT, hoT, kvsT, hdT, hTT⟩ := hT
  have hmT : ∀ (x : Obj) (own : List (Addr × Obj)), (T, oT) ∈ own ++ (T1, x) :: news := fun x own => List.mem_append_right _ (.tail _ hoT)
  have hKl : h₂.IsList K items := listOf_is (N₂ _ (.tail _ hK)).1
  have hKL : K ≠ L := (N₂ _ (.tail _ hK)).2.1
  have hsz : items.size = (tabOf a b c q).length := by rw [← Array.length_toList, hki.length, List.length_map]
  refine enum_list (x := Str.ofString "n") (x' := Str.ofString "key") R.hh hKl hKL F₂ N₂ rfl rfl rfl
    (fun i m' news' => ∃ o', news' = (T1, o') :: news ∧ ObTb w o' (toldOf ((tabOf a b c q).take i)) ∧ Ms m' a b c q T g ∧ m' (Str.ofString "told") = some (.ref T1) ∧ m' (Str.ofString "turned") = some (.bytes rs tr)) ?_ ?_ ?_
  · exact ⟨o₁, rfl, hd1, M.set (Str.ofString "told") (some (.ref T1)) (by decide), rfl, mtu⟩
  · rintro i v tki m₁ news₁ h₃ tk₃ own hv ⟨o₃, rfl, ho₃, M₃, mt₃, mu₃⟩ hap F₃ N₃
    have hi : i < items.size := (Array.getElem?_eq_some_iff.mp hv).1
    obtain ⟨k, tkk, hk1, hk2⟩ := row_at hki (n := i) (by rw [List.length_map, ← hsz]; exact hi)
    have hv2 : items[i]? = some (.int k tkk) := by rw [← Array.getElem?_toList]; exact hk2
    obtain rfl : v = .int k tkk := Option.some.inj (hv.symm.trans hv2)
    obtain ⟨p, hp, rfl⟩ : ∃ p, (tabOf a b c q)[i]? = some p ∧ p.1 = k := by
      rw [List.getElem?_map] at hk1
      cases e : (tabOf a b c q)[i]? with
      | none => rw [e] at hk1; exact nomatch hk1
      | some p => rw [e] at hk1; exact ⟨p, rfl, Option.some.inj hk1⟩
    have hlk : lk (tabOf a b c q) p.1 = some p.2 := (lk_iff f.nd p.1 p.2).mpr (List.mem_of_getElem? hp)
    have hval : ∃ tk, PySem.valueAt kvsT p.1 = some (.int p.2 tk) := by
      rcases hTT.valueAt p.1 with ⟨h1, _⟩ | ⟨x, tk, h1, h2⟩
      · rw [hlk] at h1; exact nomatch h1
      · rw [hlk] at h1; exact ⟨tk, by rw [h2, Option.some.inj h1]⟩
    obtain ⟨tkv, hval⟩ := hval
    have hl3 : (toldOf ((tabOf a b c q).take i)).length ≤ 1000000 := by
      have h1 := told_len ((tabOf a b c q).take i)
      have h2 := f.len
      rw [List.length_take] at h1; omega
    have hown : ∀ z ∈ own, z.1 ≠ T1 := fun z hz => by
      rcases hap z hz with e | e
      · rw [e]; exact hne1 _ hK
      · exact e _ (.head _)
    have hi100 : i < 100 := by have := f.len; omega
    have e0 : (3 * (i : Int)) = ((3 * i : Nat) : Int) := by omega
    have e1 : (3 * (i : Int) + 1) = ((3 * i + 1 : Nat) : Int) := by omega
    have e2 : (3 * (i : Int) + 2) = ((3 * i + 2 : Nat) : Int) := by omega
    have e256 : (256 : Int) ^ (2 : Int).toNat = 65536 := by decide
    have hspot : ((rs.toList.getD (3 * i) 0).toNat : Int) * (256 : Int) ^ (2 : Int).toNat + ((rs.toList.getD (3 * i + 1) 0).toNat : Int) * 256 + ((rs.toList.getD (3 * i + 2) 0).toNat : Int) = revKey p.1 := by rw [e256]; exact hrv i p hp
    have hstep := told_step hp
    have M₅ := (M₃.set (Str.ofString "n") (some (.int i tki)) (by decide)).set (Str.ofString "key") (some (.int p.1 tkk)) (by decide)
    have M₄ := (M₃.set (Str.ofString "n") (some (.int i tki)) (by decide)).set (Str.ofString "key") (some (.int p.1 tkk)) (by decide)
    obtain ⟨⟨ta, n1⟩, ⟨tb, n2⟩, ⟨tc, n3⟩, ⟨tq, n4⟩, ⟨th, n5⟩, n6, n7⟩ := M₄
    have i1 : IntMulOk 3 (i : Int) := .of_left (intBits_le_64 (by decide) (by decide))
    have i2 : IntMulOk ((rs.toList.getD (3 * i) 0).toNat : Int) (256 ^ (2 : Int).toNat) := .of_right (intBits_le_64 (by decide) (by decide))
    have i3 : IntMulOk ((rs.toList.getD (3 * i + 1) 0).toNat : Int) 256 := .of_right (intBits_le_64 (by decide) (by decide))
    have w1 : (0 : Int) ≤ 2 := by decide
    have w2 : (2 : Int) ≤ 1000000 := by decide
    have w3 : (256 : Int).natAbs < 2 ^ 64 := by decide
    have hzb : rs.size ≤ 1000000 := by have := f.len; omega
    have hb0 : 3 * i < rs.size := by omega
    have hb1 : 3 * i + 1 < rs.size := by omega
    have hb2 : 3 * i + 2 < rs.size := by omega
    walk_at "mW"
    refine kda_item N₃ (hmT _ _) hdT (intKind_is PG w _ _) hval ?_
    walk_at "mW"
    · walk_at "mW"
      rename_i hz
      rw [if_neg (fun h => h hz)] at hstep
      rw [← hstep] at ho₃
      exact ⟨_, _, _, (T1, o₃) :: news, rfl, F₃, N₃, fun p hp => .inl (List.mem_map_of_mem hp), o₃, rfl, ho₃, M₅, by with_unfolding_all exact mt₃, by with_unfolding_all exact mu₃⟩
    · rename_i hz
      rw [if_pos hz] at hstep
      walk_at "mW"
      refine kda_item N₃ (hmT _ _) hdT (intKind_is PG w _ _) hval ?_
      walk_at "mW"
      refine sub_bytes e0 hb0 hzb ?_
      walk_at "mW"
      refine sub_bytes e1 hb1 hzb ?_
      walk_at "mW"
      refine sub_bytes e2 hb2 hzb ?_
      walk_at "mW"
      refine set_tb F₃ N₃ hown hne1 ho₃ hl3 (fun h₅ o₅ F₅ N₅ ho₅ => ?_)
      rw [hspot, ← hstep] at ho₅
      walk_at "mW"
      exact ⟨_, _, _, (T1, o₅) :: news, rfl, F₅, N₅, fun p hp => .inl (by
        rcases List.mem_cons.mp hp with rfl | hp
        · exact .head _
        · exact .tail _ (List.mem_map_of_mem hp)), o₅, rfl, ho₅, M₅, by with_unfolding_all exact mt₃, by with_unfolding_all exact mu₃⟩
  · rintro h₃ tk₃ m₃ news₃ F₃ N₃ ⟨o₃, rfl, ho₃, M₃, mt₃, mu₃⟩
    rw [hsz, List.take_length] at ho₃
    walk_at "mL"
    refine newDict_K F₃ N₃ W.nolimit ?_
    intro D h₄ o₄ F₄ N₄ hlt4 lo4 _ _ hi4 _
    have hne4 : ∀ p ∈ (T1, o₃) :: news, p.1 ≠ D := fun p hp => Nat.ne_of_lt (hlt4 p hp)
    walk_at "mL"
    rename_i h₅ F₅ N₅
    refine law_17 (s := { s with heap := h₅, toks := _ }) R W F₅ N₅ hne4 lo4 ⟨[], hi4, .nil⟩ (M₃.set (Str.ofString "due") (some (.ref D)) (by decide)) ⟨T1, mt₃⟩ rfl (hG.mono fun p hp => .tail _ hp) ha hb hc hq ?_ ?_ ?_ ?_
    · intro i j _ _ hij
      exact gRows_row_at q hij
    · exact gauss_bits hq (by omega)
    · intro i j h1 h2 hij
      exact pair_bits hq h1 h2 hij (by omega)
    · intro h₆ tk₆ m₆ o₆ F₆ N₆ ho₆ hl₆ M₆ mt₆ md₆
      obtain ⟨⟨ta, n1⟩, ⟨tb, n2⟩, ⟨tc, n3⟩, ⟨tq, n4⟩, ⟨th, n5⟩, n6, n7⟩ := M₆
      have td := told_due f
      refine law_18 (s := { s with heap := h₆, toks := tk₆ }) R W F₆ N₆ ⟨loT, oT, .tail _ (.tail _ hoT), kvsT, hdT, hTT⟩ ⟨lo1, o₃, .tail _ (.head _), ho₃⟩ ⟨lo4, o₆, .head _, ho₆⟩ n1 n2 n3 n4 n6 (mt₆.trans ?_) md₆ hc hq f.count (by omega) td.1 td.2 hQ
      exact mt₃

end
end Mine

end

section
open PySem PySem.W PySem.Calls PyProof.Rows
set_option Elab.async false
set_option maxRecDepth 100000
set_option maxHeartbeats 400000
namespace Mine
theorem fresh_L8 : True := by
  w_top off
  trivial
local macro_rules | `(tactic| walk_at "eval Name") => `(tactic| first
  | (with_unfolding_all refine nmL (by rfl) (by rfl) (by decide) (by first | with_reducible assumption | exact Fr.ns (by with_reducible assumption)) (by rfl) (by first | rfl | assumption) ?_)
  | (with_unfolding_all refine nmC (by rfl) (by rfl) (by decide) (by rfl) (by first | with_reducible assumption | assumption) ?_)
  | (with_unfolding_all refine nmG (by rfl) (by rfl) (by rfl) (by decide) (by rfl) (by first | with_reducible assumption | exact Wd.keeps (by with_reducible assumption) (Fr.keep (by with_reducible assumption))) ?_)
  | (with_unfolding_all refine nmB (by rfl) (by rfl) (by boot_by_name) (by rfl) (by rfl) (by decide) (by decide) (by rfl) (by first | with_reducible assumption | exact Wd.keeps (by with_reducible assumption) (Fr.keep (by with_reducible assumption))) ?_))
local macro_rules | `(tactic| walk_at "loadName") => `(tactic| (with_unfolding_all refine nmLd (by rfl) (by rfl) (by first | with_reducible assumption | exact Fr.ns (by with_reducible assumption)) (by rfl) (by first | rfl | assumption) ?_))
local macro_rules | `(tactic| walk_at "callWith ref") => `(tactic| (with_unfolding_all refine callF (by first | with_reducible assumption | exact Wd.keeps (by with_reducible assumption) (Fr.keep (by with_reducible assumption))) (by rfl) ?_ (by rfl) (by rfl)))
local macro_rules | `(tactic| walk_at "And") => `(tactic| ((with_reducible show Frag.In _ _ ∧ _); refine ⟨by first | exact (Wd.X (by with_reducible assumption)) | exact Wd.X (Wd.keeps (by with_reducible assumption) (Fr.keep (by with_reducible assumption))), ?_⟩; try dsimp only [List.nil_append, List.cons_append]))
local macro_rules | `(tactic| walk_at "mW") => `(tactic| repeat ((fail_if_success (with_reducible show wpAny _ _ (exec (Stmt.For _ _ _ _ _) _) _ _ _)); (fail_if_success (with_reducible show wpAny _ _ (execs (Stmt.Assign _ (Expr.List [] _) _ :: Stmt.For _ _ _ _ _ :: _) _) _ _ _)); (fail_if_success (with_reducible show wpAny _ _ (subscriptTail _ _ (Value.ref _) (Value.int _ _)) _ _ _)); (fail_if_success (with_reducible show wpAny _ _ (subscriptTail _ _ (Value.bytes _ _) (Value.int _ _)) _ _ _)); (fail_if_success (with_reducible show wpAny _ _ (setItem _ _ _) _ _ _)); (fail_if_success (with_reducible show wpAny _ _ (call (Value.type "bytes") _ _) _ _ _)); (fail_if_success (with_reducible show wpAny _ _ (call (Value.builtin "list.append") _ _) _ _ _)); (fail_if_success (with_reducible show Exists _)); (fail_if_success (with_reducible show wpAny _ _ (eval (Expr.ListComp _ _ _ _) _) _ _ _)); (fail_if_success (with_reducible show wpAny _ _ (eval (Expr.DictComp _ _ _ _ _) _) _ _ _)); (fail_if_success (with_reducible show wpAny _ _ (binaryOp _ (Value.ref _) (Value.ref _)) _ _ _)); walk1))
local macro_rules | `(tactic| walk_at "binaryOp Mult int int") => `(tactic| with_reducible refine mul_int ?_ (by with_reducible assumption))
local macro_rules | `(tactic| walk_at "binaryOp Pow int int") => `(tactic| with_reducible refine pow_int_small (by with_reducible assumption) (by with_reducible assumption) (by with_reducible assumption) ?_)

section
variable {w : World} {A : Around} {E : Value → Shared → Prop} {s : Shared}

local macro_rules | `(tactic| walk_at "eval Name") => `(tactic| first
  | (with_unfolding_all refine nmL (by rfl) (by rfl) (by decide) (by first | with_reducible assumption | exact Fr.ns (by with_reducible assumption)) (by rfl) (by first | with_reducible assumption | rfl | assumption) ?_)
  | (with_unfolding_all refine nmC (by rfl) (by rfl) (by decide) (by rfl) (by first | with_reducible assumption | assumption) ?_)
  | (with_unfolding_all refine nmG (by rfl) (by rfl) (by rfl) (by decide) (by rfl) (by first | with_reducible assumption | exact Wd.keeps (by with_reducible assumption) (Fr.keep (by with_reducible assumption))) ?_)
  | (with_unfolding_all refine nmB (by rfl) (by rfl) (by boot_by_name) (by rfl) (by rfl) (by decide) (by decide) (by rfl) (by first | with_reducible assumption | exact Wd.keeps (by with_reducible assumption) (Fr.keep (by with_reducible assumption))) ?_))
local macro_rules | `(tactic| walk_at "mL") => `(tactic| repeat ((fail_if_success (with_reducible show wpAny _ _ (execs (Stmt.For _ _ _ _ _ :: _) _) _ _ _)); (fail_if_success (with_reducible show wpAny _ _ (exec (Stmt.For _ _ _ _ _) _) _ _ _)); (fail_if_success (with_reducible show wpAny _ _ (execs (Stmt.Assign _ (Expr.List [] _) _ :: Stmt.For _ _ _ _ _ :: _) _) _ _ _)); (fail_if_success (with_reducible show wpAny _ _ (subscriptTail _ _ (Value.ref _) (Value.int _ _)) _ _ _)); (fail_if_success (with_reducible show wpAny _ _ (subscriptTail _ _ (Value.bytes _ _) (Value.int _ _)) _ _ _)); (fail_if_success (with_reducible show wpAny _ _ (setItem _ _ _) _ _ _)); (fail_if_success (with_reducible show wpAny _ _ (call (Value.type "bytes") _ _) _ _ _)); (fail_if_success (with_reducible show wpAny _ _ (call (Value.builtin "list.append") _ _) _ _ _)); (fail_if_success (with_reducible show Exists _)); (fail_if_success (with_reducible show wpAny _ _ (eval (Expr.ListComp _ _ _ _) _) _ _ _)); (fail_if_success (with_reducible show wpAny _ _ (eval (Expr.DictComp _ _ _ _ _) _) _ _ _)); (fail_if_success (with_reducible show wpAny _ _ (binaryOp _ (Value.ref _) (Value.ref _)) _ _ _)); walk1))
local macro_rules | `(tactic| walk_at "mE") => `(tactic| repeat ((fail_if_success (with_reducible show wpAny _ _ (execs (_ :: _) _) _ _ _)); (fail_if_success (with_reducible show wpAny _ _ (exec (Stmt.For _ _ _ _ _) _) _ _ _)); (fail_if_success (with_reducible show wpAny _ _ (execs (Stmt.Assign _ (Expr.List [] _) _ :: Stmt.For _ _ _ _ _ :: _) _) _ _ _)); (fail_if_success (with_reducible show wpAny _ _ (subscriptTail _ _ (Value.ref _) (Value.int _ _)) _ _ _)); (fail_if_success (with_reducible show wpAny _ _ (subscriptTail _ _ (Value.bytes _ _) (Value.int _ _)) _ _ _)); (fail_if_success (with_reducible show wpAny _ _ (setItem _ _ _) _ _ _)); (fail_if_success (with_reducible show wpAny _ _ (call (Value.type "bytes") _ _) _ _ _)); (fail_if_success (with_reducible show wpAny _ _ (call (Value.builtin "list.append") _ _) _ _ _)); (fail_if_success (with_reducible show Exists _)); (fail_if_success (with_reducible show wpAny _ _ (eval (Expr.ListComp _ _ _ _) _) _ _ _)); (fail_if_success (with_reducible show wpAny _ _ (eval (Expr.DictComp _ _ _ _ _) _) _ _ _)); (fail_if_success (with_reducible show wpAny _ _ (binaryOp _ (Value.ref _) (Value.ref _)) _ _ _)); walk1))

def oct3 (k : Int) : List Int := [k.fdiv 65536, (k.fdiv 256).fmod 256, k.fmod 256]
theorem fm3 {f : Int → List Int} (hf : ∀ k, (f k).length = 3) : ∀ {ks : List Int} {i r : Nat} {k : Int}, r < 3 → ks[i]? = some k → (ks.flatMap f)[3 * i + r]? = (f k)[r]?
  | [], i, r, k, _, h => by simp at h
  | x :: ks, 0, r, k, hr, h => by
    obtain rfl : x = k := by simpa using h
    rw [List.flatMap_cons, List.getElem?_append_left (by rw [hf]; omega), Nat.mul_zero, Nat.zero_add]
  | x :: ks, i + 1, r, k, hr, h => by
    rw [List.flatMap_cons, List.getElem?_append_right (by rw [hf]; omega), hf, show 3 * (i + 1) + r - 3 = 3 * i + r by omega]
    exact fm3 hf hr (by simpa using h)
theorem fm3_len {f : Int → List Int} (hf : ∀ k, (f k).length = 3) : ∀ ks : List Int, (ks.flatMap f).length = 3 * ks.length
  | [] => rfl
  | x :: ks => by rw [List.flatMap_cons, List.length_append, hf, fm3_len hf ks, List.length_cons]; omega
theorem u8_val {x : Int} (h0 : 0 ≤ x) (h1 : x < 256) : ((x.toNat.toUInt8).toNat : Int) = x := by
  have : x.toNat.toUInt8.toNat = x.toNat := by
    show (UInt8.ofNat x.toNat).toNat = x.toNat
    rw [UInt8.toNat_ofNat']; omega
  rw [this]; omega
theorem oct3_in {k : Int} (h : 0 ≤ k ∧ k < 16777216) : ∀ n ∈ oct3 k, 0 ≤ n ∧ n < 256 := by
  intro n hn
  unfold oct3 at hn
  rw [Int.fdiv_eq_ediv_of_nonneg _ (by decide), Int.fdiv_eq_ediv_of_nonneg _ (by decide), Int.fmod_eq_emod_of_nonneg _ (by decide), Int.fmod_eq_emod_of_nonneg _ (by decide)] at hn
  simp only [List.mem_cons, List.not_mem_nil, or_false] at hn
  rcases hn with rfl | rfl | rfl <;> omega
theorem rev_spot {t : List (Int × Int)} (hr : ∀ p ∈ t, 0 ≤ p.1 ∧ p.1 < 16777216) {rs : Array UInt8} {n : Nat} (hn : n = t.length) (hrv : ∀ m k, m < n → k < 3 → rs[3 * m + k]? = (byteArr ((t.map (·.1)).flatMap oct3))[3 * m + 2 - k]?) :
    ∀ (i : Nat) (p : Int × Int), t[i]? = some p → ((rs.toList.getD (3 * i) 0).toNat : Int) * 65536 + ((rs.toList.getD (3 * i + 1) 0).toNat : Int) * 256 + ((rs.toList.getD (3 * i + 2) 0).toNat : Int) = revKey p.1 := by
  intro i p hp
  have hi : i < n := by rw [hn]; exact (List.getElem?_eq_some_iff.mp hp).1
  have hk : (t.map (·.1))[i]? = some p.1 := by rw [List.getElem?_map, hp]; rfl
  have hb : ∀ r, r < 3 → (byteArr ((t.map (·.1)).flatMap oct3))[3 * i + r]? = ((oct3 p.1)[r]?).map (fun n => n.toNat.toUInt8) := by
    intro r hr; unfold byteArr; rw [List.getElem?_toArray, List.getElem?_map, fm3 (fun _ => rfl) hr hk]
  have hg : ∀ r, r < 3 → rs.toList.getD (3 * i + r) 0 = (((oct3 p.1)[2 - r]?).map (fun n : Int => n.toNat.toUInt8)).getD 0 := by
    intro r hr
    rw [List.getD_eq_getElem?_getD, Array.getElem?_toList, hrv i r hi hr, show 3 * i + 2 - r = 3 * i + (2 - r) by omega, hb _ (by omega)]
  have h0 := hg 0 (by decide)
  have h1 := hg 1 (by decide)
  have h2 := hg 2 (by decide)
  have hp' := hr p (List.mem_of_getElem? hp)
  have e0 : ((oct3 p.1)[2 - 0]?) = some (p.1.fmod 256) := rfl
  have e1 : ((oct3 p.1)[2 - 1]?) = some ((p.1.fdiv 256).fmod 256) := rfl
  have e2 : ((oct3 p.1)[2 - 2]?) = some (p.1.fdiv 65536) := rfl
  rw [e0, Option.map_some, Option.getD_some, Nat.add_zero] at h0
  rw [e1, Option.map_some, Option.getD_some] at h1
  rw [e2, Option.map_some, Option.getD_some] at h2
  have o := oct3_in hp'
  have o0 := o (p.1.fmod 256) (by simp [oct3])
  have o1 := o ((p.1.fdiv 256).fmod 256) (by simp [oct3])
  have o2 := o (p.1.fdiv 65536) (by simp [oct3])
  rw [h0, h1, h2, u8_val o0.1 o0.2, u8_val o1.1 o1.2, u8_val o2.1 o2.2]
  rw [Int.fdiv_eq_ediv_of_nonneg _ (by decide), Int.fdiv_eq_ediv_of_nonneg _ (by decide), Int.fmod_eq_emod_of_nonneg _ (by decide), Int.fmod_eq_emod_of_nonneg _ (by decide)]
  rfl
theorem sub_by : isSubtype (.type "bytes") (.type "bytes") = pure true := by rw [isSubtype_type]; kernel_rfl
theorem isi_by {rs : Array UInt8} {u : Tok} {Q : Value → Shared → Prop} (h : Q (.bool true) s) : wpAny (model PG w) A (call (.builtin "isinstance") [.bytes rs u, .type "bytes"]) Q E s :=
  call_isinstance (isinstance_true (Tx := "bytes") PySem.F.isi_meta_bytes sub_by) ⟨typeIs_bytes _ _ _, h⟩
theorem law_13 {h₀ : Heap} {L T g K : Addr} {cd : Value} {m : Str → Option Value} {news : List (Addr × Obj)} {a b c : Nat} {q : Int} {kn : Nat} {items : Array Value} {bs rs : Array UInt8} {tr tl : Tok} {Q : Flow → Shared → Prop} (R : Rm 3 A) (W : Wd w h₀) (F : Fr h₀ L s.heap m) (N : News h₀ L s.heap news)
    (M : Ms m a b c q T g) (hT : TbN w news T (tabOf a b c q)) (hG : GaussIn news g (gRows q (a + b + c))) (hK : (K, PySem.W.listOf items kn) ∈ news) (hki : IntsAre items.toList ((tabOf a b c q).map (·.1)))
    (mk : m (Str.ofString "keys") = some (.ref K)) (mli : m (Str.ofString "line") = some (.bytes bs tl)) (mtu : m (Str.ofString "turned") = some (.bytes rs tr)) (hrs : rs.size = 3 * (tabOf a b c q).length) (hbs : bs.size = 3 * (tabOf a b c q).length)
    (hrv : ∀ (i : Nat) (p : Int × Int), (tabOf a b c q)[i]? = some p → ((rs.toList.getD (3 * i) 0).toNat : Int) * 65536 + ((rs.toList.getD (3 * i + 1) 0).toNat : Int) * 256 + ((rs.toList.getD (3 * i + 2) 0).toNat : Int) = revKey p.1)
    (ha : a ≤ 2) (hb : b ≤ 2) (hc : c ≤ 2) (hq : -50 ≤ q ∧ q ≤ 50)
    (hQ : ∀ h' tk, (∀ b o, h₀.get? b = some o → h'.get? b = some o) → Q (.ret (.bool true)) { s with heap := h', toks := tk }) :
    wpAny (model PG w) A (execs (lawBody.drop 13) (lenv L cd)) Q (fun _ _ => False) s := by
  have e13 : ∃ st, lawBody.drop 13 = st :: lawBody.drop 14 := ⟨_, rfl⟩
  conv in List.drop 13 _ => whnf
  refine wpAny_execs_cons ?_
  walk_at "mL"
  have hz1 : bs.size ≤ 1000000 := by have := (facts ha hb hc q).len; omega
  have hz2 : rs.size ≤ 1000000 := by have := (facts ha hb hc q).len; omega
  have hee : (rs.size : Int) = (bs.size : Int) := by omega
  refine isi_by ?_
  walk_at "mE"
  · exact absurd hee ‹_›
  · walk_at "mE"
    exact law_14 R W F N M hT hG hK hki mk mtu hrs hrv ha hb hc hq hQ
theorem byteArr_in {t : List (Int × Int)} (hr : ∀ p ∈ t, 0 ≤ p.1 ∧ p.1 < 16777216) : ∀ n ∈ (t.map (·.1)).flatMap oct3, 0 ≤ n ∧ n < 256 := by
  intro n hn
  obtain ⟨k, hk, hn⟩ := List.mem_flatMap.mp hn
  obtain ⟨p, hp, rfl⟩ := List.mem_map.mp hk
  exact oct3_in (hr p hp) n hn
theorem wpKcw {f : Value} {pos : Pos} {args : List (Bool × Sem Value)} {keywords : List (Option Str × Sem Value)} {Q : Value → Shared → Prop} (hplain : (args.any (·.1) || keywords.any (·.1.isNone)) = false) (hk : keepIn (KK w) f = true)
    (h : wpAny (model PG w) A (evalArgs f true args keywords) (fun a s₁ => (KK w).In s₁.heap ∧ wpK (model PG w) A (call f a.pos a.kw) Q E s₁) E s) : wpK (model PG w) A (callWith pos f [] args keywords) Q E s := by
  unfold callWith
  refine wpK_bindA (wpAny_holding (wpAny_mono h (fun a s₁ h₁ => wpK_bindA (wpAny_standAt ?_)) fun _ _ x => x))
  obtain ⟨k, hk', L⟩ := keeps_K (M := model PG w) hk _ h₁.1
  simp only [hplain]
  refine wpK_bindA (L.here ?_)
  have tail : ∀ {t : Sem Value}, wpK (model PG w) A t Q E s₁ → wpK (model PG w) A (t >>= fun r => holding [r] point >>= fun _ => pure r) Q E s₁ :=
    fun ht => wpK_bind (wpK_mono ht (fun r s₂ hr => wpK_of (wpAny_bind (wpAny_holding (wpAny_point (wpAny_pure hr))))) fun _ _ x => x)
  have marked (mk : Value) : wpK (model PG w) A (callMarked mk f a.pos a.kw) Q E s₁ := by unfold callMarked; exact wpK_keep h₁.2
  rcases hk' with rfl | rfl | rfl <;> dsimp only <;> first | exact tail h₁.2 | (split <;> first | exact tail h₁.2 | exact tail (marked _))
theorem callFK {f : Value} {e : Expr} {rest : List Expr} {env : Env} {pos : Pos} {Q : Value → Shared → Prop} (hk : keepIn (KK w) f = true)
    (h : wpAny (model PG w) A (spliced (backTo pos (starEach (e :: rest) env))) (fun vs s₁ => (KK w).In s₁.heap ∧ wpK (model PG w) A (call f vs []) Q E s₁) E s)
    (he : starEach (e :: rest) env = (false, eval e env) :: starEach rest env) (hplain : (backTo pos (starEach rest env)).any (·.1) = false) :
    wpK (model PG w) A (callWith pos f [] (backTo pos (starEach (e :: rest) env)) []) Q E s := by
  rw [he] at h ⊢
  exact wpKcw (by show ((false || (backTo pos (starEach rest env)).any (·.1)) || false) = false; rw [hplain]; rfl) hk (evalArgs_plain h)
theorem law_12 {h₀ : Heap} {L T g K : Addr} {cd : Value} {m : Str → Option Value} {news : List (Addr × Obj)} {a b c : Nat} {q : Int} {kn : Nat} {items : Array Value} {tl : Tok} {Q : Flow → Shared → Prop} (R : Rm 3 A) (hgd : A.guards = some []) (W : Wd w h₀) (F : Fr h₀ L s.heap m) (N : News h₀ L s.heap news)
    (M : Ms m a b c q T g) (hT : TbN w news T (tabOf a b c q)) (hG : GaussIn news g (gRows q (a + b + c))) (hK : (K, PySem.W.listOf items kn) ∈ news) (hki : IntsAre items.toList ((tabOf a b c q).map (·.1)))
    (mk : m (Str.ofString "keys") = some (.ref K)) (mli : m (Str.ofString "line") = some (.bytes (byteArr (((tabOf a b c q).map (·.1)).flatMap oct3)) tl))
    (ha : a ≤ 2) (hb : b ≤ 2) (hc : c ≤ 2) (hq : -50 ≤ q ∧ q ≤ 50)
    (hQ : ∀ h' tk, (∀ b o, h₀.get? b = some o → h'.get? b = some o) → Q (.ret (.bool true)) { s with heap := h', toks := tk }) :
    wpK (model PG w) A (execs (lawBody.drop 12) (lenv L cd)) Q (fun _ _ => False) s := by
  have f := facts ha hb hc q
  have e12 : ∃ st, lawBody.drop 12 = st :: lawBody.drop 13 := ⟨_, rfl⟩
  have hbs : (byteArr (((tabOf a b c q).map (·.1)).flatMap oct3)).size = 3 * (tabOf a b c q).length := by rw [byteArr_size, fm3_len (fun _ => rfl), List.length_map]
  conv in List.drop 12 _ => whnf
  refine wpK_execs_cons ?_
  refine wpK_Assign_Name ?_ rfl
  refine wpK_Call_Name ?_
  walk_at "mL"
  refine callFK rfl ?_ rfl rfl
  walk_at "mL"
  refine c_swap R.tail hgd (W.keeps F.keep) hbs (by have := f.len; omega) ?_
  rintro rs u s₁ ⟨h₁, tk₁, rfl, k₁⟩ hrs hrv
  have F₁ : Fr h₀ L h₁ m := Fr.after F k₁
  have N₁ : News h₀ L h₁ news := News.keepsAll N k₁
  refine wpAny_storeName_local rfl F₁.ns (fun h₂ hn₂ hs₂ => ?_)
  have F₂ := F₁.set hn₂ hs₂
  have N₂ := N₁.set hs₂
  have M₂ := M.set (Str.ofString "turned") (some (.bytes rs u)) (by decide)
  refine wpK_of ?_
  exact law_13 (s := { s with heap := h₂, toks := _ }) R W F₂ N₂ M₂ hT hG hK hki (by with_unfolding_all exact mk) (by with_unfolding_all exact mli) rfl hrs hbs (rev_spot f.range rfl hrv) ha hb hc hq hQ

end
end Mine

end

section
open PySem PySem.W PySem.Calls PyProof.Rows
set_option Elab.async false
set_option maxRecDepth 100000
set_option maxHeartbeats 400000
namespace Mine
theorem fresh_L9 : True := by
  w_top off
  trivial
local macro_rules | `(tactic| walk_at "none of these") => `(tactic| skip)
local macro_rules | `(tactic| walk_at "eval Name") => `(tactic| first
  | (with_unfolding_all refine nmL (by rfl) (by rfl) (by decide) (by first | with_reducible assumption | exact Fr.ns (by with_reducible assumption)) (by rfl) (by first | rfl | assumption) ?_)
  | (with_unfolding_all refine nmC (by rfl) (by rfl) (by decide) (by rfl) (by first | with_reducible assumption | assumption) ?_)
  | (with_unfolding_all refine nmG (by rfl) (by rfl) (by rfl) (by decide) (by rfl) (by first | with_reducible assumption | exact Wd.keeps (by with_reducible assumption) (Fr.keep (by with_reducible assumption))) ?_)
  | (with_unfolding_all refine nmB (by rfl) (by rfl) (by boot_by_name) (by rfl) (by rfl) (by decide) (by decide) (by rfl) (by first | with_reducible assumption | exact Wd.keeps (by with_reducible assumption) (Fr.keep (by with_reducible assumption))) ?_))
local macro_rules | `(tactic| walk_at "loadName") => `(tactic| (with_unfolding_all refine nmLd (by rfl) (by rfl) (by first | with_reducible assumption | exact Fr.ns (by with_reducible assumption)) (by rfl) (by first | rfl | assumption) ?_))
local macro_rules | `(tactic| walk_at "callWith ref") => `(tactic| (with_unfolding_all refine callF (by first | with_reducible assumption | exact Wd.keeps (by with_reducible assumption) (Fr.keep (by with_reducible assumption))) (by rfl) ?_ (by rfl) (by rfl)))
local macro_rules | `(tactic| walk_at "And") => `(tactic| ((with_reducible show Frag.In _ _ ∧ _); refine ⟨by first | exact (Wd.X (by with_reducible assumption)) | exact Wd.X (Wd.keeps (by with_reducible assumption) (Fr.keep (by with_reducible assumption))), ?_⟩; try dsimp only [List.nil_append, List.cons_append]))
local macro_rules | `(tactic| walk_at "mW") => `(tactic| repeat ((fail_if_success (with_reducible show wpAny _ _ (exec (Stmt.For _ _ _ _ _) _) _ _ _)); (fail_if_success (with_reducible show wpAny _ _ (execs (Stmt.Assign _ (Expr.List [] _) _ :: Stmt.For _ _ _ _ _ :: _) _) _ _ _)); (fail_if_success (with_reducible show wpAny _ _ (subscriptTail _ _ (Value.ref _) (Value.int _ _)) _ _ _)); (fail_if_success (with_reducible show wpAny _ _ (subscriptTail _ _ (Value.bytes _ _) (Value.int _ _)) _ _ _)); (fail_if_success (with_reducible show wpAny _ _ (setItem _ _ _) _ _ _)); (fail_if_success (with_reducible show wpAny _ _ (call (Value.type "bytes") _ _) _ _ _)); (fail_if_success (with_reducible show wpAny _ _ (call (Value.builtin "list.append") _ _) _ _ _)); (fail_if_success (with_reducible show Exists _)); (fail_if_success (with_reducible show wpAny _ _ (eval (Expr.ListComp _ _ _ _) _) _ _ _)); (fail_if_success (with_reducible show wpAny _ _ (eval (Expr.DictComp _ _ _ _ _) _) _ _ _)); (fail_if_success (with_reducible show wpAny _ _ (binaryOp _ (Value.ref _) (Value.ref _)) _ _ _)); walk1))
local macro_rules | `(tactic| walk_at "binaryOp Mult int int") => `(tactic| with_reducible refine mul_int ?_ (by with_reducible assumption))
local macro_rules | `(tactic| walk_at "binaryOp Pow int int") => `(tactic| with_reducible refine pow_int_small (by with_reducible assumption) (by with_reducible assumption) (by with_reducible assumption) ?_)

section
variable {w : World} {A : Around} {E : Value → Shared → Prop} {s : Shared}

local macro_rules | `(tactic| walk_at "eval Name") => `(tactic| first
  | (with_unfolding_all refine nmL (by rfl) (by rfl) (by decide) (by first | with_reducible assumption | exact Fr.ns (by with_reducible assumption)) (by rfl) (by first | with_reducible assumption | rfl | assumption) ?_)
  | (with_unfolding_all refine nmC (by rfl) (by rfl) (by decide) (by rfl) (by first | with_reducible assumption | assumption) ?_)
  | (with_unfolding_all refine nmG (by rfl) (by rfl) (by rfl) (by decide) (by rfl) (by first | with_reducible assumption | exact Wd.keeps (by with_reducible assumption) (Fr.keep (by with_reducible assumption))) ?_)
  | (with_unfolding_all refine nmB (by rfl) (by rfl) (by boot_by_name) (by rfl) (by rfl) (by decide) (by decide) (by rfl) (by first | with_reducible assumption | exact Wd.keeps (by with_reducible assumption) (Fr.keep (by with_reducible assumption))) ?_))
local macro_rules | `(tactic| walk_at "mL") => `(tactic| repeat ((fail_if_success (with_reducible show wpAny _ _ (execs (Stmt.For _ _ _ _ _ :: _) _) _ _ _)); (fail_if_success (with_reducible show wpAny _ _ (exec (Stmt.For _ _ _ _ _) _) _ _ _)); (fail_if_success (with_reducible show wpAny _ _ (execs (Stmt.Assign _ (Expr.List [] _) _ :: Stmt.For _ _ _ _ _ :: _) _) _ _ _)); (fail_if_success (with_reducible show wpAny _ _ (subscriptTail _ _ (Value.ref _) (Value.int _ _)) _ _ _)); (fail_if_success (with_reducible show wpAny _ _ (subscriptTail _ _ (Value.bytes _ _) (Value.int _ _)) _ _ _)); (fail_if_success (with_reducible show wpAny _ _ (setItem _ _ _) _ _ _)); (fail_if_success (with_reducible show wpAny _ _ (call (Value.type "bytes") _ _) _ _ _)); (fail_if_success (with_reducible show wpAny _ _ (call (Value.builtin "list.append") _ _) _ _ _)); (fail_if_success (with_reducible show Exists _)); (fail_if_success (with_reducible show wpAny _ _ (eval (Expr.ListComp _ _ _ _) _) _ _ _)); (fail_if_success (with_reducible show wpAny _ _ (eval (Expr.DictComp _ _ _ _ _) _) _ _ _)); (fail_if_success (with_reducible show wpAny _ _ (binaryOp _ (Value.ref _) (Value.ref _)) _ _ _)); walk1))
local macro_rules | `(tactic| walk_at "mE") => `(tactic| repeat ((fail_if_success (with_reducible show wpAny _ _ (execs (_ :: _) _) _ _ _)); (fail_if_success (with_reducible show wpAny _ _ (exec (Stmt.For _ _ _ _ _) _) _ _ _)); (fail_if_success (with_reducible show wpAny _ _ (execs (Stmt.Assign _ (Expr.List [] _) _ :: Stmt.For _ _ _ _ _ :: _) _) _ _ _)); (fail_if_success (with_reducible show wpAny _ _ (subscriptTail _ _ (Value.ref _) (Value.int _ _)) _ _ _)); (fail_if_success (with_reducible show wpAny _ _ (subscriptTail _ _ (Value.bytes _ _) (Value.int _ _)) _ _ _)); (fail_if_success (with_reducible show wpAny _ _ (setItem _ _ _) _ _ _)); (fail_if_success (with_reducible show wpAny _ _ (call (Value.type "bytes") _ _) _ _ _)); (fail_if_success (with_reducible show wpAny _ _ (call (Value.builtin "list.append") _ _) _ _ _)); (fail_if_success (with_reducible show Exists _)); (fail_if_success (with_reducible show wpAny _ _ (eval (Expr.ListComp _ _ _ _) _) _ _ _)); (fail_if_success (with_reducible show wpAny _ _ (eval (Expr.DictComp _ _ _ _ _) _) _ _ _)); (fail_if_success (with_reducible show wpAny _ _ (binaryOp _ (Value.ref _) (Value.ref _)) _ _ _)); walk1))

theorem law_11 {h₀ : Heap} {L T g K : Addr} {cd : Value} {m : Str → Option Value} {news : List (Addr × Obj)} {a b c : Nat} {q : Int} {kn : Nat} {items : Array Value} {Q : Flow → Shared → Prop} (R : Rm 3 A) (hgd : A.guards = some []) (W : Wd w h₀) (F : Fr h₀ L s.heap m) (N : News h₀ L s.heap news)
    (M : Ms m a b c q T g) (hT : TbN w news T (tabOf a b c q)) (hG : GaussIn news g (gRows q (a + b + c))) (hK : (K, PySem.W.listOf items kn) ∈ news) (hki : IntsAre items.toList ((tabOf a b c q).map (·.1)))
    (mk : m (Str.ofString "keys") = some (.ref K))
    (ha : a ≤ 2) (hb : b ≤ 2) (hc : c ≤ 2) (hq : -50 ≤ q ∧ q ≤ 50)
    (hQ : ∀ h' tk, (∀ b o, h₀.get? b = some o → h'.get? b = some o) → Q (.ret (.bool true)) { s with heap := h', toks := tk }) :
    wpK (model PG w) A (execs (lawBody.drop 11) (lenv L cd)) Q (fun _ _ => False) s := by
  have f := facts ha hb hc q
  have e11 : ∃ st, lawBody.drop 11 = st :: lawBody.drop 12 := ⟨_, rfl⟩
  have hlen := f.len
  have hKl : s.heap.IsList K items := listOf_is (N _ hK).1
  have hsz : 3 * ((tabOf a b c q).map (·.1)).length + 3 ≤ sizeLine := by rw [List.length_map, sizeLine_eq]; omega
  have e256 : (256 : Int) ^ (2 : Int).toNat = 65536 := by decide
  conv in List.drop 11 _ => whnf
  refine wpK_execs_cons (wpK_of ?_)
  walk_at "mL"
  refine octets oct3 R.hh hKl hki (fun _ => rfl) hsz ?_ rfl (by decide) rfl (by decide) rfl rfl (by decide) ?_ ?_
  · intro Q' hQ'
    exact nmL (by rfl) (by rfl) (by decide) F.ns (by rfl) mk hQ'
  · intro C k t s₁ m₁ hk hn hm hkeep
    have w1 : (0 : Int) ≤ 2 := by decide
    have w2 : (2 : Int) ≤ 1000000 := by decide
    have w3 : (256 : Int).natAbs < 2 ^ 64 := by decide
    have eo : oct3 k = [k.fdiv ((256 : Int) ^ (2 : Int).toNat), (k.fdiv 256).fmod 256, k.fmod 256] := by unfold oct3; rw [e256]
    have hnone : s₁.heap.get? s₁.heap.objs.size = none := by
      cases e : s₁.heap.get? s₁.heap.objs.size with
      | none => rfl
      | some o => exact absurd (Heap.lt_size e) (Nat.lt_irrefl _)
    have h3 : 3 ≤ sizeLine := by rw [sizeLine_eq]; decide
    refine wpAny_Tuple ?_
    walk_at "mL"
    · exact h3
    · refine ⟨_, _, rfl, ⟨_, _, rfl, fun b o e => Heap.get?_push_of_some _ e⟩, hnone, ⟨_, Heap.get?_push_size _ rfl, rfl, _, rfl⟩, ?_⟩
      rw [eo]
      exact .cons _ _ (.cons _ _ (.cons _ _ .nil))
  · intro D h₁ tk₁ vs hDn hD hvs hk₁
    have F₁ : Fr h₀ L h₁ m := Fr.after F hk₁
    have N₁ : News h₀ L h₁ news := News.keepsAll N hk₁
    have hvl : vs.length ≤ sizeLine := by rw [hvs.length, fm3_len (fun _ => rfl)]; omega
    walk_at "mL"
    refine call_bytes_ints hD hvs (byteArr_in f.range) hvl R.hh ?_
    intro h₂ tl tk₂ hk₂
    have F₂ : Fr h₀ L h₂ m := Fr.after F₁ hk₂
    have N₂ : News h₀ L h₂ news := News.keepsAll N₁ hk₂
    refine wpAny_storeName_local rfl F₂.ns (fun h₃ hn₃ hs₃ => ?_)
    have F₃ := F₂.set hn₃ hs₃
    have N₃ := N₂.set hs₃
    have M₃ := M.set (Str.ofString "line") (some (.bytes (byteArr (((tabOf a b c q).map (·.1)).flatMap oct3)) tl)) (by decide)
    exact law_12 (s := { s with heap := h₃, toks := _ }) R hgd W F₃ N₃ M₃ hT hG hK hki (by with_unfolding_all exact mk) rfl ha hb hc hq hQ

end
end Mine

end

section
open PySem PySem.W PySem.Calls PyProof.Rows
set_option Elab.async false
set_option maxRecDepth 100000
set_option maxHeartbeats 400000
namespace Mine
theorem fresh_L10 : True := by
  w_top off
  trivial
local macro_rules | `(tactic| walk_at "eval Name") => `(tactic| first
  | (with_unfolding_all refine nmL (by rfl) (by rfl) (by decide) (by first | with_reducible assumption | exact Fr.ns (by with_reducible assumption)) (by rfl) (by first | rfl | assumption) ?_)
  | (with_unfolding_all refine nmC (by rfl) (by rfl) (by decide) (by rfl) (by first | with_reducible assumption | assumption) ?_)
  | (with_unfolding_all refine nmG (by rfl) (by rfl) (by rfl) (by decide) (by rfl) (by first | with_reducible assumption | exact Wd.keeps (by with_reducible assumption) (Fr.keep (by with_reducible assumption))) ?_)
  | (with_unfolding_all refine nmB (by rfl) (by rfl) (by boot_by_name) (by rfl) (by rfl) (by decide) (by decide) (by rfl) (by first | with_reducible assumption | exact Wd.keeps (by with_reducible assumption) (Fr.keep (by with_reducible assumption))) ?_))
local macro_rules | `(tactic| walk_at "loadName") => `(tactic| (with_unfolding_all refine nmLd (by rfl) (by rfl) (by first | with_reducible assumption | exact Fr.ns (by with_reducible assumption)) (by rfl) (by first | rfl | assumption) ?_))
local macro_rules | `(tactic| walk_at "callWith ref") => `(tactic| (with_unfolding_all refine callF (by first | with_reducible assumption | exact Wd.keeps (by with_reducible assumption) (Fr.keep (by with_reducible assumption))) (by rfl) ?_ (by rfl) (by rfl)))
local macro_rules | `(tactic| walk_at "And") => `(tactic| ((with_reducible show Frag.In _ _ ∧ _); refine ⟨by first | exact (Wd.X (by with_reducible assumption)) | exact Wd.X (Wd.keeps (by with_reducible assumption) (Fr.keep (by with_reducible assumption))), ?_⟩; try dsimp only [List.nil_append, List.cons_append]))
local macro_rules | `(tactic| walk_at "mW") => `(tactic| repeat ((fail_if_success (with_reducible show wpAny _ _ (exec (Stmt.For _ _ _ _ _) _) _ _ _)); (fail_if_success (with_reducible show wpAny _ _ (execs (Stmt.Assign _ (Expr.List [] _) _ :: Stmt.For _ _ _ _ _ :: _) _) _ _ _)); (fail_if_success (with_reducible show wpAny _ _ (subscriptTail _ _ (Value.ref _) (Value.int _ _)) _ _ _)); (fail_if_success (with_reducible show wpAny _ _ (subscriptTail _ _ (Value.bytes _ _) (Value.int _ _)) _ _ _)); (fail_if_success (with_reducible show wpAny _ _ (setItem _ _ _) _ _ _)); (fail_if_success (with_reducible show wpAny _ _ (call (Value.type "bytes") _ _) _ _ _)); (fail_if_success (with_reducible show wpAny _ _ (call (Value.builtin "list.append") _ _) _ _ _)); (fail_if_success (with_reducible show Exists _)); (fail_if_success (with_reducible show wpAny _ _ (eval (Expr.ListComp _ _ _ _) _) _ _ _)); (fail_if_success (with_reducible show wpAny _ _ (eval (Expr.DictComp _ _ _ _ _) _) _ _ _)); (fail_if_success (with_reducible show wpAny _ _ (binaryOp _ (Value.ref _) (Value.ref _)) _ _ _)); walk1))
local macro_rules | `(tactic| walk_at "binaryOp Mult int int") => `(tactic| with_reducible refine mul_int ?_ (by with_reducible assumption))
local macro_rules | `(tactic| walk_at "binaryOp Pow int int") => `(tactic| with_reducible refine pow_int_small (by with_reducible assumption) (by with_reducible assumption) (by with_reducible assumption) ?_)

section
variable {w : World} {A : Around} {E : Value → Shared → Prop} {s : Shared}

local macro_rules | `(tactic| walk_at "eval Name") => `(tactic| first
  | (with_unfolding_all refine nmL (by rfl) (by rfl) (by decide) (by first | with_reducible assumption | exact Fr.ns (by with_reducible assumption)) (by rfl) (by first | with_reducible assumption | rfl | assumption) ?_)
  | (with_unfolding_all refine nmC (by rfl) (by rfl) (by decide) (by rfl) (by first | with_reducible assumption | assumption) ?_)
  | (with_unfolding_all refine nmG (by rfl) (by rfl) (by rfl) (by decide) (by rfl) (by first | with_reducible assumption | exact Wd.keeps (by with_reducible assumption) (Fr.keep (by with_reducible assumption))) ?_)
  | (with_unfolding_all refine nmB (by rfl) (by rfl) (by boot_by_name) (by rfl) (by rfl) (by decide) (by decide) (by rfl) (by first | with_reducible assumption | exact Wd.keeps (by with_reducible assumption) (Fr.keep (by with_reducible assumption))) ?_))
local macro_rules | `(tactic| walk_at "mL") => `(tactic| repeat ((fail_if_success (with_reducible show wpAny _ _ (execs (Stmt.For _ _ _ _ _ :: _) _) _ _ _)); (fail_if_success (with_reducible show wpAny _ _ (exec (Stmt.For _ _ _ _ _) _) _ _ _)); (fail_if_success (with_reducible show wpAny _ _ (execs (Stmt.Assign _ (Expr.List [] _) _ :: Stmt.For _ _ _ _ _ :: _) _) _ _ _)); (fail_if_success (with_reducible show wpAny _ _ (subscriptTail _ _ (Value.ref _) (Value.int _ _)) _ _ _)); (fail_if_success (with_reducible show wpAny _ _ (subscriptTail _ _ (Value.bytes _ _) (Value.int _ _)) _ _ _)); (fail_if_success (with_reducible show wpAny _ _ (setItem _ _ _) _ _ _)); (fail_if_success (with_reducible show wpAny _ _ (call (Value.type "bytes") _ _) _ _ _)); (fail_if_success (with_reducible show wpAny _ _ (call (Value.builtin "list.append") _ _) _ _ _)); (fail_if_success (with_reducible show Exists _)); (fail_if_success (with_reducible show wpAny _ _ (eval (Expr.ListComp _ _ _ _) _) _ _ _)); (fail_if_success (with_reducible show wpAny _ _ (eval (Expr.DictComp _ _ _ _ _) _) _ _ _)); (fail_if_success (with_reducible show wpAny _ _ (binaryOp _ (Value.ref _) (Value.ref _)) _ _ _)); walk1))
local macro_rules | `(tactic| walk_at "mE") => `(tactic| repeat ((fail_if_success (with_reducible show wpAny _ _ (execs (_ :: _) _) _ _ _)); (fail_if_success (with_reducible show wpAny _ _ (exec (Stmt.For _ _ _ _ _) _) _ _ _)); (fail_if_success (with_reducible show wpAny _ _ (execs (Stmt.Assign _ (Expr.List [] _) _ :: Stmt.For _ _ _ _ _ :: _) _) _ _ _)); (fail_if_success (with_reducible show wpAny _ _ (subscriptTail _ _ (Value.ref _) (Value.int _ _)) _ _ _)); (fail_if_success (with_reducible show wpAny _ _ (subscriptTail _ _ (Value.bytes _ _) (Value.int _ _)) _ _ _)); (fail_if_success (with_reducible show wpAny _ _ (setItem _ _ _) _ _ _)); (fail_if_success (with_reducible show wpAny _ _ (call (Value.type "bytes") _ _) _ _ _)); (fail_if_success (with_reducible show wpAny _ _ (call (Value.builtin "list.append") _ _) _ _ _)); (fail_if_success (with_reducible show Exists _)); (fail_if_success (with_reducible show wpAny _ _ (eval (Expr.ListComp _ _ _ _) _) _ _ _)); (fail_if_success (with_reducible show wpAny _ _ (eval (Expr.DictComp _ _ _ _ _) _) _ _ _)); (fail_if_success (with_reducible show wpAny _ _ (binaryOp _ (Value.ref _) (Value.ref _)) _ _ _)); walk1))

theorem ints_of_keys : ∀ (vs : List Value) (kvs : List (Int × Value)), vs.length = kvs.length → (∀ (j : Nat) (v : Value), vs[j]? = some v → ∃ k x, kvs[j]? = some (k, x) ∧ (PySem.intKind PG w).is k v = true) → IntsAre vs (kvs.map (·.1))
  | [], [], _, _ => .nil
  | v :: vs, (k, x) :: kvs, hl, h => by
    obtain ⟨k', x', e, hk⟩ := h 0 v rfl
    obtain ⟨rfl, rfl⟩ : k = k' ∧ x = x' := by simpa using e
    obtain ⟨tk, rfl⟩ := Value.isInt_shape hk
    exact .cons _ _ (ints_of_keys vs kvs (by simpa using hl) fun j v hj => by simpa using h (j + 1) v (by simpa using hj))
theorem paired_eq : ∀ {l₁ l₂ : List Value}, Paired (fun v y => y = v) l₁ l₂ → l₂ = l₁
  | _, _, .nil => rfl
  | _, _, .cons h t => by rw [h, paired_eq t]
theorem law_10 {h₀ : Heap} {L T g : Addr} {cd : Value} {m : Str → Option Value} {news : List (Addr × Obj)} {a b c : Nat} {q : Int} {Q : Flow → Shared → Prop} (R : Rm 3 A) (hgd : A.guards = some []) (W : Wd w h₀) (F : Fr h₀ L s.heap m) (N : News h₀ L s.heap news)
    (M : Ms m a b c q T g) (hT : TbN w news T (tabOf a b c q)) (hG : GaussIn news g (gRows q (a + b + c)))
    (ha : a ≤ 2) (hb : b ≤ 2) (hc : c ≤ 2) (hq : -50 ≤ q ∧ q ≤ 50)
    (hQ : ∀ h' tk, (∀ b o, h₀.get? b = some o → h'.get? b = some o) → Q (.ret (.bool true)) { s with heap := h', toks := tk }) :
    wpK (model PG w) A (execs (lawBody.drop 10) (lenv L cd)) Q (fun _ _ => False) s := by
  have f := facts ha hb hc q
  have e10 : ∃ st, lawBody.drop 10 = st :: lawBody.drop 11 := ⟨_, rfl⟩
  have hlen := f.len
  obtain ⟨kvs, hD, hTb, lo⟩ := hT.isTb N
  obtain ⟨ep, hat⟩ := hD.dictAt
  have hkl : kvs.length ≤ sizeLine := by rw [hTb.length, sizeLine_eq]; omega
  have hTlt : T < s.heap.objs.size := by obtain ⟨_, _, _, e, _⟩ := hD; exact Heap.lt_size e
  have hLlt : L < s.heap.objs.size := F.ns.lt
  conv in List.drop 10 _ => whnf
  refine wpK_execs_cons (wpK_of ?_)
  refine wpAny_Assign_ListComp_free (fun _ => true) (fun v y => y = v) rfl rfl (by decide) rfl (by decide) rfl rfl rfl ?_
  refine nmL (by rfl) (by rfl) (by decide) F.ns (by rfl) M.table ?_
  refine wpAny_pyIter_dict lo hat ?_
  have k₁ : ∀ b o, s.heap.get? b = some o → (s.heap.push { cls := .type "dict_keyiterator", data := .fields #[.ref T, .int 0 0, .int kvs.length 0, .int ep 0] }).get? b = some o := fun b o e => Heap.get?_push_of_some _ e
  have hit : (s.heap.push { cls := .type "dict_keyiterator", data := .fields #[.ref T, .int 0 0, .int kvs.length 0, .int ep 0] }).IsKeyIter s.heap.objs.size T 0 kvs.length ep := ⟨_, Heap.get?_push_size _ rfl, rfl, rfl⟩
  have hz₁ : (s.heap.push { cls := .type "dict_keyiterator", data := .fields #[.ref T, .int 0 0, .int kvs.length 0, .int ep 0] }).objs.size = s.heap.objs.size + 1 := Heap.size_push ..
  have hat₁ := hat.at' (h' := s.heap.push { cls := .type "dict_keyiterator", data := .fields #[.ref T, .int 0 0, .int kvs.length 0, .int ep 0] }) fun o e => k₁ _ o e
  have hIn : s.heap.get? s.heap.objs.size = none := by
    cases e : s.heap.get? s.heap.objs.size with
    | none => rfl
    | some o => exact absurd (Heap.lt_size e) (Nat.lt_irrefl _)
  generalize s.heap.push { cls := .type "dict_keyiterator", data := .fields #[.ref T, .int 0 0, .int kvs.length 0, .int ep 0] } = H₁ at k₁ hit hz₁ hat₁ ⊢
  have hTI : T ≠ s.heap.objs.size := Nat.ne_of_lt hTlt
  have hLI : L ≠ s.heap.objs.size := Nat.ne_of_lt hLlt
  refine ⟨s.heap.objs.size, _, [s.heap.objs.size], kvs.length, _, _, m, rfl, Walks.dictKeys (knd := PySem.intKind PG w) R.hh s.heap.objs.size T hTI kvs ep, hkl, ⟨hit, hat₁⟩, ?_, ?_, ?_, ?_, ?_⟩
  · intro b hb
    dsimp only
    rw [hz₁]
    rcases List.mem_cons.mp hb with rfl | hb
    · exact Nat.lt_succ_self _
    · rw [List.mem_singleton.mp hb]; exact Nat.lt_succ_of_lt hTlt
  · intro hm
    exact hLI (List.mem_singleton.mp hm)
  · exact F.ns.at' fun o e => k₁ _ o e
  · refine ⟨?_, ?_⟩
    · intro C i v s₃ m₃ E' hC hP hn hm hk ht
      exact wpAny_pure ⟨rfl, keeps_refl _⟩
    · intro C i v s₃ m₃ E' hC hP hp hn hm hk ht
      exact nmL (by rfl) (by rfl) (by decide) hn (by rfl) hm ⟨rfl, keeps_refl _⟩
  · intro D h' tk ys vs hDn hDl hDp hvl hvP hpair hns hk
    have e := paired_eq hpair
    rw [List.filter_eq_self.mpr (by simp)] at e
    have hI : IntsAre ys.toList ((tabOf a b c q).map (·.1)) := by
      rw [e, ← hTb.keys]; exact ints_of_keys vs kvs hvl hvP
    have keep : ∀ b o, b ≠ L → s.heap.get? b = some o → h'.get? b = some o := fun b o hb e => hk b o hb (fun hm => by rw [List.mem_singleton.mp hm, hIn] at e; cases e) (k₁ b o e)
    obtain ⟨n, hDo⟩ := hDp
    have hDs : s.heap.get? D = none := by
      cases e : s.heap.get? D with
      | none => rfl
      | some o => rw [k₁ _ _ e] at hDn; cases hDn
    have hD0 : h₀.get? D = none := by
      cases e : h₀.get? D with
      | none => rfl
      | some o => rw [F.keep _ _ e] at hDs; cases hDs
    have hL0 : ∀ b o, h₀.get? b = some o → b ≠ L := fun b o e => Nat.ne_of_lt (Nat.lt_of_lt_of_le (Heap.lt_size e) F.above)
    have F₁ : Fr h₀ L h' (fun z => if z = Str.ofString "keys" then some (.ref D) else m z) := ⟨hns, fun b o e => keep b o (hL0 b o e) (F.keep b o e), F.above⟩
    have N₁ : News h₀ L h' ((D, PySem.W.listOf ys n) :: news) := fun p hp => by
      rcases List.mem_cons.mp hp with rfl | hp
      · refine ⟨hDo, fun e => ?_, hD0⟩
        obtain ⟨o, _, _, ho, _⟩ := F.ns
        have e : D = L := e
        rw [← e, hDs] at ho; cases ho
      · exact ⟨keep _ _ (N p hp).2.1 (N p hp).1, (N p hp).2⟩
    have M₁ := M.set (Str.ofString "keys") (some (.ref D)) (by decide)
    obtain ⟨lo', oT, hoT, hb'⟩ := hT
    exact law_11 (s := { s with heap := h', toks := tk }) R hgd W F₁ N₁ M₁ ⟨lo', oT, .tail _ hoT, hb'⟩ (hG.mono fun p hp => .tail _ hp) (.head _) hI rfl ha hb hc hq hQ

end
end Mine

end

section
open PySem PySem.W PySem.Calls PyProof.Rows
set_option Elab.async false
set_option maxRecDepth 100000
set_option maxHeartbeats 400000
namespace Mine
theorem fresh_L11 : True := by
  w_top off
  trivial
local macro_rules | `(tactic| walk_at "none of these") => `(tactic| skip)
local macro_rules | `(tactic| walk_at "eval Name") => `(tactic| first
  | (with_unfolding_all refine nmL (by rfl) (by rfl) (by decide) (by first | with_reducible assumption | exact Fr.ns (by with_reducible assumption)) (by rfl) (by first | rfl | assumption) ?_)
  | (with_unfolding_all refine nmC (by rfl) (by rfl) (by decide) (by rfl) (by first | with_reducible assumption | assumption) ?_)
  | (with_unfolding_all refine nmG (by rfl) (by rfl) (by rfl) (by decide) (by rfl) (by first | with_reducible assumption | exact Wd.keeps (by with_reducible assumption) (Fr.keep (by with_reducible assumption))) ?_)
  | (with_unfolding_all refine nmB (by rfl) (by rfl) (by boot_by_name) (by rfl) (by rfl) (by decide) (by decide) (by rfl) (by first | with_reducible assumption | exact Wd.keeps (by with_reducible assumption) (Fr.keep (by with_reducible assumption))) ?_))
local macro_rules | `(tactic| walk_at "loadName") => `(tactic| (with_unfolding_all refine nmLd (by rfl) (by rfl) (by first | with_reducible assumption | exact Fr.ns (by with_reducible assumption)) (by rfl) (by first | rfl | assumption) ?_))
local macro_rules | `(tactic| walk_at "callWith ref") => `(tactic| (with_unfolding_all refine callF (by first | with_reducible assumption | exact Wd.keeps (by with_reducible assumption) (Fr.keep (by with_reducible assumption))) (by rfl) ?_ (by rfl) (by rfl)))
local macro_rules | `(tactic| walk_at "And") => `(tactic| ((with_reducible show Frag.In _ _ ∧ _); refine ⟨by first | exact (Wd.X (by with_reducible assumption)) | exact Wd.X (Wd.keeps (by with_reducible assumption) (Fr.keep (by with_reducible assumption))), ?_⟩; try dsimp only [List.nil_append, List.cons_append]))
local macro_rules | `(tactic| walk_at "mW") => `(tactic| repeat ((fail_if_success (with_reducible show wpAny _ _ (exec (Stmt.For _ _ _ _ _) _) _ _ _)); (fail_if_success (with_reducible show wpAny _ _ (execs (Stmt.Assign _ (Expr.List [] _) _ :: Stmt.For _ _ _ _ _ :: _) _) _ _ _)); (fail_if_success (with_reducible show wpAny _ _ (subscriptTail _ _ (Value.ref _) (Value.int _ _)) _ _ _)); (fail_if_success (with_reducible show wpAny _ _ (subscriptTail _ _ (Value.bytes _ _) (Value.int _ _)) _ _ _)); (fail_if_success (with_reducible show wpAny _ _ (setItem _ _ _) _ _ _)); (fail_if_success (with_reducible show wpAny _ _ (call (Value.type "bytes") _ _) _ _ _)); (fail_if_success (with_reducible show wpAny _ _ (call (Value.builtin "list.append") _ _) _ _ _)); (fail_if_success (with_reducible show Exists _)); (fail_if_success (with_reducible show wpAny _ _ (eval (Expr.ListComp _ _ _ _) _) _ _ _)); (fail_if_success (with_reducible show wpAny _ _ (eval (Expr.DictComp _ _ _ _ _) _) _ _ _)); (fail_if_success (with_reducible show wpAny _ _ (binaryOp _ (Value.ref _) (Value.ref _)) _ _ _)); walk1))
local macro_rules | `(tactic| walk_at "binaryOp Mult int int") => `(tactic| with_reducible refine mul_int ?_ (by with_reducible assumption))
local macro_rules | `(tactic| walk_at "binaryOp Pow int int") => `(tactic| with_reducible refine pow_int_small (by with_reducible assumption) (by with_reducible assumption) (by with_reducible assumption) ?_)

section
variable {w : World} {A : Around} {E : Value → Shared → Prop} {s : Shared}

local macro_rules | `(tactic| walk_at "eval Name") => `(tactic| first
  | (with_unfolding_all refine nmL (by rfl) (by rfl) (by decide) (by first | with_reducible assumption | exact Fr.ns (by with_reducible assumption)) (by rfl) (by first | with_reducible assumption | rfl | assumption) ?_)
  | (with_unfolding_all refine nmC (by rfl) (by rfl) (by decide) (by rfl) (by first | with_reducible assumption | assumption) ?_)
  | (with_unfolding_all refine nmG (by rfl) (by rfl) (by rfl) (by decide) (by rfl) (by first | with_reducible assumption | exact Wd.keeps (by with_reducible assumption) (Fr.keep (by with_reducible assumption))) ?_)
  | (with_unfolding_all refine nmB (by rfl) (by rfl) (by boot_by_name) (by rfl) (by rfl) (by decide) (by decide) (by rfl) (by first | with_reducible assumption | exact Wd.keeps (by with_reducible assumption) (Fr.keep (by with_reducible assumption))) ?_))
local macro_rules | `(tactic| walk_at "mL") => `(tactic| repeat ((fail_if_success (with_reducible show wpAny _ _ (execs (Stmt.For _ _ _ _ _ :: _) _) _ _ _)); (fail_if_success (with_reducible show wpAny _ _ (exec (Stmt.For _ _ _ _ _) _) _ _ _)); (fail_if_success (with_reducible show wpAny _ _ (execs (Stmt.Assign _ (Expr.List [] _) _ :: Stmt.For _ _ _ _ _ :: _) _) _ _ _)); (fail_if_success (with_reducible show wpAny _ _ (subscriptTail _ _ (Value.ref _) (Value.int _ _)) _ _ _)); (fail_if_success (with_reducible show wpAny _ _ (subscriptTail _ _ (Value.bytes _ _) (Value.int _ _)) _ _ _)); (fail_if_success (with_reducible show wpAny _ _ (setItem _ _ _) _ _ _)); (fail_if_success (with_reducible show wpAny _ _ (call (Value.type "bytes") _ _) _ _ _)); (fail_if_success (with_reducible show wpAny _ _ (call (Value.builtin "list.append") _ _) _ _ _)); (fail_if_success (with_reducible show Exists _)); (fail_if_success (with_reducible show wpAny _ _ (eval (Expr.ListComp _ _ _ _) _) _ _ _)); (fail_if_success (with_reducible show wpAny _ _ (eval (Expr.DictComp _ _ _ _ _) _) _ _ _)); (fail_if_success (with_reducible show wpAny _ _ (binaryOp _ (Value.ref _) (Value.ref _)) _ _ _)); walk1))
local macro_rules | `(tactic| walk_at "mE") => `(tactic| repeat ((fail_if_success (with_reducible show wpAny _ _ (execs (_ :: _) _) _ _ _)); (fail_if_success (with_reducible show wpAny _ _ (exec (Stmt.For _ _ _ _ _) _) _ _ _)); (fail_if_success (with_reducible show wpAny _ _ (execs (Stmt.Assign _ (Expr.List [] _) _ :: Stmt.For _ _ _ _ _ :: _) _) _ _ _)); (fail_if_success (with_reducible show wpAny _ _ (subscriptTail _ _ (Value.ref _) (Value.int _ _)) _ _ _)); (fail_if_success (with_reducible show wpAny _ _ (subscriptTail _ _ (Value.bytes _ _) (Value.int _ _)) _ _ _)); (fail_if_success (with_reducible show wpAny _ _ (setItem _ _ _) _ _ _)); (fail_if_success (with_reducible show wpAny _ _ (call (Value.type "bytes") _ _) _ _ _)); (fail_if_success (with_reducible show wpAny _ _ (call (Value.builtin "list.append") _ _) _ _ _)); (fail_if_success (with_reducible show Exists _)); (fail_if_success (with_reducible show wpAny _ _ (eval (Expr.ListComp _ _ _ _) _) _ _ _)); (fail_if_success (with_reducible show wpAny _ _ (eval (Expr.DictComp _ _ _ _ _) _) _ _ _)); (fail_if_success (with_reducible show wpAny _ _ (binaryOp _ (Value.ref _) (Value.ref _)) _ _ _)); walk1))

theorem law_9 {h₀ : Heap} {L T g : Addr} {cd : Value} {m : Str → Option Value} {news : List (Addr × Obj)} {a b c : Nat} {q : Int} {Q : Flow → Shared → Prop} (R : Rm 3 A) (hgd : A.guards = some []) (W : Wd w h₀) (F : Fr h₀ L s.heap m) (N : News h₀ L s.heap news)
    (M : Ms m a b c q T g) (hT : TbN w news T (tabOf a b c q)) (hG : GaussIn news g (gRows q (a + b + c)))
    (ha : a ≤ 2) (hb : b ≤ 2) (hc : c ≤ 2) (hq : -50 ≤ q ∧ q ≤ 50)
    (hQ : ∀ h' tk, (∀ b o, h₀.get? b = some o → h'.get? b = some o) → Q (.ret (.bool true)) { s with heap := h', toks := tk }) :
    wpK (model PG w) A (execs (lawBody.drop 9) (lenv L cd)) Q (fun _ _ => False) s := by
  have f := facts ha hb hc q
  have e9 : ∃ st, lawBody.drop 9 = st :: lawBody.drop 10 := ⟨_, rfl⟩
  have M' := M
  have hT' := hT
  obtain ⟨⟨ta, n1⟩, ⟨tb, n2⟩, ⟨tc, n3⟩, ⟨tq, n4⟩, ⟨th, n5⟩, n6, n7⟩ := M
  obtain ⟨items, g1, g2, g3⟩ := hG.at N
  obtain ⟨r1, hr1, hl1⟩ := gRows_row_at q (n := a + b + c) (Nat.le_refl _)
  obtain ⟨r2, hr2, hl2⟩ := gRows_row_at q (n := b + c) (top := a + b + c) (by omega)
  obtain ⟨a1, vs1, i1, l1, s1⟩ := g3 _ _ hr1
  obtain ⟨a2, vs2, i2, l2, s2⟩ := g3 _ _ hr2
  obtain ⟨y1, t1, hy1, hv1⟩ := row_at s1 (n := a) (by omega)
  obtain ⟨y2, t2, hy2, hv2⟩ := row_at s2 (n := b) (by omega)
  have hbits := gauss_bits hq (top := a + b + c) (by omega)
  have im : IntMulOk y1 y2 := .of_right (hbits _ (List.mem_of_getElem? hr2) _ (List.mem_of_getElem? hy2))
  have hfirst := f.first
  rw [show (gRows q (a + b + c)).getD (a + b + c) [] = r1 by rw [List.getD_eq_getElem?_getD, hr1]; rfl, show (gRows q (a + b + c)).getD (b + c) [] = r2 by rw [List.getD_eq_getElem?_getD, hr2]; rfl, show r1.getD a 0 = y1 by rw [List.getD_eq_getElem?_getD, hy1]; rfl, show r2.getD b 0 = y2 by rw [List.getD_eq_getElem?_getD, hy2]; rfl] at hfirst
  have x1 : 0 ≤ (a : Int) + b + c ∧ (a : Int) + b + c < 1000000 := by omega
  have x2 : 0 ≤ (b : Int) + c ∧ (b : Int) + c < 1000000 := by omega
  have x3 : 0 ≤ (a : Int) ∧ (a : Int) < 1000000 := by omega
  have x4 : 0 ≤ (b : Int) ∧ (b : Int) < 1000000 := by omega
  have z1 : items.toArray[((a : Int) + b + c).toNat]? = some (.ref a1) := by rw [show ((a : Int) + b + c).toNat = a + b + c by omega, List.getElem?_toArray]; exact i1
  have z2 : items.toArray[((b : Int) + c).toNat]? = some (.ref a2) := by rw [show ((b : Int) + c).toNat = b + c by omega, List.getElem?_toArray]; exact i2
  have z3 : vs1.toArray[(a : Int).toNat]? = some (.int y1 t1) := by rw [Int.toNat_natCast, List.getElem?_toArray]; exact hv1
  have z4 : vs2.toArray[(b : Int).toNat]? = some (.int y2 t2) := by rw [Int.toNat_natCast, List.getElem?_toArray]; exact hv2
  obtain ⟨lo, oT, hoT, kvs, hdk, hTk⟩ := hT
  obtain ⟨fk, hf⟩ : ∃ fk : Tok → Tok, ∀ t0, (PySem.valueAt kvs home).getD (Value.int 0 t0) = Value.int ((lk (tabOf a b c q) home).getD 0) (fk t0) := ⟨fun t => Classical.choose (hTk.getD _ t), fun t => Classical.choose_spec (hTk.getD _ t)⟩
  conv in List.drop 9 _ => whnf
  refine wpK_execs_cons (wpK_of ?_)
  walk_at "mL"
  refine kdg_method N hoT hdk ?_
  walk_at "mL"
  refine kdg_get2 N hoT hdk lo (intKind_is PG w _ _) _ rfl ?_
  rw [hf]
  walk_at "mL"
  refine sub_list g1 x1.1 x1.2 z1 ?_
  walk_at "mL"
  refine sub_list l1 x3.1 x3.2 z3 ?_
  walk_at "mL"
  refine sub_list g1 x2.1 x2.2 z2 ?_
  walk_at "mL"
  refine sub_list l2 x4.1 x4.2 z4 ?_
  walk_at "mL"
  · exact absurd hfirst ‹_›
  · walk_at "mL"
    exact law_10 (s := { s with heap := s.heap, toks := _ }) R hgd W F N M' hT' hG ha hb hc hq hQ
structure Ms0 (m : Str → Option Value) (a b c : Nat) (q : Int) : Prop where
  a : ∃ t, m (Str.ofString "a") = some (.int a t)
  b : ∃ t, m (Str.ofString "b") = some (.int b t)
  c : ∃ t, m (Str.ofString "c") = some (.int c t)
  q : ∃ t, m (Str.ofString "q") = some (.int q t)
  home : ∃ t, m (Str.ofString "home") = some (.int home t)
def ms0Names : List Str := ["a", "b", "c", "q", "home"].map Str.ofString
theorem Ms0.set {m : Str → Option Value} {a b c : Nat} {q : Int} (h : Ms0 m a b c q) (x : Str) (v : Option Value) (hx : x ∉ ms0Names) : Ms0 (fun y => if y = x then v else m y) a b c q := by
  have e : ∀ y ∈ ms0Names, (if y = x then v else m y) = m y := fun y hy => if_neg fun (e : y = x) => hx (by rw [← e]; exact hy)
  have z : ∀ y : String, y ∈ ["a", "b", "c", "q", "home"] → (if Str.ofString y = x then v else m (Str.ofString y)) = m (Str.ofString y) := fun y hy => e _ (List.mem_map_of_mem hy)
  exact ⟨by rw [z _ (by simp)]; exact h.a, by rw [z _ (by simp)]; exact h.b, by rw [z _ (by simp)]; exact h.c, by rw [z _ (by simp)]; exact h.q, by rw [z _ (by simp)]; exact h.home⟩
theorem law_8 {h₀ : Heap} {L T : Addr} {cd : Value} {m : Str → Option Value} {news : List (Addr × Obj)} {a b c : Nat} {q : Int} {Q : Flow → Shared → Prop} (R : Rm 3 A) (hgd : A.guards = some []) (W : Wd w h₀) (F : Fr h₀ L s.heap m) (N : News h₀ L s.heap news)
    (M : Ms0 m a b c q) (mT : m (Str.ofString "table") = some (.ref T)) (hT : TbN w news T (tabOf a b c q))
    (ha : a ≤ 2) (hb : b ≤ 2) (hc : c ≤ 2) (hq : -50 ≤ q ∧ q ≤ 50)
    (hQ : ∀ h' tk, (∀ b o, h₀.get? b = some o → h'.get? b = some o) → Q (.ret (.bool true)) { s with heap := h', toks := tk }) :
    wpK (model PG w) A (execs (lawBody.drop 8) (lenv L cd)) Q (fun _ _ => False) s := by
  have e8 : ∃ st, lawBody.drop 8 = st :: lawBody.drop 9 := ⟨_, rfl⟩
  have W₁ : Wd w s.heap := W.keeps F.keep
  have M0 := M
  obtain ⟨⟨ta, n1⟩, ⟨tb, n2⟩, ⟨tc, n3⟩, ⟨tq, n4⟩, ⟨th, n5⟩⟩ := M
  have ht : a + b + c ≤ 6 := by omega
  have hbits := gauss_bits hq ht
  have hsum : ((a : Int) + b + c) = ((a + b + c : Nat) : Int) := by omega
  conv in List.drop 8 _ => whnf
  refine wpK_execs_cons (wpK_of ?_)
  walk_at "mL"
  rw [hsum]
  refine c_gauss R.tail W₁ hq ht hbits ?_
  rintro P n rs s₁ ⟨h₁, tk₁, rfl, k₁⟩ hPn hP hrs hro
  have F₁ : Fr h₀ L h₁ m := Fr.after F k₁
  have N₁ : News h₀ L h₁ news := News.keepsAll N k₁
  have hLo : ∃ o, s.heap.get? L = some o := let ⟨o, _, _, e, _⟩ := F.ns; ⟨o, e⟩
  obtain ⟨oL, hLo⟩ := hLo
  have n0 : ∀ b, s.heap.get? b = none → b ≠ L ∧ h₀.get? b = none := by
    intro b hb
    refine ⟨fun e => ?_, ?_⟩
    · rw [e, hLo] at hb; cases hb
    · cases e : h₀.get? b with
      | none => rfl
      | some o => rw [F.keep _ _ e] at hb; cases hb
  have N₂ : News h₀ L h₁ ((P, PySem.W.listOf (rs.map fun x => Value.ref x.1).toArray n) :: (rs ++ news)) := fun p hp => by
    rcases List.mem_cons.mp hp with rfl | hp
    · exact ⟨hP, n0 _ hPn⟩
    · rcases List.mem_append.mp hp with hp | hp
      · exact ⟨(hrs p hp).2.1, n0 _ (hrs p hp).1⟩
      · exact N₁ p hp
  have hG : GaussIn ((P, PySem.W.listOf (rs.map fun x => Value.ref x.1).toArray n) :: (rs ++ news)) P (gRows q (a + b + c)) := ⟨n, rs, .head _, fun x hx => .tail _ (List.mem_append_left _ hx), hro⟩
  refine wpAny_storeName_local rfl F₁.ns (fun h₂ hn₂ hs₂ => ?_)
  have F₂ := F₁.set hn₂ hs₂
  have N₃ := N₂.set hs₂
  obtain ⟨lo', oT, hoT, hb'⟩ := hT
  have M₂ := M0.set (Str.ofString "gauss") (some (.ref P)) (by decide)
  exact law_9 (s := { s with heap := h₂, toks := _ }) R hgd W F₂ N₃ ⟨M₂.a, M₂.b, M₂.c, M₂.q, M₂.home, by with_unfolding_all exact mT, rfl⟩ ⟨lo', oT, .tail _ (List.mem_append_right _ hoT), hb'⟩ hG ha hb hc hq hQ

end
end Mine

end

section
open PySem PySem.W PySem.Calls PyProof.Rows
set_option Elab.async false
set_option maxRecDepth 100000
set_option maxHeartbeats 400000
namespace Mine
theorem fresh_L12 : True := by
  w_top off
  trivial
local macro_rules | `(tactic| walk_at "eval Name") => `(tactic| first
  | (with_unfolding_all refine nmL (by rfl) (by rfl) (by decide) (by first | with_reducible assumption | exact Fr.ns (by with_reducible assumption)) (by rfl) (by first | rfl | assumption) ?_)
  | (with_unfolding_all refine nmC (by rfl) (by rfl) (by decide) (by rfl) (by first | with_reducible assumption | assumption) ?_)
  | (with_unfolding_all refine nmG (by rfl) (by rfl) (by rfl) (by decide) (by rfl) (by first | with_reducible assumption | exact Wd.keeps (by with_reducible assumption) (Fr.keep (by with_reducible assumption))) ?_)
  | (with_unfolding_all refine nmB (by rfl) (by rfl) (by boot_by_name) (by rfl) (by rfl) (by decide) (by decide) (by rfl) (by first | with_reducible assumption | exact Wd.keeps (by with_reducible assumption) (Fr.keep (by with_reducible assumption))) ?_))
local macro_rules | `(tactic| walk_at "loadName") => `(tactic| (with_unfolding_all refine nmLd (by rfl) (by rfl) (by first | with_reducible assumption | exact Fr.ns (by with_reducible assumption)) (by rfl) (by first | rfl | assumption) ?_))
local macro_rules | `(tactic| walk_at "callWith ref") => `(tactic| (with_unfolding_all refine callF (by first | with_reducible assumption | exact Wd.keeps (by with_reducible assumption) (Fr.keep (by with_reducible assumption))) (by rfl) ?_ (by rfl) (by rfl)))
local macro_rules | `(tactic| walk_at "And") => `(tactic| ((with_reducible show Frag.In _ _ ∧ _); refine ⟨by first | exact (Wd.X (by with_reducible assumption)) | exact Wd.X (Wd.keeps (by with_reducible assumption) (Fr.keep (by with_reducible assumption))), ?_⟩; try dsimp only [List.nil_append, List.cons_append]))
local macro_rules | `(tactic| walk_at "mW") => `(tactic| repeat ((fail_if_success (with_reducible show wpAny _ _ (exec (Stmt.For _ _ _ _ _) _) _ _ _)); (fail_if_success (with_reducible show wpAny _ _ (execs (Stmt.Assign _ (Expr.List [] _) _ :: Stmt.For _ _ _ _ _ :: _) _) _ _ _)); (fail_if_success (with_reducible show wpAny _ _ (subscriptTail _ _ (Value.ref _) (Value.int _ _)) _ _ _)); (fail_if_success (with_reducible show wpAny _ _ (subscriptTail _ _ (Value.bytes _ _) (Value.int _ _)) _ _ _)); (fail_if_success (with_reducible show wpAny _ _ (setItem _ _ _) _ _ _)); (fail_if_success (with_reducible show wpAny _ _ (call (Value.type "bytes") _ _) _ _ _)); (fail_if_success (with_reducible show wpAny _ _ (call (Value.builtin "list.append") _ _) _ _ _)); (fail_if_success (with_reducible show Exists _)); (fail_if_success (with_reducible show wpAny _ _ (eval (Expr.ListComp _ _ _ _) _) _ _ _)); (fail_if_success (with_reducible show wpAny _ _ (eval (Expr.DictComp _ _ _ _ _) _) _ _ _)); (fail_if_success (with_reducible show wpAny _ _ (binaryOp _ (Value.ref _) (Value.ref _)) _ _ _)); walk1))
local macro_rules | `(tactic| walk_at "binaryOp Mult int int") => `(tactic| with_reducible refine mul_int ?_ (by with_reducible assumption))
local macro_rules | `(tactic| walk_at "binaryOp Pow int int") => `(tactic| with_reducible refine pow_int_small (by with_reducible assumption) (by with_reducible assumption) (by with_reducible assumption) ?_)

section
variable {w : World} {A : Around} {E : Value → Shared → Prop} {s : Shared}

local macro_rules | `(tactic| walk_at "eval Name") => `(tactic| first
  | (with_unfolding_all refine nmL (by rfl) (by rfl) (by decide) (by first | with_reducible assumption | exact Fr.ns (by with_reducible assumption)) (by rfl) (by first | with_reducible assumption | rfl | assumption) ?_)
  | (with_unfolding_all refine nmC (by rfl) (by rfl) (by decide) (by rfl) (by first | with_reducible assumption | assumption) ?_)
  | (with_unfolding_all refine nmG (by rfl) (by rfl) (by rfl) (by decide) (by rfl) (by first | with_reducible assumption | exact Wd.keeps (by with_reducible assumption) (Fr.keep (by with_reducible assumption))) ?_)
  | (with_unfolding_all refine nmB (by rfl) (by rfl) (by boot_by_name) (by rfl) (by rfl) (by decide) (by decide) (by rfl) (by first | with_reducible assumption | exact Wd.keeps (by with_reducible assumption) (Fr.keep (by with_reducible assumption))) ?_))
local macro_rules | `(tactic| walk_at "mL") => `(tactic| repeat ((fail_if_success (with_reducible show wpAny _ _ (execs (Stmt.For _ _ _ _ _ :: _) _) _ _ _)); (fail_if_success (with_reducible show wpAny _ _ (exec (Stmt.For _ _ _ _ _) _) _ _ _)); (fail_if_success (with_reducible show wpAny _ _ (execs (Stmt.Assign _ (Expr.List [] _) _ :: Stmt.For _ _ _ _ _ :: _) _) _ _ _)); (fail_if_success (with_reducible show wpAny _ _ (subscriptTail _ _ (Value.ref _) (Value.int _ _)) _ _ _)); (fail_if_success (with_reducible show wpAny _ _ (subscriptTail _ _ (Value.bytes _ _) (Value.int _ _)) _ _ _)); (fail_if_success (with_reducible show wpAny _ _ (setItem _ _ _) _ _ _)); (fail_if_success (with_reducible show wpAny _ _ (call (Value.type "bytes") _ _) _ _ _)); (fail_if_success (with_reducible show wpAny _ _ (call (Value.builtin "list.append") _ _) _ _ _)); (fail_if_success (with_reducible show Exists _)); (fail_if_success (with_reducible show wpAny _ _ (eval (Expr.ListComp _ _ _ _) _) _ _ _)); (fail_if_success (with_reducible show wpAny _ _ (eval (Expr.DictComp _ _ _ _ _) _) _ _ _)); (fail_if_success (with_reducible show wpAny _ _ (binaryOp _ (Value.ref _) (Value.ref _)) _ _ _)); walk1))
local macro_rules | `(tactic| walk_at "mE") => `(tactic| repeat ((fail_if_success (with_reducible show wpAny _ _ (execs (_ :: _) _) _ _ _)); (fail_if_success (with_reducible show wpAny _ _ (exec (Stmt.For _ _ _ _ _) _) _ _ _)); (fail_if_success (with_reducible show wpAny _ _ (execs (Stmt.Assign _ (Expr.List [] _) _ :: Stmt.For _ _ _ _ _ :: _) _) _ _ _)); (fail_if_success (with_reducible show wpAny _ _ (subscriptTail _ _ (Value.ref _) (Value.int _ _)) _ _ _)); (fail_if_success (with_reducible show wpAny _ _ (subscriptTail _ _ (Value.bytes _ _) (Value.int _ _)) _ _ _)); (fail_if_success (with_reducible show wpAny _ _ (setItem _ _ _) _ _ _)); (fail_if_success (with_reducible show wpAny _ _ (call (Value.type "bytes") _ _) _ _ _)); (fail_if_success (with_reducible show wpAny _ _ (call (Value.builtin "list.append") _ _) _ _ _)); (fail_if_success (with_reducible show Exists _)); (fail_if_success (with_reducible show wpAny _ _ (eval (Expr.ListComp _ _ _ _) _) _ _ _)); (fail_if_success (with_reducible show wpAny _ _ (eval (Expr.DictComp _ _ _ _ _) _) _ _ _)); (fail_if_success (with_reducible show wpAny _ _ (binaryOp _ (Value.ref _) (Value.ref _)) _ _ _)); walk1))

def pwOk (q : Int) (r : Nat) : Bool := decide ((-(q ^ r)).natAbs < 4611686018427387904)
theorem pwOk_all : ((List.range 101).all fun i => pwOk ((i : Int) - 50) 0 && pwOk ((i : Int) - 50) 1 && pwOk ((i : Int) - 50) 2) = true := by decide +kernel
theorem pw_ok {q : Int} (hq : -50 ≤ q ∧ q ≤ 50) {r : Nat} (h : r ≤ 2) : Builtin.Int.intBits (-(q ^ r)) ≤ 64 := by
  obtain ⟨i, hi, rfl⟩ := q_range hq
  have h1 := List.all_eq_true.mp pwOk_all i hi
  simp only [Bool.and_eq_true, pwOk, decide_eq_true_eq] at h1
  have h3 : r = 0 ∨ r = 1 ∨ r = 2 := by omega
  rcases h3 with rfl | rfl | rfl
  · exact bits_of h1.1.1
  · exact bits_of h1.1.2
  · exact bits_of h1.2
theorem times_len (t : List (Int × Int)) (way share : Int) : (timesC t way share).length ≤ 2 * t.length := by
  unfold timesC mergeC
  have h1 := mergeC_len (dcomp (fun _ _ => true) (fun a _ => a + way) (fun _ b => b * share) t) (cp t)
  have h2 := dcomp_len (fun _ _ => true) (fun a _ => a + way) (fun _ b => b * share) t []
  have h3 : (cp t).length ≤ t.length := cp_len t _ (Nat.le_refl _)
  have h4 : (dcomp (fun _ _ => true) (fun a _ => a + way) (fun _ b => b * share) t).length ≤ t.length := by simpa [dcomp] using h2
  omega
theorem tPow_len (q way : Int) : ∀ (rs : List Nat) (t : List (Int × Int)), (tPow q way t rs).length ≤ 2 ^ rs.length * t.length
  | [], t => by simp [tPow]
  | r :: rs, t => by
    have h1 := tPow_len q way rs (timesC t way (-(q ^ r)))
    have h2 := times_len t way (-(q ^ r))
    have h3 : 2 ^ rs.length * (timesC t way (-(q ^ r))).length ≤ 2 ^ rs.length * (2 * t.length) := Nat.mul_le_mul_left _ h2
    show (tPow q way (timesC t way (-(q ^ r))) rs).length ≤ _
    rw [List.length_cons, Nat.pow_succ, Nat.mul_assoc]
    omega
theorem tPow_snoc (q way : Int) (t : List (Int × Int)) (rs : List Nat) (r : Nat) : tPow q way t (rs ++ [r]) = timesC (tPow q way t rs) way (-(q ^ r)) := by
  unfold tPow; rw [List.foldl_append]; rfl
theorem neg_c {h₀ : Heap} {L : Addr} {m : Str → Option Value} {l : List (Addr × Obj)} {i : Int} {t : Tok} {Q : Value → Shared → Prop} (R : Rm 3 A) (W : Wd w h₀) (F : Fr h₀ L s.heap m) (N : News h₀ L s.heap l)
    (h : ∀ h' tk t', Fr h₀ L h' m → News h₀ L h' l → (∀ b o, s.heap.get? b = some o → h'.get? b = some o) → Q (.int (-i) t') { s with heap := h', toks := tk }) : wpAny (model PG w) A (call (.ref 52) [.int i t] []) Q E s := by
  refine c_neg R.tail.tail (W.keeps F.keep) ?_
  rintro t' s₁ ⟨h₁, tk₁, rfl, k₁⟩
  exact h _ _ _ (Fr.after F k₁) (News.keepsAll N k₁) k₁
theorem times_c {h₀ : Heap} {L T : Addr} {o : Obj} {m : Str → Option Value} {l : List (Addr × Obj)} {t : List (Int × Int)} {way share : Int} {t1 t2 : Tok} {Q : Value → Shared → Prop} (R : Rm 3 A) (W : Wd w h₀) (F : Fr h₀ L s.heap m) (N : News h₀ L s.heap l)
    (hm : (T, o) ∈ l) (ho : ObTb w o t) (lo : (T == sysModules) = false) (sz : t.length ≤ 100000) (hb : Builtin.Int.intBits share ≤ 64)
    (h : ∀ h' tk T2 o2, Fr h₀ L h' m → News h₀ L h' l → h'.get? T2 = some o2 ∧ T2 ≠ L ∧ h₀.get? T2 = none → (∀ p ∈ l, p.1 ≠ T2) → s.heap.get? T2 = none → ObTb w o2 (timesC t way share) → (T2 == sysModules) = false → Q (.ref T2) { s with heap := h', toks := tk }) :
    wpAny (model PG w) A (call (.ref 111) [.ref T, .int way t1, .int share t2] []) Q E s := by
  refine c_times R (W.keeps F.keep) (ho.isTb (N _ hm).1 lo) sz hb ?_
  rintro T2 s₁ ⟨h₁, tk₁, rfl, k₁⟩ hn ⟨kvs, hD, hT, lo2⟩
  obtain ⟨o2, e2, hd2⟩ := Heap.dictOf_iff.mp hD
  refine h h₁ tk₁ T2 o2 (Fr.after F k₁) (News.keepsAll N k₁) ⟨e2, ?_, ?_⟩ ?_ hn ⟨kvs, hd2, hT⟩ lo2
  · rintro rfl
    obtain ⟨o, _, _, e, _⟩ := F.ns
    rw [hn] at e; cases e
  · cases e : h₀.get? T2 with
    | none => rfl
    | some o => rw [F.keep _ _ e] at hn; cases hn
  · rintro p hp rfl
    rw [(N p hp).1] at hn; cases hn
def pairBody : List Stmt := match lawBody.drop 7 with | .For _ _ b _ _ :: _ => b | _ => []
theorem pair_2 {h₀ : Heap} {L C T : Addr} {cd : Value} {m : Str → Option Value} {pre base : List (Addr × Obj)} {o : Obj} {a b c cj : Nat} {q wv jv : Int} {items : Array Value} {n : Nat} {tw tj tc : Tok} {t : List (Int × Int)} {Q : Flow → Shared → Prop} (R : Rm 3 A) (W : Wd w h₀) (F : Fr h₀ L s.heap m) (N : News h₀ L s.heap (pre ++ (T, o) :: base)) (hne : ∀ p ∈ pre ++ base, p.1 ≠ T)
    (M : Ms0 m a b c q) (mT : m (Str.ofString "table") = some (.ref T)) (mC : m (Str.ofString "counts") = some (.ref C)) (mw : m (Str.ofString "way") = some (.int wv tw)) (mj : m (Str.ofString "j") = some (.int jv tj)) (hC : (C, PySem.W.listOf items n) ∈ base) (hj0 : 0 ≤ jv) (hj1 : jv < 1000000) (hit : items[jv.toNat]? = some (.int cj tc)) (hcj : cj ≤ 2)
    (lo : (T == sysModules) = false) (ho : ObTb w o t) (hz : t.length ≤ 10000) (hq : -50 ≤ q ∧ q ≤ 50)
    (hQ : ∀ h' tk m' T' o', Fr h₀ L h' m' → News h₀ L h' (pre ++ (T', o') :: base) → (∀ p ∈ pre ++ base, p.1 ≠ T') → (T' == sysModules) = false → ObTb w o' (tPow q (-wv) t ((List.range cj).map (· + 1))) → Ms0 m' a b c q → m' (Str.ofString "table") = some (.ref T') → m' (Str.ofString "counts") = some (.ref C) → Q .next { s with heap := h', toks := tk }) :
    wpAny (model PG w) A (execs (pairBody.drop 2) (lenv L cd)) Q (fun _ _ => False) s := by
  have hCl : s.heap.IsList C items := listOf_is (N _ (List.mem_append_right _ (.tail _ hC))).1
  have hc3 : cj = 0 ∨ cj = 1 ∨ cj = 2 := by omega
  have hsm : Builtin.Range.small 1 ((cj : Int) + 1) 1 = true := by rcases hc3 with rfl | rfl | rfl <;> decide
  have hsz : Builtin.Range.rangeSize 1 ((cj : Int) + 1) 1 = (cj : Int) := by rcases hc3 with rfl | rfl | rfl <;> decide
  conv in List.drop _ _ => whnf
  refine wpAny_execs_cons ?_
  refine For_turns F ?_ (by intro _; rfl)
  walk_at "mW"
  refine sub_list hCl hj0 hj1 hit ?_
  walk_at "mW"
  rename_i h₄ _ _ _ _ hr F₄ N₄ _
  try dsimp only at hr F₄ N₄ ⊢
  refine range_turns (n := cj) R.hh hr hsm hsz F₄ N₄ rfl rfl
    (fun i m' news' => ∃ T' o', news' = pre ++ (T', o') :: base ∧ ObTb w o' (tPow q (-wv) t ((List.range i).map (· + 1))) ∧ (T' == sysModules) = false ∧ (∀ p ∈ pre ++ base, p.1 ≠ T') ∧ Ms0 m' a b c q ∧ m' (Str.ofString "table") = some (.ref T') ∧ m' (Str.ofString "counts") = some (.ref C) ∧ m' (Str.ofString "way") = some (.int wv tw)) ?_ ?_ ?_
  · exact ⟨T, o, rfl, ho, lo, hne, M, mT, mC, mw⟩
  · rintro i tkv m₁ news₁ h₅ tk₅ own hi ⟨T₁, o₁, rfl, ho₁, lo₁, hne₁, M₁, mT₁, mC₁, mw₁⟩ hap F₅ N₅
    clear hr F₄ N₄
    have W₅ : Wd w h₅ := W.keeps F₅.keep
    have M₂ := M₁.set (Str.ofString "r") (some (.int (1 + (i : Int) * 1) tkv)) (by decide)
    obtain ⟨tq, n4⟩ := M₂.q
    have p1 : 0 ≤ 1 + (i : Int) * 1 := by omega
    have p2 : 1 + (i : Int) * 1 ≤ 1000000 := by omega
    have p3 : q.natAbs < 2 ^ 64 := by omega
    have e0 : (1 + (i : Int) * 1).toNat = i + 1 := by omega
    have hb : Builtin.Int.intBits (-(q ^ (1 + (i : Int) * 1).toNat)) ≤ 64 := by rw [e0]; exact pw_ok hq (by omega)
    have hz1 : (tPow q (-wv) t ((List.range i).map (· + 1))).length ≤ 100000 := by
      have h1 := tPow_len q (-wv) ((List.range i).map (· + 1)) t
      rw [List.length_map, List.length_range] at h1
      have h2 : 2 ^ i ≤ 4 := by
        have : i = 0 ∨ i = 1 := by omega
        rcases this with rfl | rfl <;> decide
      have h3 : 2 ^ i * t.length ≤ 4 * t.length := Nat.mul_le_mul_right _ h2
      omega
    have hstep : timesC (tPow q (-wv) t ((List.range i).map (· + 1))) (-wv) (-(q ^ (1 + (i : Int) * 1).toNat)) = tPow q (-wv) t ((List.range (i + 1)).map (· + 1)) := by
      rw [List.range_succ, List.map_append, List.map_singleton, tPow_snoc, e0]
    walk_at "mW"
    refine neg_c R W F₅ N₅ ?_
    intro h₆ tk₆ t₆ F₆ N₆ k₆
    have W₆ : Wd w h₆ := W.keeps F₆.keep
    walk_at "mW"
    refine neg_c R W F₆ N₆ ?_
    intro h₇ tk₇ t₇ F₇ N₇ k₇
    have W₇ : Wd w h₇ := W.keeps F₇.keep
    walk_at "mW"
    refine times_c R W F₇ N₇ (List.mem_append_right _ (List.mem_append_right _ (.head _))) ho₁ lo₁ hz1 hb ?_
    intro h₈ tk₈ T₂ o₂ F₈ N₈ hT₂ hne₂ hn₂ ho₂ lo₂
    rw [hstep] at ho₂
    have W₈ : Wd w h₈ := W.keeps F₈.keep
    have N₉ : News h₀ L h₈ (own ++ (pre ++ (T₂, o₂) :: base)) := fun p hp => by
      rcases List.mem_append.mp hp with hp | hp
      · exact N₈ p (List.mem_append_left _ hp)
      · rcases List.mem_append.mp hp with hp | hp
        · exact N₈ p (List.mem_append_right _ (List.mem_append_left _ hp))
        · rcases List.mem_cons.mp hp with rfl | hp
          · exact hT₂
          · exact N₈ p (List.mem_append_right _ (List.mem_append_right _ (.tail _ hp)))
    have hn5 : h₅.get? T₂ = none := by
      cases e : h₅.get? T₂ with
      | none => rfl
      | some o => have e2 := k₇ _ _ (k₆ _ _ e); dsimp only at hn₂; rw [e2] at hn₂; cases hn₂
    have hne₃ : ∀ p ∈ pre ++ base, p.1 ≠ T₂ := fun p hp => by
      refine hne₂ p (List.mem_append_right _ ?_)
      rcases List.mem_append.mp hp with hp | hp
      · exact List.mem_append_left _ hp
      · exact List.mem_append_right _ (.tail _ hp)
    have M₃ := M₂.set (Str.ofString "table") (some (.ref T₂)) (by decide)
    clear N₈ hne₂ hT₂
    walk_at "mW"
    rename_i F₁₀ N₁₀
    refine ⟨_, _, _, pre ++ (T₂, o₂) :: base, rfl, F₁₀, N₁₀, fun p hp => ?_, T₂, o₂, rfl, ho₂, lo₂, hne₃, M₃, by rfl, by with_unfolding_all exact mC₁, by with_unfolding_all exact mw₁⟩
    rcases List.mem_append.mp hp with hp | hp
    · exact .inl (List.mem_map.mpr ⟨p, List.mem_append_left _ hp, rfl⟩)
    · rcases List.mem_cons.mp hp with rfl | hp
      · exact .inr (.inl hn5)
      · exact .inl (List.mem_map.mpr ⟨p, List.mem_append_right _ (.tail _ hp), rfl⟩)
  · rintro h₅ tk₅ m₅ news₅ F₅ N₅ ⟨T₁, o₁, rfl, ho₁, lo₁, hne₁, M₁, mT₁, mC₁, mw₁⟩
    walk_at "mW"
    exact hQ _ _ _ _ _ F₅ N₅ hne₁ lo₁ ho₁ M₁ mT₁ mC₁
theorem pair_1 {h₀ : Heap} {L C T : Addr} {cd : Value} {m : Str → Option Value} {pre base : List (Addr × Obj)} {o : Obj} {a b c ci cj : Nat} {q wv iv jv : Int} {items : Array Value} {n : Nat} {tw ti tj tc td : Tok} {t : List (Int × Int)} {Q : Flow → Shared → Prop} (R : Rm 3 A) (W : Wd w h₀) (F : Fr h₀ L s.heap m) (N : News h₀ L s.heap (pre ++ (T, o) :: base)) (hne : ∀ p ∈ pre ++ base, p.1 ≠ T)
    (M : Ms0 m a b c q) (mT : m (Str.ofString "table") = some (.ref T)) (mC : m (Str.ofString "counts") = some (.ref C)) (mw : m (Str.ofString "way") = some (.int wv tw)) (mj : m (Str.ofString "j") = some (.int jv tj)) (hC : (C, PySem.W.listOf items n) ∈ base) (mi : m (Str.ofString "i") = some (.int iv ti)) (hi0 : 0 ≤ iv) (hi1 : iv < 1000000) (hit1 : items[iv.toNat]? = some (.int ci td)) (hci : ci ≤ 2) (hj0 : 0 ≤ jv) (hj1 : jv < 1000000) (hit : items[jv.toNat]? = some (.int cj tc)) (hcj : cj ≤ 2)
    (lo : (T == sysModules) = false) (ho : ObTb w o t) (hz : t.length ≤ 2500) (hq : -50 ≤ q ∧ q ≤ 50)
    (hQ : ∀ h' tk m' T' o', Fr h₀ L h' m' → News h₀ L h' (pre ++ (T', o') :: base) → (∀ p ∈ pre ++ base, p.1 ≠ T') → (T' == sysModules) = false → ObTb w o' (tPair q wv ci cj t) → Ms0 m' a b c q → m' (Str.ofString "table") = some (.ref T') → m' (Str.ofString "counts") = some (.ref C) → Q .next { s with heap := h', toks := tk }) :
    wpAny (model PG w) A (execs (pairBody.drop 1) (lenv L cd)) Q (fun _ _ => False) s := by
  have hCl : s.heap.IsList C items := listOf_is (N _ (List.mem_append_right _ (.tail _ hC))).1
  have hc3 : ci = 0 ∨ ci = 1 ∨ ci = 2 := by omega
  have hsm : Builtin.Range.small 0 (ci : Int) 1 = true := by rcases hc3 with rfl | rfl | rfl <;> decide
  have hsz : Builtin.Range.rangeSize 0 (ci : Int) 1 = (ci : Int) := by rcases hc3 with rfl | rfl | rfl <;> decide
  have e12 : ∃ st, pairBody.drop 1 = st :: pairBody.drop 2 := ⟨_, rfl⟩
  conv in List.drop _ _ => whnf
  refine wpAny_execs_cons ?_
  refine For_turns F ?_ (by intro _; rfl)
  walk_at "mW"
  refine sub_list hCl hi0 hi1 hit1 ?_
  walk_at "mW"
  rename_i h₄ _ _ _ _ hr F₄ N₄ _
  try dsimp only at hr F₄ N₄ ⊢
  refine range_turns (n := ci) R.hh hr hsm hsz F₄ N₄ rfl rfl
    (fun i m' news' => ∃ T' o', news' = pre ++ (T', o') :: base ∧ ObTb w o' (tPow q wv t (List.range i)) ∧ (T' == sysModules) = false ∧ (∀ p ∈ pre ++ base, p.1 ≠ T') ∧ Ms0 m' a b c q ∧ m' (Str.ofString "table") = some (.ref T') ∧ m' (Str.ofString "counts") = some (.ref C) ∧ m' (Str.ofString "way") = some (.int wv tw) ∧ m' (Str.ofString "j") = some (.int jv tj)) ?_ ?_ ?_
  · exact ⟨T, o, rfl, ho, lo, hne, M, mT, mC, mw, mj⟩
  · rintro i tkv m₁ news₁ h₅ tk₅ own hi ⟨T₁, o₁, rfl, ho₁, lo₁, hne₁, M₁, mT₁, mC₁, mw₁, mj₁⟩ hap F₅ N₅
    clear hr F₄ N₄
    have W₅ : Wd w h₅ := W.keeps F₅.keep
    have M₂ := M₁.set (Str.ofString "r") (some (.int (0 + (i : Int) * 1) tkv)) (by decide)
    obtain ⟨tq, n4⟩ := M₂.q
    have p1 : 0 ≤ 0 + (i : Int) * 1 := by omega
    have p2 : 0 + (i : Int) * 1 ≤ 1000000 := by omega
    have p3 : q.natAbs < 2 ^ 64 := by omega
    have e0 : (0 + (i : Int) * 1).toNat = i := by omega
    have hb : Builtin.Int.intBits (-(q ^ (0 + (i : Int) * 1).toNat)) ≤ 64 := by rw [e0]; exact pw_ok hq (by omega)
    have hz1 : (tPow q wv t (List.range i)).length ≤ 100000 := by
      have h1 := tPow_len q wv (List.range i) t
      rw [List.length_range] at h1
      have h2 : 2 ^ i ≤ 4 := by
        have : i = 0 ∨ i = 1 := by omega
        rcases this with rfl | rfl <;> decide
      have h3 : 2 ^ i * t.length ≤ 4 * t.length := Nat.mul_le_mul_right _ h2
      omega
    have hstep : timesC (tPow q wv t (List.range i)) wv (-(q ^ (0 + (i : Int) * 1).toNat)) = tPow q wv t (List.range (i + 1)) := by
      rw [List.range_succ, tPow_snoc, e0]
    walk_at "mW"
    refine neg_c R W F₅ N₅ ?_
    intro h₇ tk₇ t₇ F₇ N₇ k₇
    have W₇ : Wd w h₇ := W.keeps F₇.keep
    walk_at "mW"
    refine times_c R W F₇ N₇ (List.mem_append_right _ (List.mem_append_right _ (.head _))) ho₁ lo₁ hz1 hb ?_
    intro h₈ tk₈ T₂ o₂ F₈ N₈ hT₂ hne₂ hn₂ ho₂ lo₂
    rw [hstep] at ho₂
    have W₈ : Wd w h₈ := W.keeps F₈.keep
    have N₉ : News h₀ L h₈ (own ++ (pre ++ (T₂, o₂) :: base)) := fun p hp => by
      rcases List.mem_append.mp hp with hp | hp
      · exact N₈ p (List.mem_append_left _ hp)
      · rcases List.mem_append.mp hp with hp | hp
        · exact N₈ p (List.mem_append_right _ (List.mem_append_left _ hp))
        · rcases List.mem_cons.mp hp with rfl | hp
          · exact hT₂
          · exact N₈ p (List.mem_append_right _ (List.mem_append_right _ (.tail _ hp)))
    have hn5 : h₅.get? T₂ = none := by
      cases e : h₅.get? T₂ with
      | none => rfl
      | some o => have e2 := k₇ _ _ e; dsimp only at hn₂; rw [e2] at hn₂; cases hn₂
    have hne₃ : ∀ p ∈ pre ++ base, p.1 ≠ T₂ := fun p hp => by
      refine hne₂ p (List.mem_append_right _ ?_)
      rcases List.mem_append.mp hp with hp | hp
      · exact List.mem_append_left _ hp
      · exact List.mem_append_right _ (.tail _ hp)
    have M₃ := M₂.set (Str.ofString "table") (some (.ref T₂)) (by decide)
    clear N₈ hne₂ hT₂
    walk_at "mW"
    rename_i F₁₀ N₁₀
    refine ⟨_, _, _, pre ++ (T₂, o₂) :: base, rfl, F₁₀, N₁₀, fun p hp => ?_, T₂, o₂, rfl, ho₂, lo₂, hne₃, M₃, by rfl, by with_unfolding_all exact mC₁, by with_unfolding_all exact mw₁, by with_unfolding_all exact mj₁⟩
    rcases List.mem_append.mp hp with hp | hp
    · exact .inl (List.mem_map.mpr ⟨p, List.mem_append_left _ hp, rfl⟩)
    · rcases List.mem_cons.mp hp with rfl | hp
      · exact .inr (.inl hn5)
      · exact .inl (List.mem_map.mpr ⟨p, List.mem_append_right _ (.tail _ hp), rfl⟩)
  · rintro h₅ tk₅ m₅ news₅ F₅ N₅ ⟨T₁, o₁, rfl, ho₁, lo₁, hne₁, M₁, mT₁, mC₁, mw₁, mj₁⟩
    have hz2 : (tPow q wv t (List.range ci)).length ≤ 10000 := by
      have h1 := tPow_len q wv (List.range ci) t
      rw [List.length_range] at h1
      have h2 : 2 ^ ci ≤ 4 := by rcases hc3 with rfl | rfl | rfl <;> decide
      have h3 : 2 ^ ci * t.length ≤ 4 * t.length := Nat.mul_le_mul_right _ h2
      omega
    exact pair_2 (s := { s with heap := h₅, toks := tk₅ }) R W F₅ N₅ hne₁ M₁ mT₁ mC₁ mw₁ mj₁ hC hj0 hj1 hit hcj lo₁ ho₁ hz2 hq hQ

end
end Mine

end

section
open PySem PySem.W PySem.Calls PyProof.Rows
set_option Elab.async false
set_option maxRecDepth 100000
set_option maxHeartbeats 400000
namespace Mine
theorem fresh_L13 : True := by
  w_top off
  trivial
local macro_rules | `(tactic| walk_at "none of these") => `(tactic| skip)
local macro_rules | `(tactic| walk_at "eval Name") => `(tactic| first
  | (with_unfolding_all refine nmL (by rfl) (by rfl) (by decide) (by first | with_reducible assumption | exact Fr.ns (by with_reducible assumption)) (by rfl) (by first | rfl | assumption) ?_)
  | (with_unfolding_all refine nmC (by rfl) (by rfl) (by decide) (by rfl) (by first | with_reducible assumption | assumption) ?_)
  | (with_unfolding_all refine nmG (by rfl) (by rfl) (by rfl) (by decide) (by rfl) (by first | with_reducible assumption | exact Wd.keeps (by with_reducible assumption) (Fr.keep (by with_reducible assumption))) ?_)
  | (with_unfolding_all refine nmB (by rfl) (by rfl) (by boot_by_name) (by rfl) (by rfl) (by decide) (by decide) (by rfl) (by first | with_reducible assumption | exact Wd.keeps (by with_reducible assumption) (Fr.keep (by with_reducible assumption))) ?_))
local macro_rules | `(tactic| walk_at "loadName") => `(tactic| (with_unfolding_all refine nmLd (by rfl) (by rfl) (by first | with_reducible assumption | exact Fr.ns (by with_reducible assumption)) (by rfl) (by first | rfl | assumption) ?_))
local macro_rules | `(tactic| walk_at "callWith ref") => `(tactic| (with_unfolding_all refine callF (by first | with_reducible assumption | exact Wd.keeps (by with_reducible assumption) (Fr.keep (by with_reducible assumption))) (by rfl) ?_ (by rfl) (by rfl)))
local macro_rules | `(tactic| walk_at "And") => `(tactic| ((with_reducible show Frag.In _ _ ∧ _); refine ⟨by first | exact (Wd.X (by with_reducible assumption)) | exact Wd.X (Wd.keeps (by with_reducible assumption) (Fr.keep (by with_reducible assumption))), ?_⟩; try dsimp only [List.nil_append, List.cons_append]))
local macro_rules | `(tactic| walk_at "mW") => `(tactic| repeat ((fail_if_success (with_reducible show wpAny _ _ (exec (Stmt.For _ _ _ _ _) _) _ _ _)); (fail_if_success (with_reducible show wpAny _ _ (execs (Stmt.Assign _ (Expr.List [] _) _ :: Stmt.For _ _ _ _ _ :: _) _) _ _ _)); (fail_if_success (with_reducible show wpAny _ _ (subscriptTail _ _ (Value.ref _) (Value.int _ _)) _ _ _)); (fail_if_success (with_reducible show wpAny _ _ (subscriptTail _ _ (Value.bytes _ _) (Value.int _ _)) _ _ _)); (fail_if_success (with_reducible show wpAny _ _ (setItem _ _ _) _ _ _)); (fail_if_success (with_reducible show wpAny _ _ (call (Value.type "bytes") _ _) _ _ _)); (fail_if_success (with_reducible show wpAny _ _ (call (Value.builtin "list.append") _ _) _ _ _)); (fail_if_success (with_reducible show Exists _)); (fail_if_success (with_reducible show wpAny _ _ (eval (Expr.ListComp _ _ _ _) _) _ _ _)); (fail_if_success (with_reducible show wpAny _ _ (eval (Expr.DictComp _ _ _ _ _) _) _ _ _)); (fail_if_success (with_reducible show wpAny _ _ (binaryOp _ (Value.ref _) (Value.ref _)) _ _ _)); walk1))
local macro_rules | `(tactic| walk_at "binaryOp Mult int int") => `(tactic| with_reducible refine mul_int ?_ (by with_reducible assumption))
local macro_rules | `(tactic| walk_at "binaryOp Pow int int") => `(tactic| with_reducible refine pow_int_small (by with_reducible assumption) (by with_reducible assumption) (by with_reducible assumption) ?_)

section
variable {w : World} {A : Around} {E : Value → Shared → Prop} {s : Shared}

local macro_rules | `(tactic| walk_at "eval Name") => `(tactic| first
  | (with_unfolding_all refine nmL (by rfl) (by rfl) (by decide) (by first | with_reducible assumption | exact Fr.ns (by with_reducible assumption)) (by rfl) (by first | with_reducible assumption | rfl | assumption) ?_)
  | (with_unfolding_all refine nmC (by rfl) (by rfl) (by decide) (by rfl) (by first | with_reducible assumption | assumption) ?_)
  | (with_unfolding_all refine nmG (by rfl) (by rfl) (by rfl) (by decide) (by rfl) (by first | with_reducible assumption | exact Wd.keeps (by with_reducible assumption) (Fr.keep (by with_reducible assumption))) ?_)
  | (with_unfolding_all refine nmB (by rfl) (by rfl) (by boot_by_name) (by rfl) (by rfl) (by decide) (by decide) (by rfl) (by first | with_reducible assumption | exact Wd.keeps (by with_reducible assumption) (Fr.keep (by with_reducible assumption))) ?_))
local macro_rules | `(tactic| walk_at "mL") => `(tactic| repeat ((fail_if_success (with_reducible show wpAny _ _ (execs (Stmt.For _ _ _ _ _ :: _) _) _ _ _)); (fail_if_success (with_reducible show wpAny _ _ (exec (Stmt.For _ _ _ _ _) _) _ _ _)); (fail_if_success (with_reducible show wpAny _ _ (execs (Stmt.Assign _ (Expr.List [] _) _ :: Stmt.For _ _ _ _ _ :: _) _) _ _ _)); (fail_if_success (with_reducible show wpAny _ _ (subscriptTail _ _ (Value.ref _) (Value.int _ _)) _ _ _)); (fail_if_success (with_reducible show wpAny _ _ (subscriptTail _ _ (Value.bytes _ _) (Value.int _ _)) _ _ _)); (fail_if_success (with_reducible show wpAny _ _ (setItem _ _ _) _ _ _)); (fail_if_success (with_reducible show wpAny _ _ (call (Value.type "bytes") _ _) _ _ _)); (fail_if_success (with_reducible show wpAny _ _ (call (Value.builtin "list.append") _ _) _ _ _)); (fail_if_success (with_reducible show Exists _)); (fail_if_success (with_reducible show wpAny _ _ (eval (Expr.ListComp _ _ _ _) _) _ _ _)); (fail_if_success (with_reducible show wpAny _ _ (eval (Expr.DictComp _ _ _ _ _) _) _ _ _)); (fail_if_success (with_reducible show wpAny _ _ (binaryOp _ (Value.ref _) (Value.ref _)) _ _ _)); walk1))
local macro_rules | `(tactic| walk_at "mE") => `(tactic| repeat ((fail_if_success (with_reducible show wpAny _ _ (execs (_ :: _) _) _ _ _)); (fail_if_success (with_reducible show wpAny _ _ (exec (Stmt.For _ _ _ _ _) _) _ _ _)); (fail_if_success (with_reducible show wpAny _ _ (execs (Stmt.Assign _ (Expr.List [] _) _ :: Stmt.For _ _ _ _ _ :: _) _) _ _ _)); (fail_if_success (with_reducible show wpAny _ _ (subscriptTail _ _ (Value.ref _) (Value.int _ _)) _ _ _)); (fail_if_success (with_reducible show wpAny _ _ (subscriptTail _ _ (Value.bytes _ _) (Value.int _ _)) _ _ _)); (fail_if_success (with_reducible show wpAny _ _ (setItem _ _ _) _ _ _)); (fail_if_success (with_reducible show wpAny _ _ (call (Value.type "bytes") _ _) _ _ _)); (fail_if_success (with_reducible show wpAny _ _ (call (Value.builtin "list.append") _ _) _ _ _)); (fail_if_success (with_reducible show Exists _)); (fail_if_success (with_reducible show wpAny _ _ (eval (Expr.ListComp _ _ _ _) _) _ _ _)); (fail_if_success (with_reducible show wpAny _ _ (eval (Expr.DictComp _ _ _ _ _) _) _ _ _)); (fail_if_success (with_reducible show wpAny _ _ (binaryOp _ (Value.ref _) (Value.ref _)) _ _ _)); walk1))

theorem tPair_len (q way : Int) {ci cj : Nat} (h1 : ci ≤ 2) (h2 : cj ≤ 2) (t : List (Int × Int)) : (tPair q way ci cj t).length ≤ 16 * t.length := by
  unfold tPair
  have e1 := tPow_len q way (List.range ci) t
  have e2 := tPow_len q (-way) ((List.range cj).map (· + 1)) (tPow q way t (List.range ci))
  rw [List.length_range] at e1
  rw [List.length_map, List.length_range] at e2
  have p : ∀ n : Nat, n ≤ 2 → 2 ^ n ≤ 4 := fun n hn => by
    have : n = 0 ∨ n = 1 ∨ n = 2 := by omega
    rcases this with rfl | rfl | rfl <;> decide
  have f1 : 2 ^ ci * t.length ≤ 4 * t.length := Nat.mul_le_mul_right _ (p _ h1)
  have f2 : 2 ^ cj * (tPow q way t (List.range ci)).length ≤ 4 * (tPow q way t (List.range ci)).length := Nat.mul_le_mul_right _ (p _ h2)
  omega
def stageT (a b c : Nat) (q : Int) : Nat → List (Int × Int)
  | 0 => [(home, 1)]
  | 1 => tPair q 65280 a b [(home, 1)]
  | 2 => tPair q 65535 a c (tPair q 65280 a b [(home, 1)])
  | _ => tabOf a b c q
theorem stageT_len {a b c : Nat} {q : Int} (ha : a ≤ 2) (hb : b ≤ 2) (hc : c ≤ 2) : ∀ i, i < 3 → (stageT a b c q i).length ≤ 2500 := by
  intro i hi
  have h1 := tPair_len q 65280 ha hb [(home, 1)]
  have h2 := tPair_len q 65535 ha hc (tPair q 65280 a b [(home, 1)])
  rw [List.length_singleton] at h1
  have h3 : i = 0 ∨ i = 1 ∨ i = 2 := by omega
  rcases h3 with rfl | rfl | rfl
  · show 1 ≤ 2500; decide
  · show (tPair q 65280 a b [(home, 1)]).length ≤ 2500; omega
  · show (tPair q 65535 a c (tPair q 65280 a b [(home, 1)])).length ≤ 2500; omega
theorem pair_0 {h₀ : Heap} {L C T : Addr} {cd : Value} {m : Str → Option Value} {pre base : List (Addr × Obj)} {o : Obj} {a b c ci cj : Nat} {q wv iv jv : Int} {items : Array Value} {n : Nat} {ti tj tc td : Tok} {t : List (Int × Int)} {Q : Flow → Shared → Prop} (R : Rm 3 A) (W : Wd w h₀) (F : Fr h₀ L s.heap m) (N : News h₀ L s.heap (pre ++ (T, o) :: base)) (hne : ∀ p ∈ pre ++ base, p.1 ≠ T)
    (M : Ms0 m a b c q) (mT : m (Str.ofString "table") = some (.ref T)) (mC : m (Str.ofString "counts") = some (.ref C)) (mj : m (Str.ofString "j") = some (.int jv tj)) (hC : (C, PySem.W.listOf items n) ∈ base) (mi : m (Str.ofString "i") = some (.int iv ti)) (hi0 : 0 ≤ iv) (hi1 : iv ≤ 2) (hit1 : items[iv.toNat]? = some (.int ci td)) (hci : ci ≤ 2) (hj0 : 0 ≤ jv) (hj1 : jv ≤ 2) (hit : items[jv.toNat]? = some (.int cj tc)) (hcj : cj ≤ 2)
    (hwv : (256 : Int) ^ (2 - iv).toNat - 256 ^ (2 - jv).toNat = wv)
    (lo : (T == sysModules) = false) (ho : ObTb w o t) (hz : t.length ≤ 2500) (hq : -50 ≤ q ∧ q ≤ 50)
    (hQ : ∀ h' tk m' T' o', Fr h₀ L h' m' → News h₀ L h' (pre ++ (T', o') :: base) → (∀ p ∈ pre ++ base, p.1 ≠ T') → (T' == sysModules) = false → ObTb w o' (tPair q wv ci cj t) → Ms0 m' a b c q → m' (Str.ofString "table") = some (.ref T') → m' (Str.ofString "counts") = some (.ref C) → Q .next { s with heap := h', toks := tk }) :
    wpAny (model PG w) A (execs pairBody (lenv L cd)) Q (fun _ _ => False) s := by
  have e0 : ∃ st, pairBody = st :: pairBody.drop 1 := ⟨_, rfl⟩
  have p1 : 0 ≤ 2 - iv := by omega
  have p2 : 2 - iv ≤ 1000000 := by omega
  have p3 : 0 ≤ 2 - jv := by omega
  have p4 : 2 - jv ≤ 1000000 := by omega
  have p5 : (256 : Int).natAbs < 2 ^ 64 := by decide
  conv in pairBody => whnf
  walk_at "mL"
  rename_i h₁ F₁ N₁
  rw [hwv] at F₁
  exact pair_1 (s := { s with heap := h₁, toks := _ }) R W F₁ N₁ hne (M.set (Str.ofString "way") _ (by decide)) (by with_unfolding_all exact mT) (by with_unfolding_all exact mC) rfl (by with_unfolding_all exact mj) hC (by with_unfolding_all exact mi) hi0 (by omega) hit1 hci hj0 (by omega) hit hcj lo ho hz hq hQ
theorem law_7_turns {h₀ : Heap} {L C T l A0 A1 A2 : Addr} {cd : Value} {m : Str → Option Value} {base : List (Addr × Obj)} {o : Obj} {a b c : Nat} {q : Int} {k1 k2 k3 : Tok} {n n0 kk : Nat} {px px' pt : Pos} {u0 u1 u2 : Tok × Tok} {Q : Flow → Shared → Prop} (R : Rm 3 A) (W : Wd w h₀) (F : Fr h₀ L s.heap m)
    (N : News h₀ L s.heap ((l, PySem.W.listOf #[.ref A0, .ref A1, .ref A2] n0) :: (A2, tupObj (1, 2) u2) :: (A1, tupObj (0, 2) u1) :: (A0, tupObj (0, 1) u0) :: (T, o) :: base))
    (hne : ∀ p ∈ base, p.1 ≠ T) (hd : l ≠ T ∧ A2 ≠ T ∧ A1 ≠ T ∧ A0 ≠ T)
    (M : Ms0 m a b c q) (mT : m (Str.ofString "table") = some (.ref T)) (mC : m (Str.ofString "counts") = some (.ref C)) (hC : (C, PySem.W.listOf #[.int a k1, .int b k2, .int c k3] n) ∈ base) (lo : (T == sysModules) = false) (ho : ObTb w o [(home, 1)])
    (ha : a ≤ 2) (hb : b ≤ 2) (hc : c ≤ 2) (hq : -50 ≤ q ∧ q ≤ 50)
    (hQ : ∀ h' tk m' T' o' news', Fr h₀ L h' m' → News h₀ L h' ((T', o') :: news') → (T' == sysModules) = false → ObTb w o' (tabOf a b c q) → Ms0 m' a b c q → m' (Str.ofString "table") = some (.ref T') → Q .next { s with heap := h', toks := tk }) :
    wpAny (model PG w) A (pyIter (.ref l)) (fun it s₂ => TurnsAt PG w A h₀ (lenv L cd) (.Tuple [.Name (Str.ofString "i") px, .Name (Str.ofString "j") px'] kk pt) pairBody Q (fun _ _ => False) it s₂) (fun _ _ => False) s := by
  have Nl := N _ (.head _)
  have N2 := N _ (.tail _ (.head _))
  have N1 := N _ (.tail _ (.tail _ (.head _)))
  have N0 := N _ (.tail _ (.tail _ (.tail _ (.head _))))
  generalize hB : ((l, PySem.W.listOf #[.ref A0, .ref A1, .ref A2] n0) :: (A2, tupObj (1, 2) u2) :: (A1, tupObj (0, 2) u1) :: (A0, tupObj (0, 1) u0) :: base) = base'
  have hCB : (C, PySem.W.listOf #[.int a k1, .int b k2, .int c k3] n) ∈ base' := by rw [← hB]; exact .tail _ (.tail _ (.tail _ (.tail _ hC)))
  have hlB : ∃ x, (l, x) ∈ base' := ⟨_, by rw [← hB]; exact .head _⟩
  have h2B : ∃ x, (A2, x) ∈ base' := ⟨_, by rw [← hB]; exact .tail _ (.head _)⟩
  have h1B : ∃ x, (A1, x) ∈ base' := ⟨_, by rw [← hB]; exact .tail _ (.tail _ (.head _))⟩
  have h0B : ∃ x, (A0, x) ∈ base' := ⟨_, by rw [← hB]; exact .tail _ (.tail _ (.tail _ (.head _)))⟩
  have hne' : ∀ p ∈ base', p.1 ≠ T := by
    rw [← hB]
    intro p hp
    rcases List.mem_cons.mp hp with rfl | hp
    · exact hd.1
    · rcases List.mem_cons.mp hp with rfl | hp
      · exact hd.2.1
      · rcases List.mem_cons.mp hp with rfl | hp
        · exact hd.2.2.1
        · rcases List.mem_cons.mp hp with rfl | hp
          · exact hd.2.2.2
          · exact hne p hp
  have N' : News h₀ L s.heap ((T, o) :: base') := by
    rw [← hB]
    intro p hp
    refine N p ?_
    simp only [List.mem_cons] at hp ⊢
    rcases hp with h | h | h | h | h | h <;> simp [h]
  clear N hB
  refine pairs_turns (Ts := fun j => [A0, A1, A2].getD j 0) (vals := fun j => (.int ([0, 0, 1].getD j 0) ([u0.1, u1.1, u2.1].getD j 0), .int ([1, 2, 2].getD j 0) ([u0.2, u1.2, u2.2].getD j 0))) R.hh (items := #[.ref A0, .ref A1, .ref A2]) ⟨_, Nl.1, rfl, _, rfl⟩ ?_ ?_ Nl.2.1 ?_ F N' rfl rfl rfl
    (fun i m' news' => ∃ T' o', news' = (T', o') :: base' ∧ ObTb w o' (stageT a b c q i) ∧ (T' == sysModules) = false ∧ (∀ p ∈ base', p.1 ≠ T') ∧ Ms0 m' a b c q ∧ m' (Str.ofString "table") = some (.ref T') ∧ m' (Str.ofString "counts") = some (.ref C)) ?_ ?_ ?_
  · intro j hj
    have : j = 0 ∨ j = 1 ∨ j = 2 := by simp at hj; omega
    rcases this with rfl | rfl | rfl <;> rfl
  · intro j hj
    have : j = 0 ∨ j = 1 ∨ j = 2 := by simp at hj; omega
    rcases this with rfl | rfl | rfl
    · exact ⟨_, N0.1, rfl, _, rfl⟩
    · exact ⟨_, N1.1, rfl, _, rfl⟩
    · exact ⟨_, N2.1, rfl, _, rfl⟩
  · intro j hj
    have : j = 0 ∨ j = 1 ∨ j = 2 := by simp at hj; omega
    rcases this with rfl | rfl | rfl
    · exact N0.2.1
    · exact N1.2.1
    · exact N2.2.1
  · exact ⟨T, o, rfl, ho, lo, hne', M, mT, mC⟩
  · rintro i m₁ news₁ h₁ tk₁ own hi ⟨T₁, o₁, rfl, ho₁, lo₁, hne₁, M₁, mT₁, mC₁⟩ hap F₁ N₁
    have hi3 : i = 0 ∨ i = 1 ∨ i = 2 := by simp at hi; omega
    have hown : ∀ p ∈ own, p.1 ≠ T₁ := by
      intro p hp
      rcases hap p hp with e | ⟨j, hj, e⟩ | e
      · obtain ⟨x, hx⟩ := hlB; rw [e]; exact hne₁ _ hx
      · have : j = 0 ∨ j = 1 ∨ j = 2 := by simp at hj; omega
        rcases this with rfl | rfl | rfl
        · obtain ⟨x, hx⟩ := h0B; rw [e]; exact hne₁ _ hx
        · obtain ⟨x, hx⟩ := h1B; rw [e]; exact hne₁ _ hx
        · obtain ⟨x, hx⟩ := h2B; rw [e]; exact hne₁ _ hx
      · exact e _ (.head _)
    have hneA : ∀ p ∈ own ++ base', p.1 ≠ T₁ := fun p hp => (List.mem_append.mp hp).elim (hown p) (hne₁ p)
    have hlen := stageT_len (q := q) ha hb hc i (by omega)
    have fin : ∀ h' tk m' T' o', Fr h₀ L h' m' → News h₀ L h' (own ++ (T', o') :: base') → (∀ p ∈ own ++ base', p.1 ≠ T') → (T' == sysModules) = false → ObTb w o' (stageT a b c q (i + 1)) → Ms0 m' a b c q → m' (Str.ofString "table") = some (.ref T') → m' (Str.ofString "counts") = some (.ref C) →
        StepJ h₀ (lenv L cd).locals own (((T₁, o₁) :: base').map (·.1)) h₁ (fun m' news' => ∃ T' o', news' = (T', o') :: base' ∧ ObTb w o' (stageT a b c q (i + 1)) ∧ (T' == sysModules) = false ∧ (∀ p ∈ base', p.1 ≠ T') ∧ Ms0 m' a b c q ∧ m' (Str.ofString "table") = some (.ref T') ∧ m' (Str.ofString "counts") = some (.ref C)) { s with heap := h₁, toks := tk₁ } Q .next { s with heap := h', toks := tk } := by
      intro h' tk m' T' o' F' N' hne2 lo' ho' M' mT' mC'
      refine ⟨h', tk, m', (T', o') :: base', rfl, F', N', fun p hp => ?_, T', o', rfl, ho', lo', fun p hp => hne2 p (List.mem_append_right _ hp), M', mT', mC'⟩
      rcases List.mem_cons.mp hp with rfl | hp
      · exact .inr (.inr fun q hq => hne2 q (List.mem_append_left _ hq))
      · exact .inl (.tail _ (List.mem_map_of_mem hp))
    have M₂ := fun x y => (M₁.set (Str.ofString "i") x (by decide)).set (Str.ofString "j") y (by decide)
    rcases hi3 with rfl | rfl | rfl
    · exact pair_0 (s := { s with heap := h₁, toks := tk₁ }) (wv := 65280) (iv := 0) (jv := 1) R W F₁ N₁ hneA (M₂ _ _) (by with_unfolding_all exact mT₁) (by with_unfolding_all exact mC₁) rfl hCB rfl (by decide) (by decide) rfl ha (by decide) (by decide) rfl hb (by decide) lo₁ ho₁ hlen hq fin
    · exact pair_0 (s := { s with heap := h₁, toks := tk₁ }) (wv := 65535) (iv := 0) (jv := 2) R W F₁ N₁ hneA (M₂ _ _) (by with_unfolding_all exact mT₁) (by with_unfolding_all exact mC₁) rfl hCB rfl (by decide) (by decide) rfl ha (by decide) (by decide) rfl hc (by decide) lo₁ ho₁ hlen hq fin
    · exact pair_0 (s := { s with heap := h₁, toks := tk₁ }) (wv := 255) (iv := 1) (jv := 2) R W F₁ N₁ hneA (M₂ _ _) (by with_unfolding_all exact mT₁) (by with_unfolding_all exact mC₁) rfl hCB rfl (by decide) (by decide) rfl hb (by decide) (by decide) rfl hc (by decide) lo₁ ho₁ hlen hq fin
  · rintro h' tk m' news' F' N'' ⟨T', o', rfl, ho', lo', _, M', mT', _⟩
    exact hQ h' tk m' T' o' base' F' N'' lo' ho' M' mT'

end
end Mine

end

section
open PySem PySem.W PySem.Calls PyProof.Rows
set_option Elab.async false
set_option maxRecDepth 100000
set_option maxHeartbeats 400000
namespace Mine
theorem fresh_L14 : True := by
  w_top off
  trivial
local macro_rules | `(tactic| walk_at "eval Name") => `(tactic| first
  | (with_unfolding_all refine nmL (by rfl) (by rfl) (by decide) (by first | with_reducible assumption | exact Fr.ns (by with_reducible assumption)) (by rfl) (by first | rfl | assumption) ?_)
  | (with_unfolding_all refine nmC (by rfl) (by rfl) (by decide) (by rfl) (by first | with_reducible assumption | assumption) ?_)
  | (with_unfolding_all refine nmG (by rfl) (by rfl) (by rfl) (by decide) (by rfl) (by first | with_reducible assumption | exact Wd.keeps (by with_reducible assumption) (Fr.keep (by with_reducible assumption))) ?_)
  | (with_unfolding_all refine nmB (by rfl) (by rfl) (by boot_by_name) (by rfl) (by rfl) (by decide) (by decide) (by rfl) (by first | with_reducible assumption | exact Wd.keeps (by with_reducible assumption) (Fr.keep (by with_reducible assumption))) ?_))
local macro_rules | `(tactic| walk_at "loadName") => `(tactic| (with_unfolding_all refine nmLd (by rfl) (by rfl) (by first | with_reducible assumption | exact Fr.ns (by with_reducible assumption)) (by rfl) (by first | rfl | assumption) ?_))
local macro_rules | `(tactic| walk_at "callWith ref") => `(tactic| (with_unfolding_all refine callF (by first | with_reducible assumption | exact Wd.keeps (by with_reducible assumption) (Fr.keep (by with_reducible assumption))) (by rfl) ?_ (by rfl) (by rfl)))
local macro_rules | `(tactic| walk_at "And") => `(tactic| ((with_reducible show Frag.In _ _ ∧ _); refine ⟨by first | exact (Wd.X (by with_reducible assumption)) | exact Wd.X (Wd.keeps (by with_reducible assumption) (Fr.keep (by with_reducible assumption))), ?_⟩; try dsimp only [List.nil_append, List.cons_append]))
local macro_rules | `(tactic| walk_at "mW") => `(tactic| repeat ((fail_if_success (with_reducible show wpAny _ _ (exec (Stmt.For _ _ _ _ _) _) _ _ _)); (fail_if_success (with_reducible show wpAny _ _ (execs (Stmt.Assign _ (Expr.List [] _) _ :: Stmt.For _ _ _ _ _ :: _) _) _ _ _)); (fail_if_success (with_reducible show wpAny _ _ (subscriptTail _ _ (Value.ref _) (Value.int _ _)) _ _ _)); (fail_if_success (with_reducible show wpAny _ _ (subscriptTail _ _ (Value.bytes _ _) (Value.int _ _)) _ _ _)); (fail_if_success (with_reducible show wpAny _ _ (setItem _ _ _) _ _ _)); (fail_if_success (with_reducible show wpAny _ _ (call (Value.type "bytes") _ _) _ _ _)); (fail_if_success (with_reducible show wpAny _ _ (call (Value.builtin "list.append") _ _) _ _ _)); (fail_if_success (with_reducible show Exists _)); (fail_if_success (with_reducible show wpAny _ _ (eval (Expr.ListComp _ _ _ _) _) _ _ _)); (fail_if_success (with_reducible show wpAny _ _ (eval (Expr.DictComp _ _ _ _ _) _) _ _ _)); (fail_if_success (with_reducible show wpAny _ _ (binaryOp _ (Value.ref _) (Value.ref _)) _ _ _)); walk1))
local macro_rules | `(tactic| walk_at "binaryOp Mult int int") => `(tactic| with_reducible refine mul_int ?_ (by with_reducible assumption))
local macro_rules | `(tactic| walk_at "binaryOp Pow int int") => `(tactic| with_reducible refine pow_int_small (by with_reducible assumption) (by with_reducible assumption) (by with_reducible assumption) ?_)

section
variable {w : World} {A : Around} {E : Value → Shared → Prop} {s : Shared}

local macro_rules | `(tactic| walk_at "eval Name") => `(tactic| first
  | (with_unfolding_all refine nmL (by rfl) (by rfl) (by decide) (by first | with_reducible assumption | exact Fr.ns (by with_reducible assumption)) (by rfl) (by first | with_reducible assumption | rfl | assumption) ?_)
  | (with_unfolding_all refine nmC (by rfl) (by rfl) (by decide) (by rfl) (by first | with_reducible assumption | assumption) ?_)
  | (with_unfolding_all refine nmG (by rfl) (by rfl) (by rfl) (by decide) (by rfl) (by first | with_reducible assumption | exact Wd.keeps (by with_reducible assumption) (Fr.keep (by with_reducible assumption))) ?_)
  | (with_unfolding_all refine nmB (by rfl) (by rfl) (by boot_by_name) (by rfl) (by rfl) (by decide) (by decide) (by rfl) (by first | with_reducible assumption | exact Wd.keeps (by with_reducible assumption) (Fr.keep (by with_reducible assumption))) ?_))
local macro_rules | `(tactic| walk_at "mL") => `(tactic| repeat ((fail_if_success (with_reducible show wpAny _ _ (execs (Stmt.For _ _ _ _ _ :: _) _) _ _ _)); (fail_if_success (with_reducible show wpAny _ _ (exec (Stmt.For _ _ _ _ _) _) _ _ _)); (fail_if_success (with_reducible show wpAny _ _ (execs (Stmt.Assign _ (Expr.List [] _) _ :: Stmt.For _ _ _ _ _ :: _) _) _ _ _)); (fail_if_success (with_reducible show wpAny _ _ (subscriptTail _ _ (Value.ref _) (Value.int _ _)) _ _ _)); (fail_if_success (with_reducible show wpAny _ _ (subscriptTail _ _ (Value.bytes _ _) (Value.int _ _)) _ _ _)); (fail_if_success (with_reducible show wpAny _ _ (setItem _ _ _) _ _ _)); (fail_if_success (with_reducible show wpAny _ _ (call (Value.type "bytes") _ _) _ _ _)); (fail_if_success (with_reducible show wpAny _ _ (call (Value.builtin "list.append") _ _) _ _ _)); (fail_if_success (with_reducible show Exists _)); (fail_if_success (with_reducible show wpAny _ _ (eval (Expr.ListComp _ _ _ _) _) _ _ _)); (fail_if_success (with_reducible show wpAny _ _ (eval (Expr.DictComp _ _ _ _ _) _) _ _ _)); (fail_if_success (with_reducible show wpAny _ _ (binaryOp _ (Value.ref _) (Value.ref _)) _ _ _)); walk1))
local macro_rules | `(tactic| walk_at "mE") => `(tactic| repeat ((fail_if_success (with_reducible show wpAny _ _ (execs (_ :: _) _) _ _ _)); (fail_if_success (with_reducible show wpAny _ _ (exec (Stmt.For _ _ _ _ _) _) _ _ _)); (fail_if_success (with_reducible show wpAny _ _ (execs (Stmt.Assign _ (Expr.List [] _) _ :: Stmt.For _ _ _ _ _ :: _) _) _ _ _)); (fail_if_success (with_reducible show wpAny _ _ (subscriptTail _ _ (Value.ref _) (Value.int _ _)) _ _ _)); (fail_if_success (with_reducible show wpAny _ _ (subscriptTail _ _ (Value.bytes _ _) (Value.int _ _)) _ _ _)); (fail_if_success (with_reducible show wpAny _ _ (setItem _ _ _) _ _ _)); (fail_if_success (with_reducible show wpAny _ _ (call (Value.type "bytes") _ _) _ _ _)); (fail_if_success (with_reducible show wpAny _ _ (call (Value.builtin "list.append") _ _) _ _ _)); (fail_if_success (with_reducible show Exists _)); (fail_if_success (with_reducible show wpAny _ _ (eval (Expr.ListComp _ _ _ _) _) _ _ _)); (fail_if_success (with_reducible show wpAny _ _ (eval (Expr.DictComp _ _ _ _ _) _) _ _ _)); (fail_if_success (with_reducible show wpAny _ _ (binaryOp _ (Value.ref _) (Value.ref _)) _ _ _)); walk1))

theorem law_7 {h₀ : Heap} {L C T : Addr} {cd : Value} {m : Str → Option Value} {base : List (Addr × Obj)} {o : Obj} {a b c : Nat} {q : Int} {k1 k2 k3 : Tok} {n : Nat} {Q : Flow → Shared → Prop} (R : Rm 3 A) (hgd : A.guards = some []) (W : Wd w h₀) (F : Fr h₀ L s.heap m) (N : News h₀ L s.heap ((T, o) :: base)) (hne : ∀ p ∈ base, p.1 ≠ T)
    (M : Ms0 m a b c q) (mT : m (Str.ofString "table") = some (.ref T)) (mC : m (Str.ofString "counts") = some (.ref C)) (hC : (C, PySem.W.listOf #[.int a k1, .int b k2, .int c k3] n) ∈ base) (lo : (T == sysModules) = false) (ho : ObTb w o [(home, 1)])
    (ha : a ≤ 2) (hb : b ≤ 2) (hc : c ≤ 2) (hq : -50 ≤ q ∧ q ≤ 50)
    (hQ : ∀ h' tk, (∀ b o, h₀.get? b = some o → h'.get? b = some o) → Q (.ret (.bool true)) { s with heap := h', toks := tk }) :
    wpK (model PG w) A (execs (lawBody.drop 7) (lenv L cd)) Q (fun _ _ => False) s := by
  have e7 : ∃ st, lawBody.drop 7 = st :: lawBody.drop 8 := ⟨_, rfl⟩
  have hTlt : T < s.heap.objs.size := Heap.lt_size (N _ (.head _)).1
  conv in List.drop 7 _ => whnf
  refine wpK_execs_cons (wpK_of ?_)
  refine For_turns F ?_ (by intro _; rfl)
  walk_at "mE"
  rename_i g1 F1 N1 g2 F2 N2 g3 F3 N3 g4 F4 N4
  dsimp only at N1 N2 N3 N4 ⊢
  have ht1 : T < g1.objs.size := Heap.lt_size (N1 _ (.tail _ (.head _))).1
  have ht2 : T < g2.objs.size := Heap.lt_size (N2 _ (.tail _ (.tail _ (.head _)))).1
  have ht3 : T < g3.objs.size := Heap.lt_size (N3 _ (.tail _ (.tail _ (.tail _ (.head _))))).1
  refine law_7_turns (s := { s with heap := g4, toks := _ }) (u0 := (_, _)) (u1 := (_, _)) (u2 := (_, _)) R W F4 N4 hne ⟨Ne.symm (Nat.ne_of_lt ht3), Ne.symm (Nat.ne_of_lt ht2), Ne.symm (Nat.ne_of_lt ht1), Ne.symm (Nat.ne_of_lt hTlt)⟩ M mT mC hC lo ho ha hb hc hq ?_
  intro h' tk m' T' o' news' F' N' lo' ho' M' mT'
  exact law_8 (s := { s with heap := h', toks := tk }) R hgd W F' N' M' mT' ⟨lo', o', .head _, ho'⟩ ha hb hc hq hQ

end
end Mine

end

section
open PySem PySem.W PySem.Calls PyProof.Rows
set_option Elab.async false
set_option maxRecDepth 100000
set_option maxHeartbeats 400000
namespace Mine
theorem fresh_L15 : True := by
  w_top off
  trivial
local macro_rules | `(tactic| walk_at "none of these") => `(tactic| skip)
local macro_rules | `(tactic| walk_at "eval Name") => `(tactic| first
  | (with_unfolding_all refine nmL (by rfl) (by rfl) (by decide) (by first | with_reducible assumption | exact Fr.ns (by with_reducible assumption)) (by rfl) (by first | rfl | assumption) ?_)
  | (with_unfolding_all refine nmC (by rfl) (by rfl) (by decide) (by rfl) (by first | with_reducible assumption | assumption) ?_)
  | (with_unfolding_all refine nmG (by rfl) (by rfl) (by rfl) (by decide) (by rfl) (by first | with_reducible assumption | exact Wd.keeps (by with_reducible assumption) (Fr.keep (by with_reducible assumption))) ?_)
  | (with_unfolding_all refine nmB (by rfl) (by rfl) (by boot_by_name) (by rfl) (by rfl) (by decide) (by decide) (by rfl) (by first | with_reducible assumption | exact Wd.keeps (by with_reducible assumption) (Fr.keep (by with_reducible assumption))) ?_))
local macro_rules | `(tactic| walk_at "loadName") => `(tactic| (with_unfolding_all refine nmLd (by rfl) (by rfl) (by first | with_reducible assumption | exact Fr.ns (by with_reducible assumption)) (by rfl) (by first | rfl | assumption) ?_))
local macro_rules | `(tactic| walk_at "callWith ref") => `(tactic| (with_unfolding_all refine callF (by first | with_reducible assumption | exact Wd.keeps (by with_reducible assumption) (Fr.keep (by with_reducible assumption))) (by rfl) ?_ (by rfl) (by rfl)))
local macro_rules | `(tactic| walk_at "And") => `(tactic| ((with_reducible show Frag.In _ _ ∧ _); refine ⟨by first | exact (Wd.X (by with_reducible assumption)) | exact Wd.X (Wd.keeps (by with_reducible assumption) (Fr.keep (by with_reducible assumption))), ?_⟩; try dsimp only [List.nil_append, List.cons_append]))
local macro_rules | `(tactic| walk_at "mW") => `(tactic| repeat ((fail_if_success (with_reducible show wpAny _ _ (exec (Stmt.For _ _ _ _ _) _) _ _ _)); (fail_if_success (with_reducible show wpAny _ _ (execs (Stmt.Assign _ (Expr.List [] _) _ :: Stmt.For _ _ _ _ _ :: _) _) _ _ _)); (fail_if_success (with_reducible show wpAny _ _ (subscriptTail _ _ (Value.ref _) (Value.int _ _)) _ _ _)); (fail_if_success (with_reducible show wpAny _ _ (subscriptTail _ _ (Value.bytes _ _) (Value.int _ _)) _ _ _)); (fail_if_success (with_reducible show wpAny _ _ (setItem _ _ _) _ _ _)); (fail_if_success (with_reducible show wpAny _ _ (call (Value.type "bytes") _ _) _ _ _)); (fail_if_success (with_reducible show wpAny _ _ (call (Value.builtin "list.append") _ _) _ _ _)); (fail_if_success (with_reducible show Exists _)); (fail_if_success (with_reducible show wpAny _ _ (eval (Expr.ListComp _ _ _ _) _) _ _ _)); (fail_if_success (with_reducible show wpAny _ _ (eval (Expr.DictComp _ _ _ _ _) _) _ _ _)); (fail_if_success (with_reducible show wpAny _ _ (binaryOp _ (Value.ref _) (Value.ref _)) _ _ _)); walk1))
local macro_rules | `(tactic| walk_at "binaryOp Mult int int") => `(tactic| with_reducible refine mul_int ?_ (by with_reducible assumption))
local macro_rules | `(tactic| walk_at "binaryOp Pow int int") => `(tactic| with_reducible refine pow_int_small (by with_reducible assumption) (by with_reducible assumption) (by with_reducible assumption) ?_)

section
variable {w : World} {A : Around} {E : Value → Shared → Prop} {s : Shared}

local macro_rules | `(tactic| walk_at "eval Name") => `(tactic| first
  | (with_unfolding_all refine nmL (by rfl) (by rfl) (by decide) (by first | with_reducible assumption | exact Fr.ns (by with_reducible assumption)) (by rfl) (by first | with_reducible assumption | rfl | assumption) ?_)
  | (with_unfolding_all refine nmC (by rfl) (by rfl) (by decide) (by rfl) (by first | with_reducible assumption | assumption) ?_)
  | (with_unfolding_all refine nmG (by rfl) (by rfl) (by rfl) (by decide) (by rfl) (by first | with_reducible assumption | exact Wd.keeps (by with_reducible assumption) (Fr.keep (by with_reducible assumption))) ?_)
  | (with_unfolding_all refine nmB (by rfl) (by rfl) (by boot_by_name) (by rfl) (by rfl) (by decide) (by decide) (by rfl) (by first | with_reducible assumption | exact Wd.keeps (by with_reducible assumption) (Fr.keep (by with_reducible assumption))) ?_))
local macro_rules | `(tactic| walk_at "mL") => `(tactic| repeat ((fail_if_success (with_reducible show wpAny _ _ (execs (Stmt.For _ _ _ _ _ :: _) _) _ _ _)); (fail_if_success (with_reducible show wpAny _ _ (exec (Stmt.For _ _ _ _ _) _) _ _ _)); (fail_if_success (with_reducible show wpAny _ _ (execs (Stmt.Assign _ (Expr.List [] _) _ :: Stmt.For _ _ _ _ _ :: _) _) _ _ _)); (fail_if_success (with_reducible show wpAny _ _ (subscriptTail _ _ (Value.ref _) (Value.int _ _)) _ _ _)); (fail_if_success (with_reducible show wpAny _ _ (subscriptTail _ _ (Value.bytes _ _) (Value.int _ _)) _ _ _)); (fail_if_success (with_reducible show wpAny _ _ (setItem _ _ _) _ _ _)); (fail_if_success (with_reducible show wpAny _ _ (call (Value.type "bytes") _ _) _ _ _)); (fail_if_success (with_reducible show wpAny _ _ (call (Value.builtin "list.append") _ _) _ _ _)); (fail_if_success (with_reducible show Exists _)); (fail_if_success (with_reducible show wpAny _ _ (eval (Expr.ListComp _ _ _ _) _) _ _ _)); (fail_if_success (with_reducible show wpAny _ _ (eval (Expr.DictComp _ _ _ _ _) _) _ _ _)); (fail_if_success (with_reducible show wpAny _ _ (binaryOp _ (Value.ref _) (Value.ref _)) _ _ _)); walk1))
local macro_rules | `(tactic| walk_at "mE") => `(tactic| repeat ((fail_if_success (with_reducible show wpAny _ _ (execs (_ :: _) _) _ _ _)); (fail_if_success (with_reducible show wpAny _ _ (exec (Stmt.For _ _ _ _ _) _) _ _ _)); (fail_if_success (with_reducible show wpAny _ _ (execs (Stmt.Assign _ (Expr.List [] _) _ :: Stmt.For _ _ _ _ _ :: _) _) _ _ _)); (fail_if_success (with_reducible show wpAny _ _ (subscriptTail _ _ (Value.ref _) (Value.int _ _)) _ _ _)); (fail_if_success (with_reducible show wpAny _ _ (subscriptTail _ _ (Value.bytes _ _) (Value.int _ _)) _ _ _)); (fail_if_success (with_reducible show wpAny _ _ (setItem _ _ _) _ _ _)); (fail_if_success (with_reducible show wpAny _ _ (call (Value.type "bytes") _ _) _ _ _)); (fail_if_success (with_reducible show wpAny _ _ (call (Value.builtin "list.append") _ _) _ _ _)); (fail_if_success (with_reducible show Exists _)); (fail_if_success (with_reducible show wpAny _ _ (eval (Expr.ListComp _ _ _ _) _) _ _ _)); (fail_if_success (with_reducible show wpAny _ _ (eval (Expr.DictComp _ _ _ _ _) _) _ _ _)); (fail_if_success (with_reducible show wpAny _ _ (binaryOp _ (Value.ref _) (Value.ref _)) _ _ _)); walk1))

set_option maxHeartbeats 4000000 in
theorem law_6 {h₀ : Heap} {L C : Addr} {cd : Value} {m : Str → Option Value} {news : List (Addr × Obj)} {a b c : Nat} {q : Int} {k1 k2 k3 : Tok} {n : Nat} {Q : Flow → Shared → Prop} (R : Rm 3 A) (hgd : A.guards = some []) (W : Wd w h₀) (F : Fr h₀ L s.heap m) (N : News h₀ L s.heap news)
    (M : Ms0 m a b c q) (mC : m (Str.ofString "counts") = some (.ref C)) (hC : (C, PySem.W.listOf #[.int a k1, .int b k2, .int c k3] n) ∈ news)
    (ha : a ≤ 2) (hb : b ≤ 2) (hc : c ≤ 2) (hq : -50 ≤ q ∧ q ≤ 50)
    (hQ : ∀ h' tk, (∀ b o, h₀.get? b = some o → h'.get? b = some o) → Q (.ret (.bool true)) { s with heap := h', toks := tk }) :
    wpK (model PG w) A (execs (lawBody.drop 6) (lenv L cd)) Q (fun _ _ => False) s := by
  have e6 : ∃ st, lawBody.drop 6 = st :: lawBody.drop 7 := ⟨_, rfl⟩
  obtain ⟨th, n5⟩ := M.home
  conv in List.drop 6 _ => whnf
  refine wpK_execs_cons (wpK_of ?_)
  walk_at "mL"
  refine kdn_eval (knd := PySem.intKind PG w) F N W.nolimit rfl rfl (List.cons_ne_nil _ _) (by decide) ?_
  intro T h₆ o₆ F6 N6 hlt6 lo6 hd6
  have hne7 : ∀ p ∈ news, p.1 ≠ T := fun p hp => Nat.ne_of_lt (hlt6 p hp)
  have M7 := M.set (Str.ofString "table") (some (.ref T)) (by decide)
  walk_at "mL"
  refine kdn_made_int F6 N6 (.head hne7) hd6 rfl (show [home].Nodup by decide) ?_
  intro h₇ o₇ F7 N7 hd7
  have ho7 : ObTb w o₇ [(home, 1)] := ⟨_, hd7, .cons .nil⟩
  walk_at "mL"
  rename_i F8 N8
  refine law_7 (C := C) (T := T) (base := news) R hgd W F8 N8 hne7 M7 ?_ ?_ hC lo6 ho7 ha hb hc hq hQ
  · rfl
  · with_unfolding_all exact mC
set_option maxHeartbeats 4000000 in
theorem law_4 {h₀ : Heap} {L C Dr : Addr} {cd : Value} {m : Str → Option Value} {news : List (Addr × Obj)} {a b c d0 d1 d2 d3 : Nat} {k1 k2 k3 t0 t1 t2 t3 ta tb tc : Tok} {n nd : Nat} {Q : Flow → Shared → Prop} (R : Rm 3 A) (hgd : A.guards = some []) (W : Wd w h₀) (F : Fr h₀ L s.heap m) (N : News h₀ L s.heap news)
    (mC : m (Str.ofString "counts") = some (.ref C)) (hC : (C, PySem.W.listOf #[.int a k1, .int b k2, .int c k3] n) ∈ news) (mD : m (Str.ofString "draws") = some (.ref Dr)) (hDr : (Dr, PySem.W.listOf #[.int d0 t0, .int d1 t1, .int d2 t2, .int d3 t3] nd) ∈ news) (hd3 : d3 < 2 ^ 40)
    (m1 : m (Str.ofString "a") = some (.int a ta)) (m2 : m (Str.ofString "b") = some (.int b tb)) (m3 : m (Str.ofString "c") = some (.int c tc))
    (ha : a ≤ 2) (hb : b ≤ 2) (hc : c ≤ 2)
    (hQ : ∀ h' tk, (∀ b o, h₀.get? b = some o → h'.get? b = some o) → Q (.ret (.bool true)) { s with heap := h', toks := tk }) :
    wpK (model PG w) A (execs (lawBody.drop 4) (lenv L cd)) Q (fun _ _ => False) s := by
  have e4 : ∃ st st' st'', lawBody.drop 4 = st :: st' :: st'' :: lawBody.drop 7 := ⟨_, _, _, rfl⟩
  have hDl : s.heap.IsList Dr #[.int d0 t0, .int d1 t1, .int d2 t2, .int d3 t3] := listOf_is (N _ hDr).1
  have hq : -50 ≤ (d3 : Int).fmod 101 - 50 ∧ (d3 : Int).fmod 101 - 50 ≤ 50 := by
    rw [Int.fmod_eq_emod_of_nonneg _ (by decide)]; omega
  have w1 : (0 : Int) ≤ 2 := by decide
  have w2 : (2 : Int) ≤ 1000000 := by decide
  have w3 : (256 : Int).natAbs < 2 ^ 64 := by decide
  have i1 : IntMulOk 8 ((256 : Int) ^ (2 : Int).toNat) := .of_left (intBits_le_64 (by decide) (by decide))
  have i2 : IntMulOk (8 : Int) 256 := .of_left (intBits_le_64 (by decide) (by decide))
  have eh : (8 : Int) * 256 ^ (2 : Int).toNat + 8 * 256 + 8 = home := by decide
  generalize hqq : (d3 : Int).fmod 101 - 50 = q at hq
  conv in List.drop 4 _ => whnf
  refine wpK_execs_cons (wpK_of ?_)
  walk_at "mL"
  refine sub_list (x := .int d3 t3) hDl (by decide) (by decide) rfl ?_
  walk_at "mL"
  rename_i F4 N4
  rw [hqq] at F4
  refine wpK_execs_cons (wpK_of ?_)
  walk_at "mL"
  rename_i F5 N5
  rw [eh] at F5
  have e6 : ∃ st, lawBody.drop 6 = st :: lawBody.drop 7 := ⟨_, rfl⟩
  exact law_6 (s := { s with heap := _, toks := _ }) R hgd W F5 N5 ⟨⟨_, by with_unfolding_all exact m1⟩, ⟨_, by with_unfolding_all exact m2⟩, ⟨_, by with_unfolding_all exact m3⟩, ⟨_, rfl⟩, ⟨_, rfl⟩⟩ (by with_unfolding_all exact mC) hC ha hb hc hq hQ
theorem law_3 {h₀ : Heap} {L C Dr : Addr} {cd : Value} {m : Str → Option Value} {news : List (Addr × Obj)} {a b c d0 d1 d2 d3 : Nat} {k1 k2 k3 t0 t1 t2 t3 : Tok} {n nd : Nat} {Q : Flow → Shared → Prop} (R : Rm 3 A) (hgd : A.guards = some []) (W : Wd w h₀) (F : Fr h₀ L s.heap m) (N : News h₀ L s.heap news)
    (mC : m (Str.ofString "counts") = some (.ref C)) (hC : (C, PySem.W.listOf #[.int a k1, .int b k2, .int c k3] n) ∈ news) (mD : m (Str.ofString "draws") = some (.ref Dr)) (hDr : (Dr, PySem.W.listOf #[.int d0 t0, .int d1 t1, .int d2 t2, .int d3 t3] nd) ∈ news) (hd3 : d3 < 2 ^ 40)
    (ha : a ≤ 2) (hb : b ≤ 2) (hc : c ≤ 2)
    (hQ : ∀ h' tk, (∀ b o, h₀.get? b = some o → h'.get? b = some o) → Q (.ret (.bool true)) { s with heap := h', toks := tk }) :
    wpK (model PG w) A (execs (lawBody.drop 3) (lenv L cd)) Q (fun _ _ => False) s := by
  have e3 : ∃ st, lawBody.drop 3 = st :: lawBody.drop 4 := ⟨_, rfl⟩
  conv in List.drop 3 _ => whnf
  refine wpK_execs_cons (wpK_of ?_)
  walk_at "mL"
  refine kun_list F N (listOf_is (N _ hC).1) R.hh rfl rfl ?_
  intro h₁ F₁ N₁
  walk_at "mL"
  rename_i F3 N3
  exact law_4 (s := { s with heap := _, toks := _ }) R hgd W F3 N3 (by with_unfolding_all exact mC) hC (by with_unfolding_all exact mD) hDr hd3 rfl rfl rfl ha hb hc hQ

end
end Mine

end

section
open PySem PySem.W PySem.Calls PyProof.Rows
set_option Elab.async false
set_option maxRecDepth 100000
set_option maxHeartbeats 400000
namespace Mine
theorem fresh_L16 : True := by
  w_top off
  trivial
local macro_rules | `(tactic| walk_at "eval Name") => `(tactic| first
  | (with_unfolding_all refine nmL (by rfl) (by rfl) (by decide) (by first | with_reducible assumption | exact Fr.ns (by with_reducible assumption)) (by rfl) (by first | rfl | assumption) ?_)
  | (with_unfolding_all refine nmC (by rfl) (by rfl) (by decide) (by rfl) (by first | with_reducible assumption | assumption) ?_)
  | (with_unfolding_all refine nmG (by rfl) (by rfl) (by rfl) (by decide) (by rfl) (by first | with_reducible assumption | exact Wd.keeps (by with_reducible assumption) (Fr.keep (by with_reducible assumption))) ?_)
  | (with_unfolding_all refine nmB (by rfl) (by rfl) (by boot_by_name) (by rfl) (by rfl) (by decide) (by decide) (by rfl) (by first | with_reducible assumption | exact Wd.keeps (by with_reducible assumption) (Fr.keep (by with_reducible assumption))) ?_))
local macro_rules | `(tactic| walk_at "loadName") => `(tactic| (with_unfolding_all refine nmLd (by rfl) (by rfl) (by first | with_reducible assumption | exact Fr.ns (by with_reducible assumption)) (by rfl) (by first | rfl | assumption) ?_))
local macro_rules | `(tactic| walk_at "callWith ref") => `(tactic| (with_unfolding_all refine callF (by first | with_reducible assumption | exact Wd.keeps (by with_reducible assumption) (Fr.keep (by with_reducible assumption))) (by rfl) ?_ (by rfl) (by rfl)))
local macro_rules | `(tactic| walk_at "And") => `(tactic| ((with_reducible show Frag.In _ _ ∧ _); refine ⟨by first | exact (Wd.X (by with_reducible assumption)) | exact Wd.X (Wd.keeps (by with_reducible assumption) (Fr.keep (by with_reducible assumption))), ?_⟩; try dsimp only [List.nil_append, List.cons_append]))
local macro_rules | `(tactic| walk_at "mW") => `(tactic| repeat ((fail_if_success (with_reducible show wpAny _ _ (exec (Stmt.For _ _ _ _ _) _) _ _ _)); (fail_if_success (with_reducible show wpAny _ _ (execs (Stmt.Assign _ (Expr.List [] _) _ :: Stmt.For _ _ _ _ _ :: _) _) _ _ _)); (fail_if_success (with_reducible show wpAny _ _ (subscriptTail _ _ (Value.ref _) (Value.int _ _)) _ _ _)); (fail_if_success (with_reducible show wpAny _ _ (subscriptTail _ _ (Value.bytes _ _) (Value.int _ _)) _ _ _)); (fail_if_success (with_reducible show wpAny _ _ (setItem _ _ _) _ _ _)); (fail_if_success (with_reducible show wpAny _ _ (call (Value.type "bytes") _ _) _ _ _)); (fail_if_success (with_reducible show wpAny _ _ (call (Value.builtin "list.append") _ _) _ _ _)); (fail_if_success (with_reducible show Exists _)); (fail_if_success (with_reducible show wpAny _ _ (eval (Expr.ListComp _ _ _ _) _) _ _ _)); (fail_if_success (with_reducible show wpAny _ _ (eval (Expr.DictComp _ _ _ _ _) _) _ _ _)); (fail_if_success (with_reducible show wpAny _ _ (binaryOp _ (Value.ref _) (Value.ref _)) _ _ _)); walk1))
local macro_rules | `(tactic| walk_at "binaryOp Mult int int") => `(tactic| with_reducible refine mul_int ?_ (by with_reducible assumption))
local macro_rules | `(tactic| walk_at "binaryOp Pow int int") => `(tactic| with_reducible refine pow_int_small (by with_reducible assumption) (by with_reducible assumption) (by with_reducible assumption) ?_)

section
variable {w : World} {A : Around} {E : Value → Shared → Prop} {s : Shared}

local macro_rules | `(tactic| walk_at "eval Name") => `(tactic| first
  | (with_unfolding_all refine nmL (by rfl) (by rfl) (by decide) (by first | with_reducible assumption | exact Fr.ns (by with_reducible assumption)) (by rfl) (by first | with_reducible assumption | rfl | assumption) ?_)
  | (with_unfolding_all refine nmC (by rfl) (by rfl) (by decide) (by rfl) (by first | with_reducible assumption | assumption) ?_)
  | (with_unfolding_all refine nmG (by rfl) (by rfl) (by rfl) (by decide) (by rfl) (by first | with_reducible assumption | exact Wd.keeps (by with_reducible assumption) (Fr.keep (by with_reducible assumption))) ?_)
  | (with_unfolding_all refine nmB (by rfl) (by rfl) (by boot_by_name) (by rfl) (by rfl) (by decide) (by decide) (by rfl) (by first | with_reducible assumption | exact Wd.keeps (by with_reducible assumption) (Fr.keep (by with_reducible assumption))) ?_))
local macro_rules | `(tactic| walk_at "mL") => `(tactic| repeat ((fail_if_success (with_reducible show wpAny _ _ (execs (Stmt.For _ _ _ _ _ :: _) _) _ _ _)); (fail_if_success (with_reducible show wpAny _ _ (exec (Stmt.For _ _ _ _ _) _) _ _ _)); (fail_if_success (with_reducible show wpAny _ _ (execs (Stmt.Assign _ (Expr.List [] _) _ :: Stmt.For _ _ _ _ _ :: _) _) _ _ _)); (fail_if_success (with_reducible show wpAny _ _ (subscriptTail _ _ (Value.ref _) (Value.int _ _)) _ _ _)); (fail_if_success (with_reducible show wpAny _ _ (subscriptTail _ _ (Value.bytes _ _) (Value.int _ _)) _ _ _)); (fail_if_success (with_reducible show wpAny _ _ (setItem _ _ _) _ _ _)); (fail_if_success (with_reducible show wpAny _ _ (call (Value.type "bytes") _ _) _ _ _)); (fail_if_success (with_reducible show wpAny _ _ (call (Value.builtin "list.append") _ _) _ _ _)); (fail_if_success (with_reducible show Exists _)); (fail_if_success (with_reducible show wpAny _ _ (eval (Expr.ListComp _ _ _ _) _) _ _ _)); (fail_if_success (with_reducible show wpAny _ _ (eval (Expr.DictComp _ _ _ _ _) _) _ _ _)); (fail_if_success (with_reducible show wpAny _ _ (binaryOp _ (Value.ref _) (Value.ref _)) _ _ _)); walk1))
local macro_rules | `(tactic| walk_at "mE") => `(tactic| repeat ((fail_if_success (with_reducible show wpAny _ _ (execs (_ :: _) _) _ _ _)); (fail_if_success (with_reducible show wpAny _ _ (exec (Stmt.For _ _ _ _ _) _) _ _ _)); (fail_if_success (with_reducible show wpAny _ _ (execs (Stmt.Assign _ (Expr.List [] _) _ :: Stmt.For _ _ _ _ _ :: _) _) _ _ _)); (fail_if_success (with_reducible show wpAny _ _ (subscriptTail _ _ (Value.ref _) (Value.int _ _)) _ _ _)); (fail_if_success (with_reducible show wpAny _ _ (subscriptTail _ _ (Value.bytes _ _) (Value.int _ _)) _ _ _)); (fail_if_success (with_reducible show wpAny _ _ (setItem _ _ _) _ _ _)); (fail_if_success (with_reducible show wpAny _ _ (call (Value.type "bytes") _ _) _ _ _)); (fail_if_success (with_reducible show wpAny _ _ (call (Value.builtin "list.append") _ _) _ _ _)); (fail_if_success (with_reducible show Exists _)); (fail_if_success (with_reducible show wpAny _ _ (eval (Expr.ListComp _ _ _ _) _) _ _ _)); (fail_if_success (with_reducible show wpAny _ _ (eval (Expr.DictComp _ _ _ _ _) _) _ _ _)); (fail_if_success (with_reducible show wpAny _ _ (binaryOp _ (Value.ref _) (Value.ref _)) _ _ _)); walk1))

theorem joined_eq (x : List Nat) (ps : List (Option (Nat × Nat))) : ps.flatMap (pieceL x.toArray) = joined x ps := by
  unfold joined
  congr 1
  funext p
  cases p with
  | none => rfl
  | some p => simp [pieceL, List.take_drop]
def lenOk (i j l : Nat) : Bool := decide (4 ≤ (mendedOf (mailOf i j l)).length) && decide ((mendedOf (mailOf i j l)).length ≤ 6)
theorem lenOk_all : ((List.range 3).all fun i => (List.range 3).all fun j => (List.range 26).all fun l => lenOk i j (97 + l)) = true := by decide +kernel
theorem mail_facts {i j l : Nat} (hi : i < 3) (hj : j < 3) (hl : l < 26) : ∃ ps, pieces (mailOf i j (97 + l)).toArray 8 0 0 false = some ps ∧ ps.flatMap (pieceL (mailOf i j (97 + l)).toArray) = mendedOf (mailOf i j (97 + l)) ∧ ps.length ≤ 100 ∧
    4 ≤ (mendedOf (mailOf i j (97 + l))).length ∧ (mendedOf (mailOf i j (97 + l))).length ≤ 6 := by
  have h1 := List.all_eq_true.mp (ok_row i j hi hj) l (List.mem_range.mpr hl)
  have h2 := List.all_eq_true.mp (List.all_eq_true.mp (List.all_eq_true.mp lenOk_all i (List.mem_range.mpr hi)) j (List.mem_range.mpr hj)) l (List.mem_range.mpr hl)
  simp only [lenOk, Bool.and_eq_true, decide_eq_true_eq] at h2
  unfold okMail at h1
  split at h1
  · rename_i ps e
    simp only [Bool.and_eq_true, beq_iff_eq, decide_eq_true_eq] at h1
    exact ⟨ps, e, by rw [joined_eq]; exact h1.1, by omega, h2⟩
  · exact nomatch h1
theorem str_of_list {x y : Str} (h : x.cps.toList = y.cps.toList) : x = y := by
  obtain ⟨a⟩ := x; obtain ⟨b⟩ := y
  have : a = b := Array.toList_inj.mp h
  rw [this]
def mailBody : List Stmt := match lawBody.drop 2 with | .For _ _ b _ _ :: _ => b | _ => []
theorem mail_body {h₀ : Heap} {L C : Addr} {cd : Value} {m : Str → Option Value} {pre base : List (Addr × Obj)} {items : Array Value} {n d : Nat} {td : Tok} {Q : Flow → Shared → Prop} (R : Rm 3 A) (W : Wd w h₀) (F : Fr h₀ L s.heap m) (N : News h₀ L s.heap (pre ++ (C, PySem.W.listOf items n) :: base)) (hn1 : ∀ p ∈ pre, p.1 ≠ C) (hn2 : ∀ p ∈ base, p.1 ≠ C)
    (md : m (Str.ofString "draw") = some (.int d td)) (hd : d < 2 ^ 40) (mC : m (Str.ofString "counts") = some (.ref C)) (hz : items.size ≤ 100000)
    (hQ : ∀ h' tk m' (x : Nat) k, Fr h₀ L h' m' → News h₀ L h' (pre ++ (C, PySem.W.listOf (items.push (.int x k)) (n + 1)) :: base) → x ≤ 2 → m' (Str.ofString "counts") = some (.ref C) → m' (Str.ofString "draws") = m (Str.ofString "draws") → Q .next { s with heap := h', toks := tk }) :
    wpAny (model PG w) A (execs mailBody (lenv L cd)) Q (fun _ _ => False) s := by
  obtain ⟨ps, hps, hj, hpl, hb1, hb2⟩ := mail_facts (i := d % 3) (j := d / 3 % 3) (l := d / 9 % 26) (by omega) (by omega) (by omega)
  conv in mailBody => whnf
  walk_at "mL"
  refine c_mail R.tail.tail (W.keeps F.keep) hd ?_
  rintro x u s₁ ⟨h₁, tk₁, rfl, k₁⟩ hx
  have hxe : x.cps = (mailOf (d % 3) (d / 3 % 3) (97 + d / 9 % 26)).toArray := by rw [← hx]
  have hxl : x.cps.size = 4 := by rw [hxe]; rfl
  have F₁ : Fr h₀ L h₁ m := Fr.after F k₁
  have N₁ := News.keepsAll N k₁
  walk_at "mL"
  rename_i h₂ F₂ N₂
  refine c_fix R.tail.tail (W.keeps F₂.keep) (by omega) (by rw [hxe]; exact hps) hpl ?_
  rintro y v s₂ ⟨h₃, tk₃, rfl, k₃⟩ hy
  have F₃ := Fr.after F₂ k₃
  have N₃ := News.keepsAll N₂ k₃
  rw [hxe, hj] at hy
  have hyl : y.cps.size = (mendedOf (mailOf (d % 3) (d / 3 % 3) (97 + d / 9 % 26))).length := by rw [← Array.length_toList, hy]
  walk_at "mL"
  rename_i h₄ F₄ N₄
  refine c_mended R.tail.tail (W.keeps F₄.keep) (by omega) ?_
  rintro z v2 s₃ ⟨h₅, tk₅, rfl, k₅⟩ hzz
  have F₅ := Fr.after F₄ k₅
  have N₅ := News.keepsAll N₄ k₅
  obtain rfl : z = y := str_of_list (by rw [hzz, hy, hx])
  walk_at "mL"
  · rename_i hbad
    exact absurd hbad (by simp)
  · clear k₁ k₃ k₅ hzz
    have hlen1 : z.cps.size ≤ 1000 := by omega
    have hlen2 : x.cps.size ≤ 1000 := by omega
    obtain ⟨e, he, he2⟩ : ∃ e : Nat, ((z.length : Int) - (x.length : Int)) = (e : Int) ∧ e ≤ 2 := ⟨z.cps.size - 4, by show ((z.cps.size : Int) - (x.cps.size : Int)) = _; omega, by omega⟩
    walk_at "mL"
    refine len_str (show ¬ ((z.cps.size : Int) ≥ 2 ^ 63) by omega) ?_
    walk_at "mL"
    refine len_str (show ¬ ((x.cps.size : Int) ≥ 2 ^ 63) by omega) ?_
    walk_at "mL"
    rw [he]
    rename_i N5 _
    refine app_list F₅ N5 hn1 hn2 hz ?_
    intro h₆ F₆ N₆
    walk_at "mL"
    exact hQ h₆ _ _ e _ F₆ N₆ he2 (by with_unfolding_all exact mC) rfl

end
end Mine

end

section
open PySem PySem.W PySem.Calls PyProof.Rows
set_option Elab.async false
set_option maxRecDepth 100000
set_option maxHeartbeats 400000
namespace Mine
theorem fresh_L17 : True := by
  w_top off
  trivial
local macro_rules | `(tactic| walk_at "none of these") => `(tactic| skip)
local macro_rules | `(tactic| walk_at "eval Name") => `(tactic| first
  | (with_unfolding_all refine nmL (by rfl) (by rfl) (by decide) (by first | with_reducible assumption | exact Fr.ns (by with_reducible assumption)) (by rfl) (by first | rfl | assumption) ?_)
  | (with_unfolding_all refine nmC (by rfl) (by rfl) (by decide) (by rfl) (by first | with_reducible assumption | assumption) ?_)
  | (with_unfolding_all refine nmG (by rfl) (by rfl) (by rfl) (by decide) (by rfl) (by first | with_reducible assumption | exact Wd.keeps (by with_reducible assumption) (Fr.keep (by with_reducible assumption))) ?_)
  | (with_unfolding_all refine nmB (by rfl) (by rfl) (by boot_by_name) (by rfl) (by rfl) (by decide) (by decide) (by rfl) (by first | with_reducible assumption | exact Wd.keeps (by with_reducible assumption) (Fr.keep (by with_reducible assumption))) ?_))
local macro_rules | `(tactic| walk_at "loadName") => `(tactic| (with_unfolding_all refine nmLd (by rfl) (by rfl) (by first | with_reducible assumption | exact Fr.ns (by with_reducible assumption)) (by rfl) (by first | rfl | assumption) ?_))
local macro_rules | `(tactic| walk_at "callWith ref") => `(tactic| (with_unfolding_all refine callF (by first | with_reducible assumption | exact Wd.keeps (by with_reducible assumption) (Fr.keep (by with_reducible assumption))) (by rfl) ?_ (by rfl) (by rfl)))
local macro_rules | `(tactic| walk_at "And") => `(tactic| ((with_reducible show Frag.In _ _ ∧ _); refine ⟨by first | exact (Wd.X (by with_reducible assumption)) | exact Wd.X (Wd.keeps (by with_reducible assumption) (Fr.keep (by with_reducible assumption))), ?_⟩; try dsimp only [List.nil_append, List.cons_append]))
local macro_rules | `(tactic| walk_at "mW") => `(tactic| repeat ((fail_if_success (with_reducible show wpAny _ _ (exec (Stmt.For _ _ _ _ _) _) _ _ _)); (fail_if_success (with_reducible show wpAny _ _ (execs (Stmt.Assign _ (Expr.List [] _) _ :: Stmt.For _ _ _ _ _ :: _) _) _ _ _)); (fail_if_success (with_reducible show wpAny _ _ (subscriptTail _ _ (Value.ref _) (Value.int _ _)) _ _ _)); (fail_if_success (with_reducible show wpAny _ _ (subscriptTail _ _ (Value.bytes _ _) (Value.int _ _)) _ _ _)); (fail_if_success (with_reducible show wpAny _ _ (setItem _ _ _) _ _ _)); (fail_if_success (with_reducible show wpAny _ _ (call (Value.type "bytes") _ _) _ _ _)); (fail_if_success (with_reducible show wpAny _ _ (call (Value.builtin "list.append") _ _) _ _ _)); (fail_if_success (with_reducible show Exists _)); (fail_if_success (with_reducible show wpAny _ _ (eval (Expr.ListComp _ _ _ _) _) _ _ _)); (fail_if_success (with_reducible show wpAny _ _ (eval (Expr.DictComp _ _ _ _ _) _) _ _ _)); (fail_if_success (with_reducible show wpAny _ _ (binaryOp _ (Value.ref _) (Value.ref _)) _ _ _)); walk1))
local macro_rules | `(tactic| walk_at "binaryOp Mult int int") => `(tactic| with_reducible refine mul_int ?_ (by with_reducible assumption))
local macro_rules | `(tactic| walk_at "binaryOp Pow int int") => `(tactic| with_reducible refine pow_int_small (by with_reducible assumption) (by with_reducible assumption) (by with_reducible assumption) ?_)

section
variable {w : World} {A : Around} {E : Value → Shared → Prop} {s : Shared}

local macro_rules | `(tactic| walk_at "eval Name") => `(tactic| first
  | (with_unfolding_all refine nmL (by rfl) (by rfl) (by decide) (by first | with_reducible assumption | exact Fr.ns (by with_reducible assumption)) (by rfl) (by first | with_reducible assumption | rfl | assumption) ?_)
  | (with_unfolding_all refine nmC (by rfl) (by rfl) (by decide) (by rfl) (by first | with_reducible assumption | assumption) ?_)
  | (with_unfolding_all refine nmG (by rfl) (by rfl) (by rfl) (by decide) (by rfl) (by first | with_reducible assumption | exact Wd.keeps (by with_reducible assumption) (Fr.keep (by with_reducible assumption))) ?_)
  | (with_unfolding_all refine nmB (by rfl) (by rfl) (by boot_by_name) (by rfl) (by rfl) (by decide) (by decide) (by rfl) (by first | with_reducible assumption | exact Wd.keeps (by with_reducible assumption) (Fr.keep (by with_reducible assumption))) ?_))
local macro_rules | `(tactic| walk_at "mL") => `(tactic| repeat ((fail_if_success (with_reducible show wpAny _ _ (execs (Stmt.For _ _ _ _ _ :: _) _) _ _ _)); (fail_if_success (with_reducible show wpAny _ _ (exec (Stmt.For _ _ _ _ _) _) _ _ _)); (fail_if_success (with_reducible show wpAny _ _ (execs (Stmt.Assign _ (Expr.List [] _) _ :: Stmt.For _ _ _ _ _ :: _) _) _ _ _)); (fail_if_success (with_reducible show wpAny _ _ (subscriptTail _ _ (Value.ref _) (Value.int _ _)) _ _ _)); (fail_if_success (with_reducible show wpAny _ _ (subscriptTail _ _ (Value.bytes _ _) (Value.int _ _)) _ _ _)); (fail_if_success (with_reducible show wpAny _ _ (setItem _ _ _) _ _ _)); (fail_if_success (with_reducible show wpAny _ _ (call (Value.type "bytes") _ _) _ _ _)); (fail_if_success (with_reducible show wpAny _ _ (call (Value.builtin "list.append") _ _) _ _ _)); (fail_if_success (with_reducible show Exists _)); (fail_if_success (with_reducible show wpAny _ _ (eval (Expr.ListComp _ _ _ _) _) _ _ _)); (fail_if_success (with_reducible show wpAny _ _ (eval (Expr.DictComp _ _ _ _ _) _) _ _ _)); (fail_if_success (with_reducible show wpAny _ _ (binaryOp _ (Value.ref _) (Value.ref _)) _ _ _)); walk1))
local macro_rules | `(tactic| walk_at "mE") => `(tactic| repeat ((fail_if_success (with_reducible show wpAny _ _ (execs (_ :: _) _) _ _ _)); (fail_if_success (with_reducible show wpAny _ _ (exec (Stmt.For _ _ _ _ _) _) _ _ _)); (fail_if_success (with_reducible show wpAny _ _ (execs (Stmt.Assign _ (Expr.List [] _) _ :: Stmt.For _ _ _ _ _ :: _) _) _ _ _)); (fail_if_success (with_reducible show wpAny _ _ (subscriptTail _ _ (Value.ref _) (Value.int _ _)) _ _ _)); (fail_if_success (with_reducible show wpAny _ _ (subscriptTail _ _ (Value.bytes _ _) (Value.int _ _)) _ _ _)); (fail_if_success (with_reducible show wpAny _ _ (setItem _ _ _) _ _ _)); (fail_if_success (with_reducible show wpAny _ _ (call (Value.type "bytes") _ _) _ _ _)); (fail_if_success (with_reducible show wpAny _ _ (call (Value.builtin "list.append") _ _) _ _ _)); (fail_if_success (with_reducible show Exists _)); (fail_if_success (with_reducible show wpAny _ _ (eval (Expr.ListComp _ _ _ _) _) _ _ _)); (fail_if_success (with_reducible show wpAny _ _ (eval (Expr.DictComp _ _ _ _ _) _) _ _ _)); (fail_if_success (with_reducible show wpAny _ _ (binaryOp _ (Value.ref _) (Value.ref _)) _ _ _)); walk1))

def cntV (l : List (Nat × Tok)) : Array Value := (l.map fun p => Value.int p.1 p.2).toArray
theorem cntV_push (l : List (Nat × Tok)) (x : Nat) (k : Tok) : (cntV l).push (.int x k) = cntV (l ++ [(x, k)]) := by simp [cntV]
theorem law_1_turns {h₀ : Heap} {L C S Dr : Addr} {cd : Value} {m : Str → Option Value} {d0 d1 d2 d3 : Nat} {t0 t1 t2 t3 : Tok} {nd ns nc : Nat} {px : Pos} {its : Array Value} {Q : Flow → Shared → Prop} (R : Rm 3 A) (W : Wd w h₀) (F : Fr h₀ L s.heap m)
    (N : News h₀ L s.heap [(S, PySem.W.listOf its ns), (C, PySem.W.listOf #[] nc), (Dr, PySem.W.listOf #[.int d0 t0, .int d1 t1, .int d2 t2, .int d3 t3] nd)]) (hits : its = #[.int d0 t0, .int d1 t1, .int d2 t2])
    (hne : S ≠ C ∧ Dr ≠ C) (mD : m (Str.ofString "draws") = some (.ref Dr)) (mC : m (Str.ofString "counts") = some (.ref C)) (hd0 : d0 < 2 ^ 40) (hd1 : d1 < 2 ^ 40) (hd2 : d2 < 2 ^ 40)
    (hQ : ∀ h' tk m' (a b c : Nat) k1 k2 k3 n' news', Fr h₀ L h' m' → News h₀ L h' news' → (C, PySem.W.listOf #[.int a k1, .int b k2, .int c k3] n') ∈ news' → (Dr, PySem.W.listOf #[.int d0 t0, .int d1 t1, .int d2 t2, .int d3 t3] nd) ∈ news' → a ≤ 2 → b ≤ 2 → c ≤ 2 → m' (Str.ofString "counts") = some (.ref C) → m' (Str.ofString "draws") = some (.ref Dr) → Q .next { s with heap := h', toks := tk }) :
    wpAny (model PG w) A (pyIter (.ref S)) (fun it s₂ => TurnsAt PG w A h₀ (lenv L cd) (.Name (Str.ofString "draw") px) mailBody Q (fun _ _ => False) it s₂) (fun _ _ => False) s := by
  subst hits
  have NS := N _ (.head _)
  generalize hB : [(S, PySem.W.listOf #[.int d0 t0, .int d1 t1, .int d2 t2] ns), (Dr, PySem.W.listOf #[.int d0 t0, .int d1 t1, .int d2 t2, .int d3 t3] nd)] = base
  have hDB : (Dr, PySem.W.listOf #[.int d0 t0, .int d1 t1, .int d2 t2, .int d3 t3] nd) ∈ base := by rw [← hB]; exact .tail _ (.head _)
  have hneB : ∀ p ∈ base, p.1 ≠ C := by
    rw [← hB]
    intro p hp
    rcases List.mem_cons.mp hp with rfl | hp
    · exact hne.1
    · rw [List.mem_singleton.mp hp]; exact hne.2
  have N' : News h₀ L s.heap ((C, PySem.W.listOf #[] nc) :: base) := by
    rw [← hB]
    intro p hp
    refine N p ?_
    simp only [List.mem_cons, List.not_mem_nil, or_false] at hp ⊢
    rcases hp with h | h | h <;> simp [h]
  clear N hB
  refine list_turns R.hh ⟨_, NS.1, rfl, _, rfl⟩ NS.2.1 F N' rfl rfl
    (fun i m' news' => ∃ (l : List (Nat × Tok)) (n : Nat), news' = (C, PySem.W.listOf (cntV l) n) :: base ∧ l.length = i ∧ (∀ p ∈ l, p.1 ≤ 2) ∧ m' (Str.ofString "counts") = some (.ref C) ∧ m' (Str.ofString "draws") = some (.ref Dr)) ?_ ?_ ?_
  · exact ⟨[], nc, rfl, rfl, (fun p hp => nomatch hp), mC, mD⟩
  · rintro i v m₁ news₁ h₁ tk₁ own hv ⟨l, n, rfl, hl, hle, mC₁, mD₁⟩ hap F₁ N₁
    have hi : i < 3 := (Array.getElem?_eq_some_iff.mp hv).1
    obtain ⟨d, t, rfl, hd⟩ : ∃ (d : Nat) (t : Tok), v = .int d t ∧ d < 2 ^ 40 := by
      have h3 : i = 0 ∨ i = 1 ∨ i = 2 := by omega
      rcases h3 with rfl | rfl | rfl
      · exact ⟨d0, t0, (Option.some.inj hv).symm, hd0⟩
      · exact ⟨d1, t1, (Option.some.inj hv).symm, hd1⟩
      · exact ⟨d2, t2, (Option.some.inj hv).symm, hd2⟩
    have hown : ∀ p ∈ own, p.1 ≠ C := by
      intro p hp
      rcases hap p hp with e | e
      · rw [e]; exact hne.1
      · exact e _ (.head _)
    have hz : (cntV l).size ≤ 100000 := by unfold cntV; rw [List.size_toArray, List.length_map]; omega
    refine mail_body (s := { s with heap := h₁, toks := tk₁ }) R W F₁ N₁ hown hneB rfl hd (by with_unfolding_all exact mC₁) hz ?_
    intro h₂ tk₂ m₂ x k F₂ N₂ hx mC₂ mD₂
    rw [cntV_push] at N₂
    refine ⟨h₂, tk₂, m₂, (C, PySem.W.listOf (cntV (l ++ [(x, k)])) (n + 1)) :: base, rfl, F₂, N₂, fun p hp => .inl ?_, l ++ [(x, k)], n + 1, rfl, by rw [List.length_append, hl]; rfl, ?_, mC₂, mD₂.trans mD₁⟩
    · rcases List.mem_cons.mp hp with rfl | hp
      · exact .head _
      · exact .tail _ (List.mem_map_of_mem hp)
    · intro p hp
      rcases List.mem_append.mp hp with hp | hp
      · exact hle p hp
      · rw [List.mem_singleton.mp hp]; exact hx
  · rintro h₁ tk₁ m₁ news₁ F₁ N₁ ⟨l, n, rfl, hl, hle, mC₁, mD₁⟩
    match l, hl, hle, N₁ with
    | [(a, k1), (b, k2), (c, k3)], _, hle, N₁ => exact hQ h₁ tk₁ m₁ a b c k1 k2 k3 n _ F₁ N₁ (.head _) (.tail _ hDB) (hle (a, k1) (by simp)) (hle (b, k2) (by simp)) (hle (c, k3) (by simp)) mC₁ mD₁
theorem law_1 {h₀ : Heap} {L Dr : Addr} {cd : Value} {m : Str → Option Value} {d0 d1 d2 d3 : Nat} {t0 t1 t2 t3 : Tok} {nd : Nat} {Q : Flow → Shared → Prop} (R : Rm 3 A) (hgd : A.guards = some []) (W : Wd w h₀) (F : Fr h₀ L s.heap m) (N : News h₀ L s.heap [(Dr, PySem.W.listOf #[.int d0 t0, .int d1 t1, .int d2 t2, .int d3 t3] nd)])
    (mD : m (Str.ofString "draws") = some (.ref Dr)) (hd0 : d0 < 2 ^ 40) (hd1 : d1 < 2 ^ 40) (hd2 : d2 < 2 ^ 40) (hd3 : d3 < 2 ^ 40)
    (hQ : ∀ h' tk, (∀ b o, h₀.get? b = some o → h'.get? b = some o) → Q (.ret (.bool true)) { s with heap := h', toks := tk }) :
    wpK (model PG w) A (execs (lawBody.drop 1) (lenv L cd)) Q (fun _ _ => False) s := by
  have e1 : ∃ st st', lawBody.drop 1 = st :: st' :: lawBody.drop 3 := ⟨_, _, rfl⟩
  have hDlt : Dr < s.heap.objs.size := Heap.lt_size (N _ (.head _)).1
  have hpick : slicePick #[.int d0 t0, .int d1 t1, .int d2 t2, .int d3 t3] none (some 3) none = #[Value.int d0 t0, .int d1 t1, .int d2 t2] := by rfl
  conv in List.drop 1 _ => whnf
  refine wpK_execs_cons (wpK_of ?_)
  walk_at "mL"
  refine wpK_execs_cons (wpK_of ?_)
  rename_i h₁ F₁ N₁
  have hCS : s.heap.objs.size < h₁.objs.size := Heap.lt_size (N₁ _ (.head _)).1
  refine For_turns F₁ ?_ (by intro _; rfl)
  walk_at "mE"
  rename_i h₂ F₂ N₂
  dsimp only at N₂ ⊢
  refine law_1_turns (s := { s with heap := h₂, toks := _ }) R W F₂ N₂ hpick ⟨?_, ?_⟩ (by with_unfolding_all exact mD) rfl hd0 hd1 hd2 ?_
  · exact Ne.symm (Nat.ne_of_lt (Nat.lt_succ_of_lt hCS))
  · exact Nat.ne_of_lt hDlt
  · intro h' tk m' a b c k1 k2 k3 n' news' F' N' hC' hD' ha hb hc mC' mD'
    exact law_3 (s := { s with heap := h', toks := tk }) R hgd W F' N' mC' hC' mD' hD' hd3 ha hb hc hQ

end
end Mine

end

section
open PySem PySem.W PySem.Calls PyProof.Rows
set_option Elab.async false
set_option maxRecDepth 100000
set_option maxHeartbeats 400000
namespace Mine
theorem fresh_L18 : True := by
  w_top off
  trivial
local macro_rules | `(tactic| walk_at "eval Name") => `(tactic| first
  | (with_unfolding_all refine nmL (by rfl) (by rfl) (by decide) (by first | with_reducible assumption | exact Fr.ns (by with_reducible assumption)) (by rfl) (by first | rfl | assumption) ?_)
  | (with_unfolding_all refine nmC (by rfl) (by rfl) (by decide) (by rfl) (by first | with_reducible assumption | assumption) ?_)
  | (with_unfolding_all refine nmG (by rfl) (by rfl) (by rfl) (by decide) (by rfl) (by first | with_reducible assumption | exact Wd.keeps (by with_reducible assumption) (Fr.keep (by with_reducible assumption))) ?_)
  | (with_unfolding_all refine nmB (by rfl) (by rfl) (by boot_by_name) (by rfl) (by rfl) (by decide) (by decide) (by rfl) (by first | with_reducible assumption | exact Wd.keeps (by with_reducible assumption) (Fr.keep (by with_reducible assumption))) ?_))
local macro_rules | `(tactic| walk_at "loadName") => `(tactic| (with_unfolding_all refine nmLd (by rfl) (by rfl) (by first | with_reducible assumption | exact Fr.ns (by with_reducible assumption)) (by rfl) (by first | rfl | assumption) ?_))
local macro_rules | `(tactic| walk_at "callWith ref") => `(tactic| (with_unfolding_all refine callF (by first | with_reducible assumption | exact Wd.keeps (by with_reducible assumption) (Fr.keep (by with_reducible assumption))) (by rfl) ?_ (by rfl) (by rfl)))
local macro_rules | `(tactic| walk_at "And") => `(tactic| ((with_reducible show Frag.In _ _ ∧ _); refine ⟨by first | exact (Wd.X (by with_reducible assumption)) | exact Wd.X (Wd.keeps (by with_reducible assumption) (Fr.keep (by with_reducible assumption))), ?_⟩; try dsimp only [List.nil_append, List.cons_append]))
local macro_rules | `(tactic| walk_at "mW") => `(tactic| repeat ((fail_if_success (with_reducible show wpAny _ _ (exec (Stmt.For _ _ _ _ _) _) _ _ _)); (fail_if_success (with_reducible show wpAny _ _ (execs (Stmt.Assign _ (Expr.List [] _) _ :: Stmt.For _ _ _ _ _ :: _) _) _ _ _)); (fail_if_success (with_reducible show wpAny _ _ (subscriptTail _ _ (Value.ref _) (Value.int _ _)) _ _ _)); (fail_if_success (with_reducible show wpAny _ _ (subscriptTail _ _ (Value.bytes _ _) (Value.int _ _)) _ _ _)); (fail_if_success (with_reducible show wpAny _ _ (setItem _ _ _) _ _ _)); (fail_if_success (with_reducible show wpAny _ _ (call (Value.type "bytes") _ _) _ _ _)); (fail_if_success (with_reducible show wpAny _ _ (call (Value.builtin "list.append") _ _) _ _ _)); (fail_if_success (with_reducible show Exists _)); (fail_if_success (with_reducible show wpAny _ _ (eval (Expr.ListComp _ _ _ _) _) _ _ _)); (fail_if_success (with_reducible show wpAny _ _ (eval (Expr.DictComp _ _ _ _ _) _) _ _ _)); (fail_if_success (with_reducible show wpAny _ _ (binaryOp _ (Value.ref _) (Value.ref _)) _ _ _)); walk1))
local macro_rules | `(tactic| walk_at "binaryOp Mult int int") => `(tactic| with_reducible refine mul_int ?_ (by with_reducible assumption))
local macro_rules | `(tactic| walk_at "binaryOp Pow int int") => `(tactic| with_reducible refine pow_int_small (by with_reducible assumption) (by with_reducible assumption) (by with_reducible assumption) ?_)

section
variable {w : World} {A : Around} {E : Value → Shared → Prop} {s : Shared}

local macro_rules | `(tactic| walk_at "eval Name") => `(tactic| first
  | (with_unfolding_all refine nmL (by rfl) (by rfl) (by decide) (by first | with_reducible assumption | exact Fr.ns (by with_reducible assumption)) (by rfl) (by first | with_reducible assumption | rfl | assumption) ?_)
  | (with_unfolding_all refine nmC (by rfl) (by rfl) (by decide) (by rfl) (by first | with_reducible assumption | assumption) ?_)
  | (with_unfolding_all refine nmG (by rfl) (by rfl) (by rfl) (by decide) (by rfl) (by first | with_reducible assumption | exact Wd.keeps (by with_reducible assumption) (Fr.keep (by with_reducible assumption))) ?_)
  | (with_unfolding_all refine nmB (by rfl) (by rfl) (by boot_by_name) (by rfl) (by rfl) (by decide) (by decide) (by rfl) (by first | with_reducible assumption | exact Wd.keeps (by with_reducible assumption) (Fr.keep (by with_reducible assumption))) ?_))
local macro_rules | `(tactic| walk_at "mL") => `(tactic| repeat ((fail_if_success (with_reducible show wpAny _ _ (execs (Stmt.For _ _ _ _ _ :: _) _) _ _ _)); (fail_if_success (with_reducible show wpAny _ _ (exec (Stmt.For _ _ _ _ _) _) _ _ _)); (fail_if_success (with_reducible show wpAny _ _ (execs (Stmt.Assign _ (Expr.List [] _) _ :: Stmt.For _ _ _ _ _ :: _) _) _ _ _)); (fail_if_success (with_reducible show wpAny _ _ (subscriptTail _ _ (Value.ref _) (Value.int _ _)) _ _ _)); (fail_if_success (with_reducible show wpAny _ _ (subscriptTail _ _ (Value.bytes _ _) (Value.int _ _)) _ _ _)); (fail_if_success (with_reducible show wpAny _ _ (setItem _ _ _) _ _ _)); (fail_if_success (with_reducible show wpAny _ _ (call (Value.type "bytes") _ _) _ _ _)); (fail_if_success (with_reducible show wpAny _ _ (call (Value.builtin "list.append") _ _) _ _ _)); (fail_if_success (with_reducible show Exists _)); (fail_if_success (with_reducible show wpAny _ _ (eval (Expr.ListComp _ _ _ _) _) _ _ _)); (fail_if_success (with_reducible show wpAny _ _ (eval (Expr.DictComp _ _ _ _ _) _) _ _ _)); (fail_if_success (with_reducible show wpAny _ _ (binaryOp _ (Value.ref _) (Value.ref _)) _ _ _)); walk1))
local macro_rules | `(tactic| walk_at "mE") => `(tactic| repeat ((fail_if_success (with_reducible show wpAny _ _ (execs (_ :: _) _) _ _ _)); (fail_if_success (with_reducible show wpAny _ _ (exec (Stmt.For _ _ _ _ _) _) _ _ _)); (fail_if_success (with_reducible show wpAny _ _ (execs (Stmt.Assign _ (Expr.List [] _) _ :: Stmt.For _ _ _ _ _ :: _) _) _ _ _)); (fail_if_success (with_reducible show wpAny _ _ (subscriptTail _ _ (Value.ref _) (Value.int _ _)) _ _ _)); (fail_if_success (with_reducible show wpAny _ _ (subscriptTail _ _ (Value.bytes _ _) (Value.int _ _)) _ _ _)); (fail_if_success (with_reducible show wpAny _ _ (setItem _ _ _) _ _ _)); (fail_if_success (with_reducible show wpAny _ _ (call (Value.type "bytes") _ _) _ _ _)); (fail_if_success (with_reducible show wpAny _ _ (call (Value.builtin "list.append") _ _) _ _ _)); (fail_if_success (with_reducible show Exists _)); (fail_if_success (with_reducible show wpAny _ _ (eval (Expr.ListComp _ _ _ _) _) _ _ _)); (fail_if_success (with_reducible show wpAny _ _ (eval (Expr.DictComp _ _ _ _ _) _) _ _ _)); (fail_if_success (with_reducible show wpAny _ _ (binaryOp _ (Value.ref _) (Value.ref _)) _ _ _)); walk1))

theorem law_0 {h₀ : Heap} {L sc : Addr} {cd : Value} {m : Str → Option Value} {vs : List Value} {ns : List Int} {Q : Flow → Shared → Prop} (R : Rm 3 A) (hgd : A.guards = some []) (W : Wd w h₀) (F : Fr h₀ L s.heap m) (N : News h₀ L s.heap [])
    (ms : m (Str.ofString "script") = some (.ref sc)) (hl : h₀.IsList sc vs.toArray) (hi : IntsAre vs ns) (hn : ns.length ≤ 63)
    (hQ : ∀ h' tk, (∀ b o, h₀.get? b = some o → h'.get? b = some o) → Q (.ret (.bool true)) { s with heap := h', toks := tk }) :
    wpK (model PG w) A (execs lawBody (lenv L cd)) Q (fun _ _ => False) s := by
  have e0 : ∃ st, lawBody = st :: lawBody.drop 1 := ⟨_, rfl⟩
  have hl' : s.heap.IsList sc vs.toArray := hl.at fun o e => F.keep _ _ e
  conv in lawBody => whnf
  refine wpK_execs_cons (wpK_of ?_)
  walk_at "mL"
  refine c_draws R.tail.tail (W.keeps F.keep) hl' hi hn ?_
  rintro r s₁ d0 d1 d2 d3 t0 t1 t2 t3 n ⟨h₁, tk₁, rfl, k₁⟩ hrn hr b0 b1 b2 b3
  have F₁ := Fr.after F k₁
  have hLo : ∃ o, s.heap.get? L = some o := let ⟨o, _, _, e, _⟩ := F.ns; ⟨o, e⟩
  obtain ⟨oL, hLo⟩ := hLo
  have N₁ : News h₀ L h₁ [(r, PySem.W.listOf #[.int d0 t0, .int d1 t1, .int d2 t2, .int d3 t3] n)] := fun p hp => by
    rw [List.mem_singleton.mp hp]
    refine ⟨hr, fun e => ?_, ?_⟩
    · have e : r = L := e
      rw [e, hLo] at hrn; cases hrn
    · show h₀.get? r = none
      cases e : h₀.get? r with
      | none => rfl
      | some o => rw [F.keep _ _ e] at hrn; cases hrn
  refine wpAny_storeName_local rfl F₁.ns (fun h₂ hn₂ hs₂ => ?_)
  have F₂ := F₁.set hn₂ hs₂
  have N₂ := N₁.set hs₂
  exact law_1 (s := { s with heap := h₂, toks := _ }) R hgd W F₂ N₂ rfl b0 b1 b2 b3 hQ
theorem c_law {sc : Addr} {vs : List Value} {ns : List Int} {Q : Value → Shared → Prop} {E : Value → Shared → Prop} (R : Rm 4 A) (hgd : A.guards = some []) (W : Wd w s.heap) (hl : s.heap.IsList sc vs.toArray) (hi : IntsAre vs ns) (hn : ns.length ≤ 63)
    (hQ : ∀ h' tk, (∀ b o, s.heap.get? b = some o → h'.get? b = some o) → Q (.bool true) { s with heap := h', toks := tk }) : wpK (model PG w) A (call (.ref 128) [.ref sc] []) Q E s := by
  refine callK_def [(Str.ofString "script", .ref sc)] W rfl (by rfl) R.room (by rfl) (locs rfl) (by decide) (fun h₁ tk F W => ?_) rfl rfl rfl
  exact law_0 (s := { s with heap := h₁, toks := tk }) R.deeper hgd W F News.nil rfl hl hi hn hQ
set_option maxHeartbeats 4000000 in
theorem all_holds : PySem.Challenge.rw_xp0001_01.Holds := hd (by
  intro w s₀ s₁ mg mb G Y fa o pm cd doc dV kV ho hd' hcd hD hmg hg args vals as hpre hlay hrd hwl hlo
  have KX := kIn_of Y
  refine Ground.open G ?_
  intro T B D TE TW
  wrow_args hpre hlay hrd hwl hlo
  have TR := topRead_of T
  have W : Wd w s₁.heap := ⟨KX, mg, mb, TR⟩
  have hf : fa = 128 := by
    have e : nsIn (KK w) mainGlobals (Str.ofString "law") = some (some (.ref 128)) := by rfl
    have h1 := mg_of W.X TR.g e
    have h2 : some (Value.ref fa) = some (Value.ref 128) := hmg.symm.trans h1
    injection h2 with h2
    injection h2
  subst hf
  refine c_law ⟨rfl, by decide, by decide⟩ rfl W ‹_› ‹_› (by omega) ?_
  intro h' tk hk
  refine GoodW.toG ⟨.inl ⟨_, .bool true, [], rfl, fun _ => rfl, .bool true, by wrow_post, unshared_nil⟩, hk, rfl, hg⟩)

end
end Mine

end

theorem PySem.Challenge.cw_xp0001_01_holds : PySem.Challenge.rw_xp0001_01.Holds :=
  Mine.all_holds
