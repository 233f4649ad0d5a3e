import PyProof.Rows.All
import Wide.All
import OpenK.AllK
import Wide.FinOn
import Lean
import PySem.Challenge.RW_pg0018_01
set_option Elab.async false

section
open PySem PySem.W PyProof.Rows PySem.Calls
set_option maxRecDepth 100000
set_option maxHeartbeats 4000000
namespace Mine
open Sem (wp)

/-- no built-in that may hold a bytearray's memory -/
def calmC : Code → Bool
  | .builtin id _ => !(Builtin.Bytes.decodersThatHold.contains id) && !(["bytearray.__contains__", "bytearray.__mod__", "bytearray.__rmod__", "_struct.pack_into.held", "bytearray.find.held"].contains id)
  | _ => true
def Calm (Γ : Ctx) : Prop := calmC Γ.code = true ∧ ∀ q ∈ Γ.below, calmC q.1 = true
theorem Calm.enter {Γ : Ctx} (h : Calm Γ) {c : Code} (hc : calmC c = true) (hd : Option Value) (p : Pos) : Calm (Γ.enter c hd p) :=
  ⟨hc, fun q hq => by
    rcases List.mem_cons.mp (show q ∈ (Γ.code, p) :: Γ.below from hq) with rfl | hq
    · exact h.1
    · exact h.2 q hq⟩
theorem Calm.goto {Γ : Ctx} (h : Calm Γ) {c : Code} (hc : calmC c = true) : Calm (Γ.goto c) := ⟨hc, h.2⟩

def wpC {α : Type} (M : Model) (A : Around) (t : Sem α) (Q : α → Shared → Prop) (E : Value → Shared → Prop) (s : Shared) : Prop :=
  ∀ Γ p, Γ.In A → Calm Γ → wp M Γ t (fun a _ s' => Q a s') (fun e _ s' => E e s') p s
def codeC (M : Model) (A : Around) (c : Code) (R : Result → Shared → Prop) (s : Shared) : Prop :=
  ∀ Γ p, Γ.code = c → Γ.Below A → Calm Γ → wpCode M Γ R p s

section
variable {α β : Type} {M : Model} {A : Around} {E : Value → Shared → Prop} {s : Shared}
theorem wpC_of {t : Sem α} {Q : α → Shared → Prop} (h : wpAny M A t Q E s) : wpC M A t Q E s := fun Γ p hΓ _ => h Γ p hΓ
theorem codeC_of {c : Code} {R : Result → Shared → Prop} (h : codeAny M A c R s) : codeC M A c R s := fun Γ p hc hΓ _ => h Γ p hc hΓ
theorem wpC_mono {t : Sem α} {Q Q' : α → Shared → Prop} {E' : Value → Shared → Prop} (h : wpC M A t Q E s) (hQ : ∀ a s, Q a s → Q' a s) (hE : ∀ e s, E e s → E' e s) : wpC M A t Q' E' s :=
  fun Γ p hΓ hc => Sem.wp_mono M Γ t (fun a _ s => hQ a s) (fun e _ s => hE e s) p s (h Γ p hΓ hc)
theorem wpC_bind {m : Sem α} {f : α → Sem β} {Q : β → Shared → Prop} (h : wpC M A m (fun a s' => wpC M A (f a) Q E s') E s) : wpC M A (m >>= f) Q E s := fun Γ p hΓ hc => by
  rw [Sem.wp_bind']
  exact Sem.wp_mono M Γ m (fun a p' s' h' => h' Γ p' hΓ hc) (fun _ _ _ h' => h') p s (h Γ p hΓ hc)
theorem wpC_bindA {m : Sem α} {f : α → Sem β} {Q : β → Shared → Prop} (h : wpAny M A m (fun a s' => wpC M A (f a) Q E s') E s) : wpC M A (m >>= f) Q E s := wpC_bind (wpC_of h)
theorem wpC_onRaise {m : Sem α} {k : Value → Sem Unit} {Q : α → Shared → Prop}
    (h : wpC M A m Q (fun e s' => wpC M A (k e) (fun _ s'' => E e s'') E s') s) : wpC M A (m.onRaise k) Q E s := fun Γ p hΓ hc => by
  rw [Sem.wp_onRaise]
  exact Sem.wp_mono M Γ m (fun _ _ _ h' => h') (fun e p' s' h' => h' Γ p' hΓ hc) p s (h Γ p hΓ hc)
theorem wpC_keep {vs : List Value} {m : Sem α} {Q : α → Shared → Prop} (h : wpC M A m Q E s) : wpC M A (m.keep vs) Q E s := fun Γ p hΓ hc => by rw [Sem.wp_keep]; exact h Γ p hΓ hc
theorem wpC_holding {vs : List Value} {m : Sem α} {Q : α → Shared → Prop} (h : wpC M A m Q E s) : wpC M A (holding vs m) Q E s := fun Γ p hΓ hc => by rw [Sem.wp_holding]; exact h Γ p hΓ hc

theorem wpC_runValue {c : Code} {Q : Value → Shared → Prop} (hcalm : calmC c = true)
    (hc : codeC M A c (fun r s' => match r with | .ok (.ret v) => Q v s' | .ok _ => False | .error e => E e s') s) : wpC M A (runValue c) Q E s := fun Γ p hΓ hC => by
  rw [Sem.wp_runValue]
  exact hc _ p rfl (hΓ.enter c none p (by intro x; cases x)) (hC.enter hcalm none p)
theorem wpC_call {f : Value} {pos : List Value} {kw : List (Str × Value)} {Q : Value → Shared → Prop}
    (hc : codeC M A (.call f ⟨pos, kw⟩) (fun r s' => match r with | .ok (.ret v) => Q v s' | .ok _ => False | .error e => E e s') s) : wpC M A (call f pos kw) Q E s := wpC_runValue rfl hc

theorem codeC_mono {c : Code} {R R' : Result → Shared → Prop} (h : codeC M A c R s) (hR : ∀ r s, R r s → R' r s) : codeC M A c R' s :=
  fun Γ p hc hΓ hC => wpCode_mono hR (h Γ p hc hΓ hC)
theorem codeC_of_tree {c : Code} {R : Result → Shared → Prop}
    (h : wpC M (A.under c) (M.den c) (fun fin s' => match fin with | .done f => R (.ok f) s' | .again c' => c'.quiet = true ∧ calmC c' = true ∧ codeC M A c' R s')
      (fun e s' => R (.error e) s') s) : codeC M A c R s := fun Γ p hc hΓ hC => by
  rw [wpCode_iff_wp, hc]
  refine Sem.wp_mono M Γ _ (fun fin p' s' h' => ?_) (fun _ _ _ h' => h') p s (h Γ p (hc ▸ hΓ.in) hC)
  cases fin with
  | done f => exact h'
  | again c' => exact ⟨h'.1, h'.2.2 (Γ.goto c') p' rfl (hΓ.goto c') (hC.goto h'.2.1)⟩
end

section
variable {prog : Program} {w : World} {A : Around} {E : Value → Shared → Prop} {s : Shared} {R : Result → Shared → Prop} {env : Env}
theorem codeC_func {body : List Stmt}
    (h : wpC (model prog w) (A.deeper env) (execs body env) (fun f s' => R (.ok (.ret (match f with | .ret v => v | _ => .none))) s')
      (fun e s' => wpAny (model prog w) (A.deeper env) (leaving env e) (fun _ s'' => R (.error e) s'') (fun e' s'' => R (.error e') s'') s') s) :
    codeC (model prog w) A (.func body env) R s := by
  refine codeC_of_tree ?_
  show wpC _ (A.deeper env) (do point; match ← (execs body env).onRaise (leaving env) with | .ret v => ret v | _ => ret .none) _ _ s
  refine wpC_bindA (wpAny_point (wpC_bind (wpC_onRaise (wpC_mono h (fun f s' h' => ?_) fun _ _ h' => wpC_of h'))))
  cases f <;> exact wpC_of (wpAny_pure h')

theorem codeC_call_function {a : Addr} {args : Args} {o : Obj} {fd : FuncData} {body : List Stmt} (hroom : A.depth < recursionLimit)
    (ho : s.heap.get? a = some o)
    (hd' : o.data = .func fd) (hco : fd.scope.isCoroutine = false) (hgen : fd.scope.isGenerator = false) (hbody : fd.body = .stmts body) (hcd : s.heap.CodeRec fd.code fd.qualname)
    (h : wpAny (model prog w) A.in1 (bindArgs fd args) (fun binds s₁ =>
      wpAny (model prog w) A.in1 (newFunctionEnv fd.scope fd.globals fd.closure binds (fd.qualname ++ ".<locals>.") (some a) fd.code none fd.builtins)
        (fun env s₂ => s₂.heap.NoLimit ∧ codeC (model prog w) A (.func body env) R s₂) (fun e s' => R (.error e) s') s₁) (fun e s' => R (.error e) s') s) :
    codeC (model prog w) A (.call (.ref a) args) R s := by
  refine codeC_of_tree (wpC_of ?_)
  show wpAny _ A.in1 (callAny (.ref a) args) _ _ s
  simp only [callAny]
  refine wpAny_bind (wpAny_load ho ?_)
  obtain ⟨c, oc, vs, tq, hc, hoc, hdc, hq⟩ := hcd
  simp only [hd', callFunction, hco, hgen, hbody, hc]
  rw [hc] at h
  refine wpAny_bind (m := field (.ref c) 1) (wpAny_field hoc hdc hq (wpAny_bind (wpAny_pure ?_)))
  exact wpAny_bind (wpAny_mono h (fun binds s₁ h₁ => wpAny_bind (wpAny_mono h₁ (fun env s₂ h₂ => wpAny_bind (wpAny_enterFrame h₂.1 hroom
    (wpAny_pure (And.intro rfl ⟨rfl, h₂.2⟩)))) fun _ _ h' => h')) fun _ _ h' => h')

theorem wpC_execs_cons {st : Stmt} {rest : List Stmt} {Q : Flow → Shared → Prop}
    (h : wpC (model prog w) A (exec st env) (fun f s' => match f with | .next => wpC (model prog w) A (execs rest env) Q E s' | f => Q f s') E s) :
    wpC (model prog w) A (execs (st :: rest) env) Q E s := fun Γ p hΓ hC => by
  rw [execs_cons, Sem.wp_bind']
  refine Sem.wp_mono _ Γ _ (fun f p' s' h' => ?_) (fun _ _ _ h' => h') _ _ (h Γ p hΓ hC)
  cases f <;> first | exact h' Γ p' hΓ hC | exact h'
theorem wpC_Assign_Name {x : Str} {pos' pos : Pos} {value : PySem.Expr} {Q : Flow → Shared → Prop}
    (h : wpC (model prog w) A (eval value env) (fun v s₁ => wpAny (model prog w) A (storeName env x v) (fun _ => Q .next) E s₁) E s)
    (hs : swapsWith value (some (.Name x pos')) pos.line env = pure false := by rfl) :
    wpC (model prog w) A (exec (.Assign [.Name x pos'] value pos) env) Q E s := fun Γ p hΓ hC => by
  simp only [exec_Assign_Name env x pos' value pos hs, Sem.wp_bind', Sem.wp_cmd_standAt, Sem.wp_bindName, Sem.wp_pure']
  exact Sem.wp_mono _ Γ _ (fun v _ s₁ h₁ => h₁ Γ _ hΓ) (fun _ _ _ h' => h') _ _ (h Γ _ hΓ hC)

theorem wpC_Call {func : PySem.Expr} {args : List PySem.Expr} {pos : Pos} {Q : Value → Shared → Prop}
    (h : wpAny (model prog w) A (eval func env) (fun f s₁ => wpC (model prog w) A (callWith pos f [] (backTo pos (starEach args env)) []) Q E s₁) E s)
    (he : eval (.Call func args [] pos) env = (do callWith pos (← eval func env) [] (backTo pos (starEach args env)) (backToKw pos (keywordEach [] env))) := by rfl) :
    wpC (model prog w) A (eval (.Call func args [] pos) env) Q E s := by
  rw [he]; exact wpC_bindA h

theorem callWith_ofC {P : Heap → Prop} {f : Value} {pos : Pos} {first : List Value} {Q : Value → Shared → Prop} {args : List (Bool × Sem Value)} {keywords : List (Option Str × Sem Value)} (hplain : (args.any (·.1) || keywords.any (·.1.isNone)) = false)
    (hk : ∀ h, P h → ∃ k, (k = Keeper.frame ∨ k = Keeper.machine ∨ k = Keeper.boundFrame) ∧ Looks (model prog w) h (keeperOf f) k)
    (h : wpAny (model prog w) A (evalArgs f true args keywords) (fun a s₁ => P s₁.heap ∧ wpC (model prog w) A (call f (first ++ a.pos) a.kw) Q E s₁) E s) : wpC (model prog w) A (callWith pos f first args keywords) Q E s := by
  unfold callWith
  refine wpC_bindA (wpAny_holding (wpAny_mono h (fun a s₁ h₁ => wpC_bindA (wpAny_standAt ?_)) fun _ _ x => x))
  obtain ⟨k, hk', L⟩ := hk _ h₁.1
  simp only [hplain]
  refine wpC_bindA (L.here ?_)
  have tail : ∀ {t : Sem Value}, wpC (model prog w) A t Q E s₁ → wpC (model prog w) A (t >>= fun r => holding [r] point >>= fun _ => pure r) Q E s₁ :=
    fun ht => wpC_bind (wpC_mono ht (fun r s₂ hr => wpC_of (wpAny_bind (wpAny_holding (wpAny_point (wpAny_pure hr))))) fun _ _ x => x)
  have marked (mk : Value) : wpC (model prog w) A (callMarked mk f (first ++ a.pos) a.kw) Q E s₁ := by unfold callMarked; exact wpC_keep h₁.2
  rcases hk' with rfl | rfl | rfl <;> dsimp only <;> first | exact tail h₁.2 | (split <;> first | exact tail h₁.2 | exact tail (marked _))
theorem callWith_KC {K : Frag} {f : Value} {pos : Pos} {first : List Value} {Q : Value → Shared → Prop} {e : PySem.Expr} {rest : List PySem.Expr} (hk : keepIn K f = true)
    (h : wpAny (model prog w) A (spliced (backTo pos (starEach (e :: rest) env))) (fun vs s₁ => K.In s₁.heap ∧ wpC (model prog w) A (call f (first ++ vs)) Q E s₁) E s)
    (he : starEach (e :: rest) env = (false, eval e env) :: starEach rest env := by rfl) (hplain : (backTo pos (starEach rest env)).any (·.1) = false := by rfl) :
    wpC (model prog w) A (callWith pos f first (backTo pos (starEach (e :: rest) env)) []) Q E s := by
  rw [he] at h ⊢
  exact callWith_ofC (by show ((false || (backTo pos (starEach rest env)).any (·.1)) || false) = false; rw [hplain]; rfl) (keeps_K hk) (evalArgs_plain h)
end
end Mine
end

section
open PySem PySem.W PyProof.Rows PySem.Calls
set_option maxRecDepth 100000
set_option maxHeartbeats 8000000
namespace Mine
/-- the claim's own caller is calm -/
theorem caller_calm : Calm (⟨.builtin "claim.caller" {}, none, none, [], none⟩ : Ctx) := ⟨by decide +kernel, fun _ h => (nomatch h)⟩

abbrev WalkC (q : Program) (loose : List Str) (XP : (Str → Option Value) → Heap → Prop) (YP : World → Heap → Prop) (r : RowW) (d : DefRec) (kwd : List (Str × PySem.Expr)) : Prop :=
  ∀ (w : World) (s₀ s₁ : Shared) (mg mb : Str → Option Value), Ground q loose r.records XP w s₀ mg mb s₁.heap → YP w s₁.heap → ∀ (a : Addr) (o : Obj) (pm cd doc dV kV : Value), s₁.heap.get? a = some o →
    o.data = .func { docDef d.name d.params d.body d.scope pm cd doc with defaults := dV, kwdefaults := kV } → s₁.heap.CodeRec cd d.name → Dflts mg s₁.heap d.params kwd dV kV → mg d.name = some (.ref a) → s₁.gens = #[] →
    ∀ (args : List WData) (vals : List Value) (as : List Addr), r.claim.pre args = true → WData.layableAll args = true → ReadsAllW r.records (classAt s₀.heap) s₁.heap vals args as → WellAll w.params s₁.heap vals args → (∀ a ∈ as, (a == sysModules) = false) →
      wpC (model r.prog w) callerA (call (.ref a) vals) (fun v s' => GoodWG r.claim (classAt s₀.heap) (ExcName.means s₀.heap) args s₁ (.ok (.ret v)) s')
        (fun e s' => GoodWG r.claim (classAt s₀.heap) (ExcName.means s₀.heap) args s₁ (.error e) s') s₁

/-- a run of the caller's tree, from a walk under calm stacks alone -/
theorem runs_calm {prog : Program} {w : World} {name : Str} {vs : List Value} {f : Value} {mg : Str → Option Value} {s : Shared} {R : Result → Shared → Prop} (hz : s.asleep) (hg : s.heap.Ns mainGlobals mg) (hf : mg name = some f)
    (h : wpC (model prog w) callerA (call f vs) (fun v s' => R (.ok (.ret v)) s' ∧ leftWithCleanup s'.gens = false) (fun e s' => R (.error e) s' ∧ leftWithCleanup s'.gens = false) s) :
    ∃ n r s' s'', schedN (denote table) prog w n (.single s ⟨(do match ← nsGet mainNs name with
      | some f => do ret (← PySem.call f vs)
      | none => unsupported "claim.caller:no-such-global"), .builtin "claim.caller" {}, default, []⟩) = .halted (outcomeOf r) s'' ∧
      PySem.runN (denote table) prog w n s ⟨(do match ← nsGet mainNs name with
      | some f => do ret (← PySem.call f vs)
      | none => unsupported "claim.caller:no-such-global"), .builtin "claim.caller" {}, default, []⟩ = .halted (outcomeOf r) s'' ∧ s''.forget = s'.forget ∧ R r s' := by
  have T : wpC (model prog w) callerA (do match ← nsGet mainNs name with
      | some f => do ret (← PySem.call f vs)
      | none => unsupported "claim.caller:no-such-global" : Sem Fin) (fun fin s' => ∃ fl, fin = .done fl ∧ R (.ok fl) s' ∧ leftWithCleanup s'.gens = false) (fun e s' => R (.error e) s' ∧ leftWithCleanup s'.gens = false) s :=
    wpC_bindA (wpAny_nsGet hg (by rw [hf]; exact wpC_bind (wpC_mono h (fun v s' x => wpC_of (wpAny_pure ⟨_, rfl, x⟩)) fun _ _ x => x)))
  exact wp_halts_full (M := model prog w) (R := R) hz (Sem.wp_mono _ _ _ (fun fin _ s' ⟨fl, e, x⟩ => by subst e; exact x) (fun _ _ _ x => x) _ _ (T _ default caller_in caller_calm))

end Mine
/-- the head, its premise a walk under calm stacks: the command below finds it by its place -/
theorem Mine.Hd.PySem.W.holds_open {r : OpenRow} {q : Program} {loose : List Str} {Xt : Shared → Bool} {XP : (Str → Option Value) → Heap → Prop} {α : Type} {Yf : Shared → α} {Ya : World → α} {YP : World → Heap → Prop} {d : DefRec} {kwd : List (Str × PySem.Expr)} {N : Nat}
    (left : LeftO r.prog q loose Xt Yf Ya N) (hY : ∀ w s, Yf s = Ya w → YP w s.heap) (hYk : ∀ w h h', YP w h → (∀ b o, h.get? b = some o → h'.get? b = some o) → YP w h')
    (hX : ∀ s, Xt s = true → XP (s.heap.nsMap mainGlobals) s.heap) (hXk : ∀ mg h h', XP mg h → (∀ b o, h.get? b = some o → h'.get? b = some o) → XP mg h')
    (hdef : defOf q r.name = some (d, kwd)) (hp : r.prog.theDef r.name = some (d.params, d.body, d.scope)) (hk : kwWritten? d.params.kwonlyargs d.params.kw_defaults = some kwd) (hRf : ∀ s, Xt s = true → RecFacts r.records s.heap) (hwr : (!r.writes || r.records.isEmpty) = true)
    (k1 : r.wellSaid = true) (ok : (chainsOk q && opensWell r.prog && (frees r.toRowW && r.within.isEmpty)) = true) (hb : r.prog.bare) (hw : r.toRowW.promised)
    (walk : WalkC q loose XP YP r.toRowW d kwd) : r.Holds := by
  obtain ⟨ok1, ok2⟩ := Bool.and_eq_true_iff.mp ok
  obtain ⟨hch, hop⟩ := Bool.and_eq_true_iff.mp ok1
  obtain ⟨hfr, hwi⟩ := Bool.and_eq_true_iff.mp ok2
  obtain ⟨hsame, hu, ha, hap, hm⟩ := frees_parts hfr
  have beh := fun w => left.behind (XP := fun mg h => XP mg h ∧ RecFacts r.records h) (fun s hs => ⟨hX s hs, hRf s hs⟩) hch w
  refine ⟨k1, hw, ⟨hb, hop, by show r.makers.map _ = []; rw [hm]; rfl⟩, hw.witness, fun w => ⟨(beh w).1, fun s' hs' => ?_⟩⟩
  obtain ⟨s₀, hf, hg0, s, hT, hz, hgens, hg, G2, y⟩ := (beh w).2 s' hs'
  have G0 : Ground q loose [] XP w s (s.heap.nsMap mainGlobals) (s.heap.nsMap builtinsNs) s.heap := { G2 with X := G2.X.1 }
  have RF := G2.X.2
  have hT' := hT
  refine ⟨s₀, hf, hg0, s, hT, fun n hn => ?_, RF.1, RF.2.1, ?_⟩
  · obtain rfl : n = r.name := by split at hn <;> simp_all
    exact pinned_of_view hg G0 hdef hp hk
  have hge : s.gens = #[] := Array.eq_empty_of_size_eq_zero (beq_iff_eq.mp hgens)
  have G := RF.ground G0
  intro args hpre hlay ord hord
  obtain ⟨⟨vs, s₁⟩, hlaid⟩ := Option.isSome_iff_exists.mp (layAllW_isSome (P := w.params) (ord := ord) G.has args r.args s (pre_splitW hpre).1)
  have kp := layAllW_keeps _ _ _ hlaid
  have al := layAllW_rest _ _ _ hlaid
  obtain ⟨as, hrd, hin, hold⟩ := reads_layAllW hord _ _ _ hlaid hlay s₁.heap (fun _ _ e => e)
  have L : Laid r.records w s s₁ args vs as := ⟨⟨ord, hord, hlaid⟩, hrd, hin, hold, kp, al.1.trans hge, al.2.2.1⟩
  have G₁ := G.keeps hXk kp
  obtain ⟨a, o, pm, cd, doc, dV, kV, h1, h2, h3, h4, h5⟩ := G₁.fn hdef
  have W := walk w s s₁ _ _ G₁ (hYk _ _ _ (hY w s y) kp) a o pm cd doc dV kV h2 h3 h4 h5 (defOf_name hdef ▸ h1) L.gens args vs as hpre hlay L.reads L.well (L.low G.low)
  have fin : ∀ {res : Result} {t : Shared}, GoodWG r.claim (classAt s.heap) (ExcName.means s.heap) args s₁ res t →
      (r.claim.Ends s args vs s₁ res t ∧ t.os = s.os ∧ OldK s₁.heap t.heap) ∧ leftWithCleanup t.gens = false := fun g =>
    have z := g.laid (c := r.claim) hsame (List.isEmpty_iff.mp hwi) (ident_freeW hu ha hap) L
    ⟨⟨z.1, z.2.1, g.2.1⟩, leftWithCleanup_false_of_bare z.2.2⟩
  obtain ⟨k, res, t, t', hsch, hrun, hfo, hends, hos, holdk⟩ := runs_calm (R := fun res t => r.claim.Ends s args vs s₁ res t ∧ t.os = s.os ∧ OldK s₁.heap t.heap) (Shared.asleep_of_life al.2.2.2 hz) G₁.T.g h1
    (wpC_mono W (fun _ _ g => fin g) fun _ _ g => fin g)
  obtain ⟨eh, _, _, eo, _⟩ := Shared.forget_eq hfo
  have hends := hends.congr eh
  rw [← eo] at hos
  rw [← eh] at holdk
  have hlife : t'.heap.life = s.heap.life := (runN_life _ _ _ hrun).trans al.2.2.2
  refine ⟨vs, s₁, hlaid, k, _, t', hsch, ?_, (fun _ i x hx => by rw [hge] at hx; simp at hx), (fun q => ⟨namesKept_of hT' hg _ kp holdk.old, noTable hwr q⟩), by rw [hlife], Shared.rest_eq hos⟩
  rcases hends with ⟨v, rfl, d1, d2, d3, d4, d5⟩ | ⟨e, ob, cls, rfl, d1, d2, d3, d4, d5⟩
  · exact .inl ⟨v, rfl, d1, d2, d3, fun b o y _ => d4 b o y, d5⟩
  · exact .inr ⟨e, ob, cls, rfl, d1, d2, d3, d4, fun b o y _ => d5 b o y⟩
namespace Mine.Hd
open_top hd for PySem.Challenge.rw_pg0018_01
end Mine.Hd
end

section
open PySem PySem.W PyProof.Rows PySem.Calls
set_option maxRecDepth 100000
set_option maxHeartbeats 4000000
namespace Mine

/-! the frame's ledger made small: what a called def does not need is kept by the heap under it -/
def cutH (h : Heap) (n : Nat) : Heap := ⟨h.objs.extract 0 n, h.life⟩
theorem cutH_size (h : Heap) (n : Nat) : (cutH h n).objs.size ≤ n := by
  show (h.objs.extract 0 n).size ≤ n
  rw [Array.size_extract]; omega
theorem ext_get (xs : Array Obj) (n b : Nat) (hb : b < n) : (xs.extract 0 n)[b]? = xs[b]? := by
  rw [Array.getElem?_extract]
  by_cases hs : b < xs.size
  · rw [if_pos (by omega), Nat.zero_add]
  · rw [if_neg (by omega), Array.getElem?_eq_none (by omega)]
theorem cutH_get {h : Heap} {n : Nat} {b : Addr} (hb : b < n) : (cutH h n).get? b = h.get? b := by
  unfold cutH Heap.get?
  simp only [ext_get h.objs n b hb]
theorem of_cutH {h : Heap} {n : Nat} {b : Addr} {o : Obj} (e : (cutH h n).get? b = some o) : h.get? b = some o := by
  have hb : b < n := Nat.lt_of_lt_of_le (Heap.lt_size e) (cutH_size h n)
  rwa [cutH_get hb] at e

theorem reframe {g h₁ : Heap} {L' : Addr} {m' : Str → Option Value} {cells news need : List (Addr × Obj)} (F : Fr g L' h₁ m') (N : News g L' h₁ (cells ++ news)) (hlt : ∀ p ∈ news, p.1 < L') (hc : ∀ p ∈ cells, L' < p.1) (hsub : ∀ p ∈ need, p ∈ news) :
    ∃ g', g.StaysIn g' ∧ Fr g' L' h₁ m' ∧ News g' L' h₁ (cells ++ need) ∧
      ∀ h' m'' res, Fr g' L' h' m'' → News g' L' h' (res ++ need) → (∀ p ∈ need, ∀ q ∈ res, p.1 ≠ q.1) → Fr g L' h' m'' ∧ News g L' h' (res ++ news) ∧ ∀ p ∈ news, ∀ q ∈ res, p.1 ≠ q.1 := by
  have st : g.StaysIn (hideAll (cutH h₁ L') (need.map (·.1))) := fun b o e => by
    have hb : b < L' := Nat.lt_of_lt_of_le (Heap.lt_size e) F.above
    refine hideAll_get _ ((cutH_get hb).trans (F.keep b o e)) fun q => ?_
    obtain ⟨p, hp, rfl⟩ := List.mem_map.mp q
    rw [(N p (List.mem_append_right _ (hsub p hp))).2.2] at e
    cases e
  refine ⟨hideAll (cutH h₁ L') (need.map (·.1)), st, ⟨F.ns, fun b o e => of_cutH (of_hideAll _ e), ?_⟩, fun p hp => ?_, fun h' m'' res F' N' off => ?_⟩
  · rw [hideAll_size]; exact cutH_size _ _
  · rcases List.mem_append.mp hp with hp | hp
    · have z := N p (List.mem_append_left _ hp)
      refine ⟨z.1, z.2.1, ?_⟩
      have hge : (cutH h₁ L').get? p.1 = none := Heap.get?_none_of_le (Nat.le_trans (cutH_size _ _) (Nat.le_of_lt (hc p hp)))
      cases q : (hideAll (cutH h₁ L') (need.map (·.1))).get? p.1 with
      | none => rfl
      | some o => rw [of_hideAll _ q] at hge; cases hge
    · have z := N p (List.mem_append_right _ (hsub p hp))
      exact ⟨z.1, z.2.1, hideAll_none _ (List.mem_map_of_mem hp)⟩
  · have inNeed : ∀ p ∈ news, p.1 ∈ need.map (·.1) → p ∈ need := fun p hp q => by
      obtain ⟨r, hr, e⟩ := List.mem_map.mp q
      have h1 := (N p (List.mem_append_right _ hp)).1
      have h2 := (N r (List.mem_append_right _ (hsub r hr))).1
      rw [e, h1] at h2
      have : p = r := Prod.ext e.symm (Option.some.inj h2)
      exact this ▸ hr
    have kept : ∀ p ∈ news, p.1 ∉ need.map (·.1) → (hideAll (cutH h₁ L') (need.map (·.1))).get? p.1 = some p.2 := fun p hp q =>
      hideAll_get _ ((cutH_get (hlt p hp)).trans (N p (List.mem_append_right _ hp)).1) q
    refine ⟨⟨F'.ns, fun b o e => F'.keep b o (st b o e), F.above⟩, fun p hp => ?_, fun p hp q hq => ?_⟩
    · rcases List.mem_append.mp hp with hp | hp
      · have z := N' p (List.mem_append_left _ hp)
        refine ⟨z.1, z.2.1, ?_⟩
        cases q : g.get? p.1 with
        | none => rfl
        | some o => rw [st _ _ q] at z; exact absurd z.2.2 (by simp)
      · have z := N p (List.mem_append_right _ hp)
        refine ⟨?_, z.2.1, z.2.2⟩
        by_cases q : p.1 ∈ need.map (·.1)
        · exact (N' p (List.mem_append_right _ (inNeed p hp q))).1
        · exact F'.keep _ _ (kept p hp q)
    · by_cases r : p.1 ∈ need.map (·.1)
      · exact off p (inNeed p hp r) q hq
      · intro e
        have z := (N' q (List.mem_append_left _ hq)).2.2
        rw [← e, kept p hp r] at z
        cases z

theorem cellsFrom_ge : ∀ (names : List (Str × NameKind)) (n k : Nat) (acc : List (Str × Addr)), (∀ x ∈ acc, k < x.2) → k < n → ∀ x ∈ cellsFrom n names acc, k < x.2
  | [], _, _, _, ha, _, x, hx => ha x hx
  | (y, kd) :: r, n, k, acc, ha, hn, x, hx => by
    unfold cellsFrom at hx
    split at hx
    · exact cellsFrom_ge r (n + 1) k _ (fun z hz => by
        rcases List.mem_cons.mp hz with rfl | hz
        · exact hn
        · exact ha z hz) (Nat.lt_succ_of_lt hn) x hx
    · exact cellsFrom_ge r n k acc ha hn x hx
theorem cellsAre_ge {cm : Str → Option Value} {k : Nat} {cs : List (Str × Addr)} {cells : List (Addr × Obj)} (x : CellsAre cm cs cells) (h : ∀ c ∈ cs, k < c.2) : ∀ p ∈ cells, k < p.1 := by
  induction x with
  | nil => intro p hp; cases hp
  | cons _ _ ih =>
    intro p hp
    rcases List.mem_cons.mp hp with rfl | hp
    · exact h _ (.head _)
    · exact ih (fun c hc => h c (.tail _ hc)) p hp

/-- how a called def ends: its new objects in `res`, what it was given as it was -/
def EndR (h₀ : Heap) (L : Addr) (m : Str → Option Value) (news : List (Addr × Obj)) (g : Heap) (L' : Addr) (need : List (Addr × Obj)) (R : Result → Shared → Prop) (v : Value) (s' : Shared) : Prop :=
  ∃ m' res, Fr g L' s'.heap m' ∧ News g L' s'.heap (res ++ need) ∧ (∀ p ∈ need, ∀ q ∈ res, p.1 ≠ q.1) ∧
    (Fr h₀ L s'.heap m → News h₀ L s'.heap (res ++ news) → (∀ p ∈ news, ∀ q ∈ res, p.1 ≠ q.1) → R (.ok (.ret v)) s')

section
variable {prog : Program} {w : World} {A A₀ : Around} {s : Shared} {K : Frag} {L : Addr} {h₀ base : Heap} {m mg mb : Str → Option Value} {news : List (Addr × Obj)} {p : Program} {loose : List Str} {mean : ExcName → Option Value}

theorem code_R {env : Env} {outer : List Env} {R : Result → Shared → Prop} {name qual : Str} {params : Arguments} {body : List Stmt} {scope : Scope} {dV kV doc pm cdv ct oc : Value} {an od : Option Addr} {osl : Array (Option Value)} {f : Addr} {args : Args} {binds : List (Str × Value)}
    (need : List (Addr × Obj)) (hsub : ∀ q ∈ need, q ∈ news)
    (B : Below A₀ base outer h₀) (F : Fr h₀ L s.heap m) (X₀ : K.In h₀) (N : News h₀ L s.heap news) (T : Top p loose mean mg mb h₀) (hA : A.frames = some (env :: outer)) (hf : env.frame = some L) (hke : env.scope.kind = .function)
    (ho : K.lookup f = some ⟨oc, od, .func (fnOf name qual params body scope dV kV doc pm an cdv ct), osl⟩) (hcd : codeIn K cdv qual = true) (hroom : A.depth < recursionLimit)
    (hbind : BindsTo s (fnOf name qual params body scope dV kV doc pm an cdv ct) args binds) (hkind : (binds.all fun y => scope.names.lookup y.1 == some .local || scope.names.lookup y.1 == some .cell) = true)
    (hnd : ((cellsFrom 0 scope.names []).map (·.1)).Nodup)
    (h : ∀ g L' h₁ tk cells, Fr g L' h₁ (bindL (envOfC qual scope L' f cdv).kindOf binds fun _ => none) → News g L' h₁ (cells ++ need) →
      CellsAre (bindC (envOfC qual scope L' f cdv).kindOf binds fun _ => none) (cellsFrom (L' + 1) scope.names []) cells → Below A base (env :: outer) g → K.In g → Top p loose mean mg mb g → (∀ q ∈ need, q.1 < L') →
      wpAny (model prog w) (A.deeper (envOfC qual scope L' f cdv)) (execs body (envOfC qual scope L' f cdv))
        (fun fl s' => EndR h₀ L m news g L' need R (match fl with | .ret v => v | _ => .none) s')
        (fun e s' => wpAny (model prog w) (A.deeper (envOfC qual scope L' f cdv)) (leaving (envOfC qual scope L' f cdv) e) (fun _ s'' => R (.error e) s'') (fun e' s'' => R (.error e') s'') s')
        { s with heap := h₁, toks := tk })
    (hco : scope.isCoroutine = false) (hgen : scope.isGenerator = false) (hk : scope.kind = .function) : codeAny (model prog w) A (.call (.ref f) args) R s := by
  refine code_defC B F X₀ N T hA hf hke ho hcd hroom hbind hkind hnd (fun g L' h₁ tk cells FG F' N' Y B' X' T' lt => ?_) hco hgen hk
  have hc : ∀ q ∈ cells, L' < q.1 := cellsAre_ge Y (cellsFrom_ge _ _ _ _ (fun x hx => nomatch hx) (Nat.lt_succ_self _))
  obtain ⟨g', st, F2, N2, back⟩ := reframe F' N' lt hc hsub
  have B2 : Below A base (env :: outer) g' := ⟨B'.stack, fun b o e => st b o (B'.stays b o e), B'.frames.of_keeps fun b o e _ => ⟨o, st b o e, rfl⟩⟩
  refine wpAny_mono (h g' L' h₁ tk cells F2 N2 Y B2 (X'.keeps st) (T'.keeps st) fun q hq => lt q (hsub q hq)) (fun fl s' hl => ?_) fun _ _ y => y
  obtain ⟨m', res, F3, N3, off, k⟩ := hl
  obtain ⟨F4, N4, off4⟩ := back _ _ _ F3 N3 off
  exact ⟨L', m', res ++ news, F4, N4, fun F5 N5 => k F5 N5 off4⟩
end
end Mine
end

section
open PySem PySem.W PyProof.Rows PySem.Calls
set_option maxRecDepth 100000
set_option maxHeartbeats 4000000
namespace Mine
section
variable {prog : Program} {w : World} {A : Around} {E : Value → Shared → Prop} {s : Shared} {env : Env} {h₀ : Heap} {target : PySem.Expr} {body : List Stmt} {Q : Flow → Shared → Prop}

theorem unrPostW_mono {L : Addr} {s₁ : Shared} {its : List (Addr × Obj)} {r r' : (Str → Option Value) → List (Addr × Obj) → Prop} (hr : ∀ m n, r m n → r' m n) {f : Flow} {s₂ : Shared} (h : UnrPostW h₀ L s₁ its r Q f s₂) : UnrPostW h₀ L s₁ its r' Q f s₂ := by
  cases f with
  | ret v => exact h
  | brk => exact h
  | next => obtain ⟨h', tk, m', n', e, F, N, o, x⟩ := h; exact ⟨h', tk, m', n', e, F, N, o, hr _ _ x⟩
  | cont => obtain ⟨h', tk, m', n', e, F, N, o, x⟩ := h; exact ⟨h', tk, m', n', e, F, N, o, hr _ _ x⟩
theorem allObj_mono : ∀ {ws : List (Addr × String)} {k k' : List (Addr × Obj) → Prop}, (∀ its, k its → k' its) → AllObj ws k → AllObj ws k'
  | [], _, _, hk, h => hk _ h
  | _ :: _, _, _, hk, h => fun o ho => allObj_mono (fun _ x => hk _ x) (h o ho)

/-- a loop over known items by what holds between its turns -/
theorem items_run {ws : List (Addr × String)} {keep : List (Addr × Obj)} {xs : List Itm} (J : Nat → (Str → Option Value) → List (Addr × Obj) → Prop)
    (turn : ∀ i a m news, xs[i]? = some a → J i m news → ∀ v h tk, a.Is v h → Fr h₀ env.locals h m → AllObj ws (fun its => News h₀ env.locals h (its ++ news) →
      wpAny (model prog w) A (assign target env v) (fun _ s₂ => wpAny (model prog w) A (execs body env) (UnrPostW h₀ env.locals { s with heap := h, toks := tk } its (fun m' n' => SubL keep n' ∧ J (i + 1) m' n') Q) E s₂) E { s with heap := h, toks := tk }))
    (fin : ∀ m news h tk, J xs.length m news → Fr h₀ env.locals h m → News h₀ env.locals h news → Q .next { s with heap := h, toks := tk }) :
    ∀ m news, J 0 m news → ItemsRest prog w A E h₀ env target body Q s ws keep xs m news := by
  have main : ∀ (r : List Itm) (i : Nat), xs.drop i = r → i ≤ xs.length → ∀ m news, J i m news → ItemsRest prog w A E h₀ env target body Q s ws keep r m news := by
    intro r
    induction r with
    | nil =>
      intro i hd hle m news hJ h tk F N
      have : i = xs.length := by
        have := congrArg List.length hd
        rw [List.length_drop, List.length_nil] at this
        omega
      exact fin m news h tk (this ▸ hJ) F N
    | cons a r ih =>
      intro i hd hle m news hJ v h tk hv F
      have hlt : i < xs.length := by
        have := congrArg List.length hd
        rw [List.length_drop, List.length_cons] at this
        omega
      have hd' := List.drop_eq_getElem_cons hlt
      rw [hd] at hd'
      injection hd' with e1 e2
      have ha : xs[i]? = some a := by rw [List.getElem?_eq_getElem hlt, e1]
      refine allObj_mono (fun its x N => ?_) (turn i a m news ha hJ v h tk hv F)
      exact wpAny_mono (x N) (fun _ s₂ x₂ => wpAny_mono x₂ (fun f s₃ x₃ => unrPostW_mono (fun m' n' y => ⟨y.1, ih (i + 1) e2.symm hlt m' n' y.2⟩) x₃) fun _ _ e => e) fun _ _ e => e
  exact main xs 0 (List.drop_zero) (Nat.zero_le _)

/-- the locals as they were but for the names that are stored -/
theorem frame_as {stored : List Str} {m m₀ : Str → Option Value} (h : ∀ y, stored.contains y = false → m y = m₀ y) : m = fun y => if stored.contains y = true then m y else m₀ y := by
  funext y
  cases e : stored.contains y with
  | true => simp
  | false => simp only [Bool.false_eq_true, if_false]; exact h y e

/-- the same, the frame's names told apart: those that the loop stores, and the rest -/
theorem items_runS {ws : List (Addr × String)} {keep : List (Addr × Obj)} {xs : List Itm} {m₀ : Str → Option Value} (stored : List Str) (J : Nat → List (Addr × Obj) → Prop)
    (turn : ∀ i a (u : Str → Option Value) news, xs[i]? = some a → J i news → ∀ v h tk, a.Is v h → Fr h₀ env.locals h (fun y => if stored.contains y = true then u y else m₀ y) → AllObj ws (fun its => News h₀ env.locals h (its ++ news) →
      wpAny (model prog w) A (assign target env v) (fun _ s₂ => wpAny (model prog w) A (execs body env) (UnrPostW h₀ env.locals { s with heap := h, toks := tk } its (fun m' n' => SubL keep n' ∧ (∀ y, stored.contains y = false → m' y = m₀ y) ∧ J (i + 1) n') Q) E s₂) E { s with heap := h, toks := tk }))
    (fin : ∀ (u : Str → Option Value) news h tk, J xs.length news → Fr h₀ env.locals h (fun y => if stored.contains y = true then u y else m₀ y) → News h₀ env.locals h news → Q .next { s with heap := h, toks := tk }) :
    ∀ news, J 0 news → ItemsRest prog w A E h₀ env target body Q s ws keep xs m₀ news := fun news h0 =>
  items_run (fun i m n => (∀ y, stored.contains y = false → m y = m₀ y) ∧ J i n)
    (fun i a m news ha hJ v h tk hv F => turn i a m news ha hJ.2 v h tk hv (frame_as hJ.1 ▸ F))
    (fun m news h tk hJ F N => fin m news h tk hJ.2 (frame_as hJ.1 ▸ F) N) m₀ news ⟨fun _ _ => rfl, h0⟩
end
section
variable {prog : Program} {w : World} {A : Around} {E : Value → Shared → Prop} {s : Shared} {env : Env} {h₀ : Heap} {target : PySem.Expr} {body : List Stmt} {Q : Flow → Shared → Prop}
/-- the same, two names' values carried -/
theorem items_run2 {ws : List (Addr × String)} {keep : List (Addr × Obj)} {xs : List Itm} {m₀ : Str → Option Value} (stored : List Str) (n1 n2 : Str) (J : Nat → Value → Value → List (Addr × Obj) → Prop)
    (turn : ∀ i a (u : Str → Option Value) v1 v2 news, xs[i]? = some a → J i v1 v2 news → ∀ v h tk, a.Is v h → Fr h₀ env.locals h (fun y => if y = n1 then some v1 else if y = n2 then some v2 else if stored.contains y = true then u y else m₀ y) → AllObj ws (fun its => News h₀ env.locals h (its ++ news) →
      wpAny (model prog w) A (assign target env v) (fun _ s₂ => wpAny (model prog w) A (execs body env) (UnrPostW h₀ env.locals { s with heap := h, toks := tk } its (fun m' n' => SubL keep n' ∧ (∀ y, stored.contains y = false → y ≠ n1 → y ≠ n2 → m' y = m₀ y) ∧ ∃ v1 v2, m' n1 = some v1 ∧ m' n2 = some v2 ∧ J (i + 1) v1 v2 n') Q) E s₂) E { s with heap := h, toks := tk }))
    (fin : ∀ (u : Str → Option Value) v1 v2 news h tk, J xs.length v1 v2 news → Fr h₀ env.locals h (fun y => if y = n1 then some v1 else if y = n2 then some v2 else if stored.contains y = true then u y else m₀ y) → News h₀ env.locals h news → Q .next { s with heap := h, toks := tk }) :
    ∀ news v1 v2, m₀ n1 = some v1 → m₀ n2 = some v2 → J 0 v1 v2 news → ItemsRest prog w A E h₀ env target body Q s ws keep xs m₀ news := fun news v1 v2 e1 e2 h0 => by
  have eq : ∀ (m : Str → Option Value) v1 v2, (∀ y, stored.contains y = false → y ≠ n1 → y ≠ n2 → m y = m₀ y) → m n1 = some v1 → m n2 = some v2 → m = fun y => if y = n1 then some v1 else if y = n2 then some v2 else if stored.contains y = true then m y else m₀ y := by
    intro m v1 v2 h h1 h2
    funext y
    by_cases a1 : y = n1
    · simp [a1, h1]
    · by_cases a2 : y = n2
      · subst a2; simp [a1, h2]
      · simp only [if_neg a1, if_neg a2]
        cases e : stored.contains y with
        | true => simp
        | false => simp only [Bool.false_eq_true, if_false]; exact h y e a1 a2
  refine items_run (fun i m n => (∀ y, stored.contains y = false → y ≠ n1 → y ≠ n2 → m y = m₀ y) ∧ ∃ v1 v2, m n1 = some v1 ∧ m n2 = some v2 ∧ J i v1 v2 n) ?_ ?_ m₀ news ⟨fun _ _ _ _ => rfl, v1, v2, e1, e2, h0⟩
  · rintro i a m news ha ⟨hm, v1, v2, h1, h2, hJ⟩ v h tk hv F
    exact turn i a m v1 v2 news ha hJ v h tk hv (eq m v1 v2 hm h1 h2 ▸ F)
  · rintro m news h tk ⟨hm, v1, v2, h1, h2, hJ⟩ F N
    exact fin m v1 v2 news h tk hJ (eq m v1 v2 hm h1 h2 ▸ F) N
end
theorem endR_val {h₀ g : Heap} {L L' : Addr} {m m' : Str → Option Value} {news need all : List (Addr × Obj)} {R : Result → Shared → Prop} {v : Value} {s' : Shared} (F : Fr g L' s'.heap m') (N : News g L' s'.heap all) (hs : ∀ p ∈ need, p ∈ all)
    (k : Fr h₀ L s'.heap m → News h₀ L s'.heap news → R (.ok (.ret v)) s') : EndR h₀ L m news g L' need R v s' :=
  ⟨m', [], F, fun p hp => N p (hs p hp), fun _ _ _ h => (nomatch h), fun F N _ => k F N⟩
theorem endR_new {h₀ g : Heap} {L L' : Addr} {m m' : Str → Option Value} {news need all : List (Addr × Obj)} {R : Result → Shared → Prop} {v : Value} {s' : Shared} (res : List (Addr × Obj)) (F : Fr g L' s'.heap m') (N : News g L' s'.heap all) (hr : ∀ p ∈ res, p ∈ all) (hs : ∀ p ∈ need, p ∈ all)
    (off : ∀ p ∈ need, ∀ q ∈ res, p.1 ≠ q.1) (k : Fr h₀ L s'.heap m → News h₀ L s'.heap (res ++ news) → (∀ p ∈ news, ∀ q ∈ res, p.1 ≠ q.1) → R (.ok (.ret v)) s') : EndR h₀ L m news g L' need R v s' :=
  ⟨m', res, F, fun p hp => by
    rcases List.mem_append.mp hp with hp | hp
    · exact N p (hr p hp)
    · exact N p (hs p hp), off, k⟩
theorem unrEndW_keep {h₀ : Heap} {L : Addr} {its news all : List (Addr × Obj)} {rest : (Str → Option Value) → List (Addr × Obj) → Prop} {s₁ : Shared} {h' : Heap} {tk : Nat} {m' : Str → Option Value} (F : Fr h₀ L h' m') (N : News h₀ L h' all) (hs : ∀ p ∈ its ++ news, p ∈ all) (off : ∀ p ∈ news, ∀ q ∈ its, p.1 ≠ q.1)
    (r : rest m' news) : UnrEndW h₀ L s₁ its rest { s₁ with heap := h', toks := tk } := ⟨h', tk, m', news, rfl, F, fun p hp => N p (hs p hp), off, r⟩
end Mine
end

section
open PySem PySem.W PyProof.Rows PySem.Calls
set_option maxRecDepth 100000
set_option maxHeartbeats 8000000
namespace Mine
abbrev PG : Program := PySem.Challenge.rw_pg0018_01.row.prog
theorem fill0 (w : World) (h₀ : Heap) : (Hd.hd.heap_39 w.params).In h₀ → PySem.Challenge.rw_pg0018_01.row.prog = PySem.Challenge.rw_pg0018_01.row.prog := by k_fill; intro _; rfl
abbrev tupO (vs : List Value) : Obj := { cls := .type "tuple", data := .seq vs.toArray }
abbrev compD (w : World) (t : Tok) (kl : Addr) : Obj := dictOf [{ hash := PyData.keyHash w.params (Str.ofString "comp_select_list"), key := .str (Str.ofString "comp_select_list") t, val := .ref kl }] 1

/-- the keys' tuples, from the column j on: the list's items, the directions, the objects -/
inductive KeysAre : Nat → List Value → List Int → List (Addr × Obj) → Prop
  | nil {j : Nat} : KeysAre j [] [] []
  | cons {j : Nat} {k : Addr} {t u : Tok} {d : Int} {vs : List Value} {ds : List Int} {os : List (Addr × Obj)} : KeysAre (j + 1) vs ds os → KeysAre j (.ref k :: vs) (d :: ds) ((k, tupO [.int (j : Int) t, .int d u]) :: os)
theorem KeysAre.len {j : Nat} {vs : List Value} {ds : List Int} {os : List (Addr × Obj)} (h : KeysAre j vs ds os) : vs.length = ds.length := by
  induction h with
  | nil => rfl
  | cons _ ih => simp [ih]

/-- the byte at j -/
def byteI (b : Array UInt8) (j : Nat) : Int := ((b.toList.getD j 0).toNat : Int)
/-- what compare tells from the column j on -/
noncomputable def cmpAt : Nat → List Int → Array UInt8 → Array UInt8 → Int
  | _, [], _, _ => 0
  | j, d :: ds, l, r => if byteI l j < byteI r j then -d else if byteI r j < byteI l j then d else cmpAt (j + 1) ds l r

theorem byte_item {prog : Program} {w : World} {A : Around} {E : Value → Shared → Prop} {s : Shared} {value slice : PySem.Expr} {b : Array UInt8} {t ui : Tok} {i : Int} {j : Nat} {Q : Value → Shared → Prop} (hi : i = (j : Int)) (hj : j < b.size) (hz : b.size ≤ 1099511627776) (h : ∀ tk k, Q (.int (byteI b j) tk) { s with toks := k })
    (hs : subscripted slice false (.bytes b t) (.int i ui) = operate [.bytes b t, .int i ui] (getItem (.bytes b t) (.int i ui)) := by with_unfolding_all rfl)
    (ht : ∀ r, letTemporaryGo value (.bytes b t) r = pure () := by intro _; with_unfolding_all rfl) :
    wpAny (model prog w) A (subscriptTail value slice (.bytes b t) (.int i ui)) Q E s := by
  subst hi
  have h' := h s.toks (s.toks + 1)
  unfold byteI at h'
  obtain ⟨l⟩ := b
  exact KBy.item_N (x := l) hz (Int.natCast_nonneg _) (by exact Int.ofNat_lt.mpr hj) (by simpa using h') hs ht
end Mine
end

section
open PySem PySem.W PyProof.Rows PySem.Calls
set_option maxRecDepth 100000
set_option maxHeartbeats 8000000
namespace Mine
theorem fill1 (w : World) (h₀ : Heap) : (Hd.hd.heap_39 w.params).In h₀ → PySem.Challenge.rw_pg0018_01.row.prog = PySem.Challenge.rw_pg0018_01.row.prog := by k_fill; intro _; rfl

theorem KeysAre.get {j : Nat} {vs : List Value} {ds : List Int} {os : List (Addr × Obj)} (h : KeysAre j vs ds os) : ∀ (i : Nat) (v : Value), vs[i]? = some v → ∃ k t d u, v = .ref k ∧ ds[i]? = some d ∧ (k, tupO [.int ((j + i : Nat) : Int) t, .int d u]) ∈ os := by
  induction h with
  | nil => intro i v hv; simp at hv
  | @cons j k t u d vs ds os _ ih =>
    intro i v hv
    cases i with
    | zero => simp at hv; exact ⟨k, t, d, u, hv.symm, by simp, by simp⟩
    | succ i =>
      obtain ⟨k', t', d', u', e1, e2, e3⟩ := ih i v (by simpa using hv)
      refine ⟨k', t', d', u', e1, by simpa using e2, List.mem_cons_of_mem _ ?_⟩
      have : j + 1 + i = j + (i + 1) := by omega
      rw [← this]; exact e3
theorem cmpAt_skip {lb rb : Array UInt8} : ∀ (ds : List Int) (j i : Nat), i ≤ ds.length → (∀ c, j ≤ c → c < j + i → byteI lb c = byteI rb c) → cmpAt j ds lb rb = cmpAt (j + i) (ds.drop i) lb rb
  | ds, j, 0, _, _ => by simp
  | [], j, i + 1, h, _ => by simp at h
  | d :: ds, j, i + 1, h, he => by
    have h0 := he j (Nat.le_refl _) (by omega)
    rw [cmpAt, if_neg (by omega), if_neg (by omega), cmpAt_skip ds (j + 1) i (by simpa using h) (fun c h1 h2 => he c (by omega) (by omega))]
    simp only [List.drop_succ_cons]
    congr 1
    omega

local macro_rules | `(tactic| walk_at "subscriptTail Name Name bytes int") => `(tactic| (k_here; (with_reducible show wpAny _ _ (subscriptTail _ _ (Value.bytes _ _) (Value.int _ _)) _ _ _); (refine byte_item rfl (by omega) (by omega) ?_); intro _ _))

theorem cmp_call {w : World} {loose : List Str} {mean : ExcName → Option Value} {mg mb : Str → Option Value} {cn cn2 : Str} {cs cs2 : Scope} {L L2 a a2 : Addr} {ccd ccd2 : Value} {cl cl2 : List (Str × Addr)} {base h₀ : Heap} {m : Str → Option Value} {s : Shared} {Q E : Value → Shared → Prop} {news : List (Addr × Obj)}
   {x dx kl : Addr} {tk t1 t2 : Tok} {kv : List Value} {ds : List Int} {os : List (Addr × Obj)} {nk : Nat} {lb rb : Array UInt8}
    (B : Below (callerA.deeper (envX cn2 cs2 L2 a2 ccd2 cl2)) base [envX cn2 cs2 L2 a2 ccd2 cl2] h₀) (F : Fr h₀ L s.heap m) (X : (Hd.hd.heap_39 w.params).In h₀) (N : News h₀ L s.heap news) (T : Top Hd.hd.view_39 loose mean mg mb h₀) (hk : cs.kind = .function)
    (hK : KeysAre 0 kv ds os) (hsub : ∀ q ∈ (x, instObj 38 dx) :: (dx, compD w tk kl) :: (kl, listOf kv.toArray nk) :: os, q ∈ news)
    (hl : ds.length ≤ lb.size) (hr : ds.length ≤ rb.size) (hlz : lb.size ≤ 1000) (hrz : rb.size ≤ 1000)
    (ret : ∀ t h' tk', Fr h₀ L h' m → News h₀ L h' news → Q (.int (cmpAt 0 ds lb rb) t) { s with heap := h', toks := tk' }) :
    wpAny (model PG w) ((callerA.deeper (envX cn2 cs2 L2 a2 ccd2 cl2)).deeper (envX cn cs L a ccd cl)) (call (.ref 35) [.ref x, .bytes lb t1, .bytes rb t2]) Q E s := by
  w_top off
  refine wpAny_call ?_
  k_dflt (refine' code_R _ hsub ?k1 ?k2 ?k3 ?k4 ?k5 ?kA ?kF ?kK ?k6 ?k7 ?k8 ?k9 ?kB ?kD ?_ ?c2 ?c3 ?c4; (case kA => exact rfl); (case kF => exact rfl); (case kK => first | exact rfl | assumption); (case k1 => k_asm); (case k2 => k_asm); (case k3 => k_asm); (case k4 => k_asm); (case k5 => k_asm); (case k6 => k_is); (case k7 => k_is); (case k8 => k_room); (case k9 => first | exact BindsTo.of_eq rfl | fail "k_enter: no rule for these arguments"); (case kB => exact rfl); (case kD => decide +kernel); (case c2 => exact rfl); (case c3 => exact rfl); (case c4 => exact rfl); k_whole; intro g' L' h' tk' cells' F' N' Y' B' X' T' l1; cases Y'; (try simp only [List.nil_append] at N'); (try dsimp only))
  walk1
  with_unfolding_all refine For_turns F' ?_
  (iterate 3 walk1)
  (try dsimp only)
  with_unfolding_all refine iter_listTurns (lo := listOf kv.toArray nk) (vs := kv) (by rfl) F' N' (by k_mem) (by rfl) (by rfl) ?_
  intro I lI
  refine items_runS [Str.ofString "index", Str.ofString "direction", Str.ofString "l", Str.ofString "r"] (fun i n' => n' = (x, instObj 38 dx) :: (dx, compD w tk kl) :: (kl, listOf kv.toArray nk) :: os ∧ ∀ c, c < i → byteI lb c = byteI rb c) ?_ ?_ _ ⟨rfl, fun c hc => absurd hc (Nat.not_lt_zero _)⟩
  · rintro i it m' n' hit ⟨rfl, hc⟩ v h₁ tk₁ hv F₁
    obtain ⟨v', hv', rfl⟩ : ∃ v', kv[i]? = some v' ∧ Itm.val v' = it := by simpa using hit
    obtain rfl : v = v' := hv
    obtain ⟨k, t, d, u, rfl, hd, hmem⟩ := hK.get i v hv'
    have hi : i < ds.length := (List.getElem?_eq_some_iff.mp hd).1
    rw [Nat.zero_add] at hmem
    refine AllObj.cons (fun oI hoI => AllObj.nil (fun N₁ => ?_))
    simp only [List.cons_append, List.nil_append] at N₁
    clear F' N'
    replace F₁ : Fr g' L' h₁ _ := F₁
    replace N₁ : News g' L' h₁ _ := N₁
    refine unpackN_ F₁ N₁ (News.isTup N₁ (.tail _ (.tail _ (.tail _ (.tail _ hmem))))) rfl rfl rfl ?_
    intro h₂ F₂ N₂
    have hcm : cmpAt 0 ds lb rb = cmpAt i (d :: ds.drop (i + 1)) lb rb := by
      rw [cmpAt_skip ds 0 i (Nat.le_of_lt hi) (fun c _ h2 => hc c (by omega)), Nat.zero_add]
      congr 1
      rw [List.drop_eq_getElem_cons hi]
      congr 1
      exact (List.getElem?_eq_some_iff.mp hd).2
    have ret' : ∀ z, z = cmpAt 0 ds lb rb → ∀ t h' tk', Fr h₀ L h' m → News h₀ L h' news → Q (.int z t) { s with heap := h', toks := tk' } := fun z hz => hz ▸ ret
    k_steps
    · refine endR_val (by assumption) (by assumption) (fun p hp => .tail _ hp) (fun F9 N9 => ret' _ ?_ _ _ _ F9 N9)
      rw [hcm, cmpAt, if_pos (by omega)]
    · refine endR_val (by assumption) (by assumption) (fun p hp => .tail _ hp) (fun F9 N9 => ret' _ ?_ _ _ _ F9 N9)
      rw [hcm, cmpAt, if_neg (by omega), if_pos (by omega)]
    · refine unrEndW_keep (by assumption) (by assumption) (fun p hp => hp) (fun p hp q hq => ?_) ⟨⟨by k_mem, trivial⟩, fun y hy => ?_, rfl, fun c h => ?_⟩
      · rw [List.mem_singleton.mp hq]; exact Nat.ne_of_lt (lI p hp)
      · simp only [List.contains_cons, List.contains_nil, Bool.or_false, Bool.or_eq_false_iff, beq_eq_false_iff_ne, ne_eq] at hy
        simp only [hy.1, hy.2.1, hy.2.2.1, hy.2.2.2, if_false]
        simp [hy.1, hy.2.1, hy.2.2.1, hy.2.2.2]
      · rcases Nat.lt_succ_iff_lt_or_eq.mp h with h | rfl
        · exact hc c h
        · omega
  · rintro u n' h₁ tk₁ ⟨rfl, hc⟩ F₁ N₁
    clear F' N'
    replace F₁ : Fr g' L' h₁ _ := F₁
    replace N₁ : News g' L' h₁ _ := N₁
    have hfin : cmpAt 0 ds lb rb = 0 := by
      have hln : (List.map Itm.val kv).length = ds.length := by rw [List.length_map, hK.len]
      rw [hln] at hc
      rw [cmpAt_skip ds 0 ds.length (Nat.le_refl _) (fun c _ h2 => hc c (by omega)), List.drop_length, cmpAt]
    have ret' : ∀ z, z = cmpAt 0 ds lb rb → ∀ t h' tk', Fr h₀ L h' m → News h₀ L h' news → Q (.int z t) { s with heap := h', toks := tk' } := fun z hz => hz ▸ ret
    dsimp only
    k_steps
    refine endR_val (by assumption) (by assumption) (fun p hp => hp) (fun F9 N9 => ret' _ hfin.symm _ _ _ F9 N9)
end Mine
end

section
open PySem PySem.W PyProof.Rows PySem.Calls PyProof.Rows.LCg
set_option maxRecDepth 100000
set_option maxHeartbeats 4000000
namespace Mine

def pickV (tst : Nat → Bool) (val : Nat → Value) (n : Nat) : List Value := ((List.range n).filter tst).map val
theorem pickV_succ {tst : Nat → Bool} {val : Nat → Value} {i : Nat} : pickV tst val (i + 1) = if tst i = true then pickV tst val i ++ [val i] else pickV tst val i := by
  unfold pickV
  rw [List.range_succ, List.filter_append]
  cases h : tst i <;> simp [h]
theorem pickV_len {tst : Nat → Bool} {val : Nat → Value} {i : Nat} : (pickV tst val i).length ≤ i := by
  unfold pickV
  rw [List.length_map]
  exact Nat.le_trans (List.length_filter_le _ _) (by simp)

section
variable {prog : Program} {w : World} {A : Around} {E : Value → Shared → Prop} {s : Shared} {h₀ : Heap} {L : Addr} {m : Str → Option Value} {env : Env}

/-- [y for x, y in pairs if test]: the pairs are tuples of the ledger, the test and the element make nothing -/
theorem flt_assign {elt iter c : PySem.Expr} {a b y : Str} {pa pb tp pos spos py : Pos} {kk : Nat} {scope : Scope} {cl : List (Str × Addr)} {kl : Addr} {kv : List Value} {nk : Nat} {news : List (Addr × Obj)} {tst : Nat → Bool} {val : Nat → Value} {X : Nat → Value → Prop} {Q : Flow → Shared → Prop} (hLe : env.locals = L)
    (hsw : swapsWith (.ListComp elt [⟨.Tuple [.Name a pa, .Name b pb] kk tp, iter, [c], 0⟩] scope pos) (some (.Name y py)) spos.line env = pure true)
    (hy : env.kindOf y = some .local) (hp : (env.scope.kind == .class || (env.scope.kind == .module && env.locals != env.globals)) = false)
    (hh : A.handled = none) (F : Fr h₀ L s.heap m) (N : News h₀ L s.heap news) (hm : (kl, listOf kv.toArray nk) ∈ news) (hz : kv.length ≤ sizeLine)
    (hkv : ∀ i v, kv[i]? = some v → ∃ T x, v = .ref T ∧ (T, tupO [x, val i]) ∈ news ∧ X i x)
    (hclos : closureFor scope env = pure cl) (hcell : ∀ y ∈ scope.names, y.2 ≠ .cell) (hkind : scope.kind = .function)
    (hnames : ∀ y ∈ scope.names, y.2 = .local → scope.names.lookup y.1 = some .local) (hxa : scope.names.lookup a = some .local) (hxb : scope.names.lookup b = some .local) (hab : ¬ a = b)
    (hiter : ∀ Q' : Value → Shared → Prop, Q' (.ref kl) s → wpAny (model prog w) A (eval iter env) Q' E s)
    (test : ∀ i x C m₂ h tk (E' : Value → Shared → Prop), i < kv.length → X i x → h.Ns C m₂ → m₂ a = some x → m₂ b = some (val i) → Fr h₀ L h m → News h₀ L h news →
      wpAny (model prog w) A (isTrue c (compEnvC scope cl C env) (eval c (compEnvC scope cl C env))) (fun okb s₃ => okb = tst i ∧ ∃ tk', s₃ = { s with heap := h, toks := tk' }) E' { s with heap := h, toks := tk })
    (helt : ∀ i C m₂ h tk (E' : Value → Shared → Prop), h.Ns C m₂ → m₂ b = some (val i) → wpAny (model prog w) A (eval elt (compEnvC scope cl C env)) (fun y s₃ => y = val i ∧ s₃ = { s with heap := h, toks := tk }) E' { s with heap := h, toks := tk })
    (fin : ∀ D h' tk, Fr h₀ L h' (fun z => if z = y then some (.ref D) else m z) → News h₀ L h' ((D, lst (pickV tst val kv.length)) :: news) → (∀ p ∈ news, p.1 < D) → Q .next { s with heap := h', toks := tk })
    (hs : ∀ x, foldedSetIterable iter env x = pure x := by intro _; rfl) :
    wpAny (model prog w) A (exec (.Assign [.Name y py] (.ListComp elt [⟨.Tuple [.Name a pa, .Name b pb] kk tp, iter, [c], 0⟩] scope pos) spos) env) Q E s := by
  subst hLe
  rw [exec_Assign_Name_used _ _ _ _ hsw]
  refine wpAny_bind (wpAny_standAt (wpAny_bind ?_))
  show wpAny _ A (do let _ ← comprehension (.ListComp elt [⟨.Tuple [.Name a pa, .Name b pb] kk tp, iter, [c], 0⟩] scope pos) scope env _ (newList []) false (eval iter env) (some (assign (.Name y py) env))) _ _ s
  refine wpAny_bind (wpAny_mono (wpAny_comprehension_free (use := some (assign (.Name y py) env)) (Q := fun _ s' => Q .next s') rfl hs hclos hkind hnames
    (hiter _ ?_)) (fun _ s' hq => wpAny_pure (wpAny_pure hq)) fun _ _ e => e)
  have hl : s.heap.IsList kl kv.toArray := News.isList N hm
  refine wpAny_pyIter_list hl ?_
  generalize hs2 : s.heap.push { cls := .type "list_iterator", data := .fields #[.ref kl, .int 0 0] } = S2
  have hsz2 : S2.objs.size = s.heap.objs.size + 1 := by rw [← hs2, Heap.size_push]
  have up2 : ∀ b o, s.heap.get? b = some o → S2.get? b = some o := fun b o e => hs2 ▸ Heap.get?_push_of_some _ e
  have hit2 : S2.IsListIter s.heap.objs.size kl 0 := ⟨_, hs2 ▸ Heap.get?_push_size _ rfl, rfl, rfl⟩
  refine wpAny_newObj_type (wpAny_newFunctionEnv hcell (by intro y hy; simp at hy) (fun h₁ hns₁ hsb₁ => ?_) hkind)
  dsimp only at hns₁ hsb₁ ⊢
  generalize hH2 : S2.push { cls := .type "list", dict := none, data := .seq ([] : List Value).toArray } = H2 at hns₁ hsb₁ ⊢
  have hC : H2.objs.size = S2.objs.size + 1 := by rw [← hH2, Heap.size_push]
  have hDC : S2.objs.size ≠ H2.objs.size := by rw [hC]; exact Nat.ne_of_lt (Nat.lt_succ_self _)
  have below : ∀ b : Nat, b < S2.objs.size → b ≠ H2.objs.size ∧ b ≠ S2.objs.size := fun b hb => ⟨by rw [hC]; exact Nat.ne_of_lt (Nat.lt_succ_of_lt hb), Nat.ne_of_lt hb⟩
  have hIlt : s.heap.objs.size < S2.objs.size := by rw [hsz2]; exact Nat.lt_succ_self _
  have old : ∀ b o, S2.get? b = some o → h₁.get? b = some o := fun b o e => hsb₁.extBut b o (below b (Heap.lt_size e)).1 (Heap.get?_push_of_some _ (hH2 ▸ Heap.get?_push_of_some _ e))
  have hacc : h₁.get? S2.objs.size = some (lst []) := hsb₁.extBut _ _ hDC (Heap.get?_push_of_some _ (hH2 ▸ Heap.get?_push_size _ rfl))
  have fresh₀ : ∀ a : Nat, s.heap.objs.size ≤ a → h₀.get? a = none := fun a ha => by
    cases e : h₀.get? a with
    | none => rfl
    | some o' => exact absurd (Heap.lt_size (F.keep a o' e)) (Nat.not_lt.mpr ha)
  have hI₀ : h₀.get? s.heap.objs.size = none := fresh₀ _ (Nat.le_refl _)
  have hD₀ : h₀.get? S2.objs.size = none := fresh₀ _ (Nat.le_of_lt hIlt)
  have hC₀ : h₀.get? H2.objs.size = none := fresh₀ _ (by rw [hC]; exact Nat.le_succ_of_le (Nat.le_of_lt hIlt))
  have hLlt : env.locals < s.heap.objs.size := F.ns.lt
  have hIL : env.locals ≠ s.heap.objs.size := Nat.ne_of_lt hLlt
  have hLlt2 : env.locals < S2.objs.size := Nat.lt_trans hLlt hIlt
  have hDL : S2.objs.size ≠ env.locals := Ne.symm (below env.locals hLlt2).2
  have hCL : H2.objs.size ≠ env.locals := Ne.symm (below env.locals hLlt2).1
  have hCI : s.heap.objs.size ≠ H2.objs.size := (below _ hIlt).1
  have hDI : s.heap.objs.size ≠ S2.objs.size := (below _ hIlt).2
  have offI : ∀ p ∈ news, p.1 ≠ s.heap.objs.size := fun p hp => Nat.ne_of_lt (Heap.lt_size (N p hp).1)
  have offC : ∀ p ∈ news, p.1 ≠ H2.objs.size := fun p hp => (below _ (Nat.lt_trans (Heap.lt_size (N p hp).1) hIlt)).1
  have offD : ∀ p ∈ news, p.1 ≠ S2.objs.size := fun p hp => (below _ (Nat.lt_trans (Heap.lt_size (N p hp).1) hIlt)).2
  have hklI : kl ≠ s.heap.objs.size := offI _ hm
  have W := Walks.list (prog := prog) (w := w) hh s.heap.objs.size kl hklI kv.toArray
  have F₁ : Fr h₀ env.locals h₁ m := F.keeps fun b o e => old b o (up2 b o e)
  have loop : codeAny (model prog w) A (.compLoop (.ListComp elt [⟨.Tuple [.Name a pa, .Name b pb] kk tp, iter, [c], 0⟩] scope pos) 0 (.ref s.heap.objs.size) (.ref S2.objs.size) (compEnvC scope cl H2.objs.size env))
        (compPost (model prog w) A E (some (assign (.Name y py) env)) (fun _ s' => Q .next s') (.ref S2.objs.size) H2.objs.size) { s with heap := h₁, toks := s.toks + ([] : List (Str × Value)).length } := by
    refine kct_loop
      (fun k s' => ∃ h' tk i m', s' = { s with heap := h', toks := tk } ∧ i ≤ kv.length ∧ k = kv.length + 1 - i ∧ h'.IsListIter s.heap.objs.size kl i ∧ Fr h₀ env.locals h' m ∧ h'.Ns H2.objs.size m' ∧
        News h₀ env.locals h' ((S2.objs.size, lst (pickV tst val i)) :: news)) ?_ (kv.length + 1)
      ⟨h₁, _, 0, _, rfl, Nat.zero_le _, rfl, hit2.at fun o e => old _ o e, F₁, hns₁, fun p hp => ?_⟩
    · rintro k s' ⟨h', tk, i, m', rfl, hi, rfl, hit', F', hn', N'⟩
      have hl' : h'.IsList kl kv.toArray := News.isList N' (.tail _ hm)
      have hfin : ∀ (h₅ : Heap) (tk₅ : Nat) (m₅ : Str → Option Value), i < kv.length → h₅.IsListIter s.heap.objs.size kl (i + 1) → Fr h₀ env.locals h₅ m → h₅.Ns H2.objs.size m₅ → News h₀ env.locals h₅ ((S2.objs.size, lst (pickV tst val (i + 1))) :: news) →
          ∃ q, q < kv.length + 1 - i ∧ ∃ h' tk i m', ({ s with heap := h₅, toks := tk₅ } : Shared) = { s with heap := h', toks := tk } ∧ i ≤ kv.length ∧ q = kv.length + 1 - i ∧ h'.IsListIter s.heap.objs.size kl i ∧ Fr h₀ env.locals h' m ∧ h'.Ns H2.objs.size m' ∧
            News h₀ env.locals h' ((S2.objs.size, lst (pickV tst val i)) :: news) := fun h₅ tk₅ m₅ hlt a1 a2 a3 a4 =>
        ⟨kv.length + 1 - (i + 1), by omega, h₅, tk₅, i + 1, m₅, rfl, hlt, rfl, a1, a2, a3, a4⟩
      by_cases hlt : i < kv.length
      · refine W.item i _ _ _ (by simpa using hlt) ⟨hit', hl'⟩ fun v h₂ tk₂ hP st₂ hk₂ => ?_
        have hv : kv[i]? = some v := by simpa using hP
        obtain ⟨T, x, rfl, hT, hX⟩ := hkv i v hv
        refine letGo_listiter st₂.1 ?_
        have up₂ : ∀ c o, c ≠ s.heap.objs.size → h'.get? c = some o → h₂.get? c = some o := fun c o hc e => hk₂ c o (by simpa using hc) e
        have hT₂ : h₂.IsTuple T #[x, val i] := ⟨_, up₂ _ _ (offI _ hT) (N' _ (.tail _ hT)).1, rfl, 0, rfl⟩
        refine kcp_assign (env := compEnvC scope cl H2.objs.size env) hh hT₂ (lookup_relabel_local hxa) (lookup_relabel_local hxb) (by simp [compEnvC, relabel, hkind]) (hn'.at' fun o e => up₂ _ o (Ne.symm hCI) e) fun h₄ tk₄ hn₄ hs₄ => ?_
        have up : ∀ c o, c ≠ s.heap.objs.size → c ≠ H2.objs.size → h'.get? c = some o → h₄.get? c = some o := fun c o h1 h2 e => hs₄ c o h2 (up₂ c o h1 e)
        have hit₄ : h₄.IsListIter s.heap.objs.size kl (i + 1) := st₂.1.at fun o e => hs₄ _ o hCI e
        have F₄ : Fr h₀ env.locals h₄ m := ⟨F'.ns.at' fun o e => up _ o hIL (Ne.symm hCL) e, fun c o e => up c o (fun q => by rw [q, hI₀] at e; cases e) (fun q => by rw [q, hC₀] at e; cases e) (F'.keep c o e), F'.above⟩
        have N₄ : News h₀ env.locals h₄ ((S2.objs.size, lst (pickV tst val i)) :: news) := fun q hq => by
          have z := N' q hq
          refine ⟨up _ _ ?_ ?_ z.1, z.2⟩
          · rcases List.mem_cons.mp hq with rfl | hq
            · exact Ne.symm hDI
            · exact offI q hq
          · rcases List.mem_cons.mp hq with rfl | hq
            · exact hDC
            · exact offC q hq
        refine wpAny_mono (test i x H2.objs.size _ h₄ tk₄ _ hlt hX hn₄ (by simp [hab]) (by simp) F₄ fun p hp => N₄ p (.tail _ hp)) (fun okb s₅ h₅ => ?_) fun _ _ e => e
        obtain ⟨rfl, tk₅, rfl⟩ := h₅
        cases hb : tst i with
        | false =>
          simp only [Bool.false_eq_true, if_false]
          refine hfin h₄ tk₅ _ hlt hit₄ F₄ hn₄ ?_
          rw [pickV_succ, hb]
          exact N₄
        | true =>
          simp only [if_true]
          refine wpAny_mono (helt i H2.objs.size _ h₄ tk₅ _ hn₄ (by simp)) (fun y s₆ h₆ => ?_) fun _ _ e => e
          obtain ⟨rfl, rfl⟩ := h₆
          have zD := (N₄ _ (.head _)).1
          refine append_at (hsz := by show (pickV tst val i).toArray.size ≤ sizeLine; rw [List.size_toArray]; exact Nat.le_trans pickV_len (Nat.le_trans hi hz)) zD fun h₆ hs₆ hD₆ => ?_
          refine hfin h₆ tk₅ _ hlt (hit₄.at fun o e => hs₆.extBut _ o hDI e) (F₄.change hs₆ hDL hD₀) (hn₄.at' fun o e => hs₆.extBut _ o (Ne.symm hDC) e) fun q hq => ?_
          rcases List.mem_cons.mp hq with rfl | hq
          · refine ⟨?_, hDL, hD₀⟩
            rw [pickV_succ, hb]
            exact hD₆.trans (congrArg some (lst_snoc _ _))
          · exact ⟨hs₆.extBut _ _ (offD q hq) (N₄ q (.tail _ hq)).1, (N₄ q (.tail _ hq)).2⟩
      · have hin : i = kv.length := Nat.le_antisymm hi (Nat.not_lt.mp hlt)
        subst hin
        refine W.done _ _ _ ⟨by simpa using hit', hl'⟩ fun h₂ tk₂ hk₂ => ?_
        have up₂ : ∀ c o, c ≠ s.heap.objs.size → h'.get? c = some o → h₂.get? c = some o := fun c o hc e => hk₂ c o (by simpa using hc) e
        have F₂ : Fr h₀ env.locals h₂ m := fr_but F' hk₂ hIL hI₀
        show wpAny _ A (assign (.Name y py) env (.ref S2.objs.size)) _ _ _
        refine wpAny_assign_Name (wpAny_storeName_local hy F₂.ns (fun h₇ hn₇ hs₇ => ?_) hp)
        have hL₀ : h₀.get? env.locals = none := Heap.get?_none_of_le F₂.above
        have F₇ : Fr h₀ env.locals h₇ (fun z => if z = y then some (.ref S2.objs.size) else m z) := ⟨hn₇, fun b o e => hs₇.extBut b o (fun q => by rw [q, hL₀] at e; cases e) (F₂.keep b o e), F₂.above⟩
        refine ⟨m', (hn'.at' fun o e => up₂ _ o (Ne.symm hCI) e).sameBut hs₇ hCL, fun h'' hs'' => ?_⟩
        refine fin S2.objs.size h'' _ (F₇.change hs'' hCL hC₀) (fun q hq => ?_) fun p hp => Nat.lt_trans (Heap.lt_size (N p hp).1) hIlt
        have z := N' q hq
        refine ⟨hs''.extBut _ _ ?_ (hs₇.extBut _ _ z.2.1 (up₂ _ _ ?_ z.1)), z.2⟩
        · rcases List.mem_cons.mp hq with rfl | hq
          · exact hDC
          · exact offC q hq
        · rcases List.mem_cons.mp hq with rfl | hq
          · exact Ne.symm hDI
          · exact offI q hq
    · rcases List.mem_cons.mp hp with rfl | hp
      · exact ⟨hacc, hDL, hD₀⟩
      · exact ⟨old _ _ (up2 _ _ (N p hp).1), (N p hp).2⟩
  exact codeAny_compStart_list loop (wpAny_pyIter_listiter (hit2.at fun o e => old _ o e) loop)
end
end Mine
end

section
open PySem PySem.W PyProof.Rows PySem.Calls
set_option maxRecDepth 100000
set_option maxHeartbeats 4000000
namespace Mine
/-- the directions of the columns that differ -/
noncomputable def unlikeAt : Nat → List Int → Array UInt8 → Array UInt8 → List Int
  | _, [], _, _ => []
  | j, d :: ds, l, r => if byteI l j ≠ byteI r j then d :: unlikeAt (j + 1) ds l r else unlikeAt (j + 1) ds l r
def diffB (l r : Array UInt8) (j : Nat) : Bool := decide (byteI l j ≠ byteI r j)
noncomputable def pickFrom (tst : Nat → Bool) : Nat → List Value → List Value
  | _, [] => []
  | j, v :: vs => if tst j = true then v :: pickFrom tst (j + 1) vs else pickFrom tst (j + 1) vs
theorem pickFrom_snoc (tst : Nat → Bool) (v : Value) : ∀ (vs : List Value) (j : Nat), pickFrom tst j (vs ++ [v]) = if tst (j + vs.length) = true then pickFrom tst j vs ++ [v] else pickFrom tst j vs
  | [], j => by simp [pickFrom]
  | x :: xs, j => by
    rw [List.cons_append, pickFrom, pickFrom, pickFrom_snoc tst v xs (j + 1)]
    have e : j + 1 + xs.length = j + (x :: xs).length := by simp; omega
    rw [e]
    split <;> split <;> simp_all
theorem pickV_eq (tst : Nat → Bool) (dv : List Value) : ∀ n, n ≤ dv.length → pickV tst (fun i => dv.getD i .none) n = pickFrom tst 0 (dv.take n)
  | 0, _ => by simp [pickV, pickFrom]
  | n + 1, h => by
    have hlt : n < dv.length := h
    rw [pickV_succ, pickV_eq tst dv n (Nat.le_of_lt hlt), List.take_add_one, List.getElem?_eq_getElem hlt]
    simp only [Option.toList_some]
    rw [pickFrom_snoc, Nat.zero_add, List.length_take, Nat.min_eq_left (Nat.le_of_lt hlt), List.getD_eq_getElem?_getD, List.getElem?_eq_getElem hlt]
    rfl
theorem ints_pick {l r : Array UInt8} {dv : List Value} {ds : List Int} (h : IntsAre dv ds) : ∀ j, IntsAre (pickFrom (diffB l r) j dv) (unlikeAt j ds l r) := by
  induction h with
  | nil => intro j; exact .nil
  | cons _ _ _ ih =>
    intro j
    rw [pickFrom, unlikeAt]
    by_cases hd : byteI l j ≠ byteI r j
    · rw [if_pos (by simpa [diffB] using hd), if_pos hd]; exact .cons _ _ (ih _)
    · rw [if_neg (by simpa [diffB] using hd), if_neg hd]; exact ih _
theorem KeysAre.vals {j : Nat} {vs : List Value} {ds : List Int} {os : List (Addr × Obj)} (h : KeysAre j vs ds os) : ∃ dv : List Value, IntsAre dv ds ∧ dv.length = vs.length ∧ ∀ i v, vs[i]? = some v → ∃ k t, v = .ref k ∧ (k, tupO [.int ((j + i : Nat) : Int) t, dv.getD i .none]) ∈ os := by
  induction h with
  | nil => exact ⟨[], .nil, rfl, fun i v hv => by simp at hv⟩
  | @cons j k t u d vs ds os _ ih =>
    obtain ⟨dv, h1, h2, h3⟩ := ih
    refine ⟨.int d u :: dv, .cons _ _ h1, by simp [h2], fun i v hv => ?_⟩
    cases i with
    | zero => simp at hv; exact ⟨k, t, hv.symm, by simp⟩
    | succ i =>
      obtain ⟨k', t', e1, e2⟩ := h3 i v (by simpa using hv)
      refine ⟨k', t', e1, List.mem_cons_of_mem _ ?_⟩
      have : j + 1 + i = j + (i + 1) := by omega
      rw [← this]
      simpa using e2
end Mine
end

section
open PySem PySem.W PyProof.Rows PySem.Calls
set_option maxRecDepth 100000
set_option maxHeartbeats 8000000
namespace Mine
theorem fill2 (w : World) (h₀ : Heap) : (Hd.hd.heap_39 w.params).In h₀ → PySem.Challenge.rw_pg0018_01.row.prog = PySem.Challenge.rw_pg0018_01.row.prog := by k_fill; intro _; rfl

/-- rows and fractions, side by side -/
inductive RFAre : List Value → List Value → List (Array UInt8 × Int × Int) → List (Addr × Obj) → Prop
  | nil : RFAre [] [] [] []
  | cons {b : Array UInt8} {t tp tq : Tok} {f : Addr} {p q : Int} {rv fv : List Value} {xs : List (Array UInt8 × Int × Int)} {os : List (Addr × Obj)} : RFAre rv fv xs os → RFAre (.bytes b t :: rv) (.ref f :: fv) ((b, p, q) :: xs) ((f, tupO [.int p tp, .int q tq]) :: os)
theorem RFAre.get {rv fv : List Value} {xs : List (Array UInt8 × Int × Int)} {os : List (Addr × Obj)} (h : RFAre rv fv xs os) : ∀ (i : Nat) (x : Itm), (zipItems rv fv)[i]? = some x → ∃ b t f p q tp tq, x = .pair (fun _ => .bytes b t) (.ref f) ∧ (b, p, q) ∈ xs ∧ (f, tupO [.int p tp, .int q tq]) ∈ os := by
  induction h with
  | nil => intro i x hx; simp [zipItems] at hx
  | @cons b t tp tq f p q rv fv xs os _ ih =>
    intro i x hx
    cases i with
    | zero =>
      have : Itm.pair (fun _ => .bytes b t) (.ref f) = x := by simpa [zipItems] using hx
      exact ⟨b, t, f, p, q, tp, tq, this.symm, .head _, .head _⟩
    | succ i =>
      obtain ⟨b', t', f', p', q', tp', tq', e, h1, h2⟩ := ih i x (by simpa [zipItems] using hx)
      exact ⟨b', t', f', p', q', tp', tq', e, .tail _ h1, .tail _ h2⟩
theorem allLt_ne {x : Addr} : ∀ {l : List (Addr × Obj)}, AllLt x l → ∀ p ∈ l, p.1 ≠ x
  | [], _, _, h => nomatch h
  | q :: r, a, p, h => by
    rcases List.mem_cons.mp h with rfl | h
    · exact Nat.ne_of_lt a.1
    · exact allLt_ne a.2 p h

theorem addr_lt {x : Addr} {l : List (Addr × Obj)} (h : ∀ p ∈ l, p.1 < x) : ∀ y ∈ l.map (·.1), y < x := fun y hy => by
  obtain ⟨p, hp, rfl⟩ := List.mem_map.mp hy
  exact h p hp
def signI (x y : Int) : Int := b2i (decide (y < x)) - b2i (decide (x < y))
def dueI (us : List Int) (sg : Int) : Int := match us with
  | [] => 0
  | u :: _ => sg * (if u < 0 then -u else u)
def GoodPair (ds : List Int) (r r' : Array UInt8 × Int × Int) : Prop :=
  cmpAt 0 ds r.1 r'.1 = (if ds.headD 0 > 0 then dueI (unlikeAt 0 ds r.1 r'.1) (signI (r.2.1 * r'.2.2) (r'.2.1 * r.2.2)) else - dueI (unlikeAt 0 ds r.1 r'.1) (signI (r.2.1 * r'.2.2) (r'.2.1 * r.2.2)))

local macro_rules | `(tactic| k_lt $h) => `(tactic| (replace $h := allLt_of $h; simp only [AllLt, and_true] at $h:ident; (have kz := $h); (repeat (replace kz := And.right kz))))
local macro_rules | `(tactic| k_all) => `(tactic| first | assumption | exact allLt_ne (by assumption))

local macro_rules | `(tactic| walk_at "call ref") => `(tactic| (k_here; (with_reducible show wpAny _ _ (call (Value.ref 35) _) _ _ _); k_dflt (refine' cmp_call ?B ?F ?X ?N ?T ?hk ?hK ?hsub ?hl ?hr ?hlz ?hrz ?_; (case B => k_asm); (case F => k_asm); (case X => k_asm); (case N => k_asm); (case T => k_asm); (case hk => exact rfl); (case hK => assumption); (case hsub => exact fun q hq => by repeat (first | exact hKsub q hq | refine List.Mem.tail _ ?_)); (case hl => assumption); (case hr => assumption); (case hlz => assumption); (case hrz => assumption); k_whole); intro t' h' tk' F' N'; (try k_sweep)))

theorem tells_call {w : World} {loose : List Str} {mean : ExcName → Option Value} {mg mb : Str → Option Value} {cn : Str} {cs : Scope} {a : Addr} {ccd : Value} {cl : List (Str × Addr)} {base h₀ : Heap} {L : Addr} {m : Str → Option Value} {s : Shared} {Q E : Value → Shared → Prop} {news : List (Addr × Obj)}
   {kl rl fl : Addr} {kv rv fv : List Value} {nk nr nf : Nat} {ds : List Int} {kos fos : List (Addr × Obj)} {xs : List (Array UInt8 × Int × Int)}
    (B : Below callerA base [] h₀) (F : Fr h₀ L s.heap m) (X : (Hd.hd.heap_39 w.params).In h₀) (N : News h₀ L s.heap news) (T : Top Hd.hd.view_39 loose mean mg mb h₀) (hk : cs.kind = .function)
    (hK : KeysAre 0 kv ds kos) (hR : RFAre rv fv xs fos) (hsub : ∀ q ∈ (kl, listOf kv.toArray nk) :: (rl, listOf rv.toArray nr) :: (fl, listOf fv.toArray nf) :: (kos ++ fos), q ∈ news)
    (hds : ds ≠ []) (hdz : ds.length ≤ 1000) (hsz : ∀ r ∈ xs, ds.length ≤ r.1.size ∧ r.1.size ≤ 1000 ∧ 0 ≤ r.2.1 ∧ r.2.1 < 2 ^ 60 ∧ 0 ≤ r.2.2 ∧ r.2.2 < 2 ^ 60) (good : ∀ r ∈ xs, ∀ r' ∈ xs, GoodPair ds r r')
    (ret : ∀ h' tk', Fr h₀ L h' m → News h₀ L h' news → Q (.bool true) { s with heap := h', toks := tk' }) :
    wpAny (model PG w) (callerA.deeper (envX cn cs L a ccd cl)) (call (.ref 66) [.ref kl, .ref rl, .ref fl]) Q E s := by
  w_top off
  refine wpAny_call ?_
  obtain ⟨k0, tk0, tk0', d0, kv', ds', kos', rfl, rfl, rfl, hKT⟩ : ∃ k0 t0 u0 d0 kv' ds' kos', kv = .ref k0 :: kv' ∧ ds = d0 :: ds' ∧ kos = (k0, tupO [.int ((0 : Nat) : Int) t0, .int d0 u0]) :: kos' ∧ KeysAre 1 kv' ds' kos' := by
    cases hK with
    | nil => exact absurd rfl hds
    | cons h => exact ⟨_, _, _, _, _, _, _, rfl, rfl, rfl, h⟩
  simp only [List.cons_append] at hsub
  k_dflt (refine' code_R _ hsub ?k1 ?k2 ?k3 ?k4 ?k5 ?kA ?kF ?kK ?k6 ?k7 ?k8 ?k9 ?kB ?kD ?_ ?c2 ?c3 ?c4; (case kA => exact rfl); (case kF => exact rfl); (case kK => first | exact rfl | assumption); (case k1 => k_asm); (case k2 => k_asm); (case k3 => k_asm); (case k4 => k_asm); (case k5 => k_asm); (case k6 => k_is); (case k7 => k_is); (case k8 => k_room); (case k9 => first | exact BindsTo.of_eq rfl | fail "k_enter: no rule for these arguments"); (case kB => exact rfl); (case kD => decide +kernel); (case c2 => exact rfl); (case c3 => exact rfl); (case c4 => exact rfl); k_whole; intro g' L' h' tk' cells' F' N' Y' B' X' T' lL; k_cells Y'; (try simp only [List.cons_append, List.nil_append] at N'); (try dsimp only))
  have lL2 := allLt_of lL
  simp only [AllLt] at lL2
  have off1 : ∀ p ∈ kos' ++ fos, p.1 ≠ L' + 1 := fun p hp => Nat.ne_of_lt (Nat.lt_succ_of_lt (lL p (.tail _ (.tail _ (.tail _ (.tail _ hp))))))
  have off2 : ∀ p ∈ kos' ++ fos, p.1 ≠ L' + 1 + 1 := fun p hp => Nat.ne_of_lt (Nat.lt_succ_of_lt (Nat.lt_succ_of_lt (lL p (.tail _ (.tail _ (.tail _ (.tail _ hp)))))))
  rename_i oo oe hoo hoe
  (iterate 22 (first | (k_unfold; (try dsimp only)) | walk1))
  rename_i xo dx h2 l1 kz l2 g2 L2 h3 B2 X2 T2 tk2 h4 F4 N4 Tc kX h₁ F₁ N₁
  clear F4 N4 B2 X2 T2 Tc kX qk ek h4
  with_unfolding_all refine For_turns F₁ ?_
  (iterate 8 walk1)
  with_unfolding_all refine ktu_zip (lo1 := listOf rv.toArray nr) (lo2 := listOf fv.toArray nf) (xs := rv) (ys := fv) (by rfl) F₁ N₁ (by k_mem) (by rfl) (by rfl) (by k_mem) (by rfl) (by rfl) ?_
  intro I lI
  have lI2 := allLt_of lI
  simp only [AllLt] at lI2
  have lA := addr_lt lI
  dsimp only [List.map] at lA
  refine items_runS [Str.ofString "above", Str.ofString "below", Str.ofString "top", Str.ofString "bottom", Str.ofString "unlike", Str.ofString "sign", Str.ofString "due", Str.ofString "told"] (fun i n' => ∃ o1 o2 c1 c2, o1.data = .cell c1 ∧ o2.data = .cell c2 ∧ n' = (xo, instObj 38 dx) :: (dx, compD w _ kl) :: (L' + 1 + 1, o1) :: (L' + 1, o2) :: (kl, listOf (.ref k0 :: kv').toArray nk) :: (rl, listOf rv.toArray nr) :: (fl, listOf fv.toArray nf) :: (k0, tupO [.int ((0 : Nat) : Int) tk0, .int d0 tk0']) :: (kos' ++ fos)) ?_ ?_ _ ⟨oo, oe, _, _, hoo, hoe, rfl⟩
  · rintro i it u n' hit ⟨o1, o2, c1, c2, ho1, ho2, rfl⟩ v h₃ tk₃ hv F₃
    obtain ⟨b, t, f, p, q, tp, tq, rfl, hx, hf⟩ := hR.get i it hit
    obtain ⟨TT, _, rfl, hT⟩ := hv
    refine AllObj.cons (fun z1 hz1 => AllObj.cons (fun z2 hz2 => AllObj.cons (fun z3 hz3 => AllObj.cons (fun z4 hz4 => AllObj.cons (fun z5 hz5 => AllObj.nil (fun N₃ => ?_))))))
    simp only [List.cons_append, List.nil_append] at N₃
    replace F₃ : Fr g' L' h₃ _ := F₃
    replace N₃ : News g' L' h₃ _ := N₃
    clear F₁ N₁
    refine unpackN_ F₃ N₃ hT rfl rfl rfl ?_
    intro h₄ F₄ N₄
    dsimp only
    have hff : (f, tupO [.int p tp, .int q tq]) ∈ kos' ++ fos := List.mem_append_right _ hf
    (iterate 4 walk1)
    rename_i h₅ oe' F₅ N₅ hoe'
    dsimp only
    refine unpackN_ F₅ N₅ (News.isTup N₅ (.tail _ (.tail _ (.tail _ (.tail _ (.tail _ (.tail _ (.tail _ (.tail _ (.tail _ (.tail _ (.tail _ (.tail _ (.tail _ hff)))))))))))))) rfl rfl rfl ?_
    intro h₆ F₆ N₆
    dsimp only
    clear F₅ N₅
    (iterate 10 walk1)
    rename Fr g' L' _ _ => F₇
    rename News g' L' _ _ => N₇
    with_unfolding_all refine For_turns F₇ ?_
    (iterate 8 walk1)
    with_unfolding_all refine ktu_zip (lo1 := listOf rv.toArray nr) (lo2 := listOf fv.toArray nf) (xs := rv) (ys := fv) (by rfl) F₇ N₇ (by k_mem) (by rfl) (by rfl) (by k_mem) (by rfl) (by rfl) ?_
    intro I' lI'
    have lI2' := allLt_of lI'
    simp only [AllLt] at lI2'
    have lA' := addr_lt lI'
    dsimp only [List.map] at lA'
    refine items_runS [Str.ofString "top", Str.ofString "bottom", Str.ofString "unlike", Str.ofString "sign", Str.ofString "due", Str.ofString "told"] (fun i n' => ∃ o1 c1, o1.data = .cell c1 ∧ n' = (I + 4, z1) :: (I + 2, z2) :: (I + 3, z3) :: (I, z4) :: (I + 1, z5) :: (xo, instObj 38 dx) :: (dx, compD w _ kl) :: (L' + 1 + 1, o1) :: (L' + 1, oe') :: (kl, listOf (.ref k0 :: kv').toArray nk) :: (rl, listOf rv.toArray nr) :: (fl, listOf fv.toArray nf) :: (k0, tupO [.int ((0 : Nat) : Int) tk0, .int d0 tk0']) :: (kos' ++ fos)) ?_ ?_ _ ⟨o1, _, ho1, rfl⟩
    · rintro i' it' u' n' hit' ⟨o1', c1', ho1', rfl⟩ v' h₈ tk₈ hv' F₈
      obtain ⟨b', t', f', p', q', tp', tq', rfl, hx', hf'⟩ := hR.get i' it' hit'
      obtain ⟨TT', _, rfl, hT'⟩ := hv'
      refine AllObj.cons (fun y1 hy1 => AllObj.cons (fun y2 hy2 => AllObj.cons (fun y3 hy3 => AllObj.cons (fun y4 hy4 => AllObj.cons (fun y5 hy5 => AllObj.nil (fun N₈ => ?_))))))
      simp only [List.cons_append, List.nil_append] at N₈
      replace F₈ : Fr g' L' h₈ _ := F₈
      replace N₈ : News g' L' h₈ _ := N₈
      clear F₇ N₇
      refine unpackN_ F₈ N₈ hT' rfl rfl rfl ?_
      intro h₉ F₉ N₉
      dsimp only
      have hff' : (f', tupO [.int p' tp', .int q' tq']) ∈ kos' ++ fos := List.mem_append_right _ hf'
      (iterate 4 walk1)
      rename_i h₁₀ oo' F₁₀ N₁₀ hoo'
      dsimp only
      refine unpackN_ F₁₀ N₁₀ (News.isTup N₁₀ (.tail _ (.tail _ (.tail _ (.tail _ (.tail _ (.tail _ (.tail _ (.tail _ (.tail _ (.tail _ (.tail _ (.tail _ (.tail _ (.tail _ (.tail _ (.tail _ (.tail _ (.tail _ hff'))))))))))))))))))) rfl rfl rfl ?_
      intro h₁₁ F₁₁ N₁₁
      dsimp only
      clear F₁₀ N₁₀
      (iterate 9 walk1)
      walk1
      rename Fr g' L' _ _ => F₁₂
      rename News g' L' _ _ => N₁₂
      obtain ⟨dv, hdv, hdl, hdk⟩ := hK.vals
      obtain ⟨hz1, hz2, hz3, hz4, hz5, hz6⟩ := hsz _ hx
      obtain ⟨hw1, hw2, hw3, hw4, hw5, hw6⟩ := hsz _ hx'
      dsimp only at hz1 hz2 hz3 hz4 hz5 hz6 hw1 hw2 hw3 hw4 hw5 hw6
      have hKn : (Value.ref k0 :: kv').length = (d0 :: ds').length := hK.len
      k_dflt (refine flt_assign (kl := kl) (kv := .ref k0 :: kv') (nk := nk) (tst := diffB b b') (val := fun i => dv.getD i .none) (X := fun i x => ∃ t, x = .int (i : Int) t) rfl (by rfl) (by rfl) (by rfl) rfl F₁₂ N₁₂ (by k_mem) (by rw [hKn, sizeLine_eq]; omega) ?_ (by rfl) (by decide) (by rfl) (by decide) (by rfl) (by rfl) (by decide) ?_ ?_ ?_ ?_ (by intro _; rfl))
      · intro j v hv
        obtain ⟨k, tt, rfl, hm⟩ := hdk j v hv
        rw [Nat.zero_add] at hm
        exact ⟨k, _, rfl, (.tail _ (.tail _ (.tail _ (.tail _ (.tail _ (.tail _ (.tail _ (.tail _ (.tail _ (.tail _ (.tail _ (.tail _ (.tail _ (.tail _ (.tail _ (.tail _ (.tail _ (List.mem_append_left fos hm)))))))))))))))))), ⟨tt, rfl⟩⟩
      · intro Q' hQ'
        walk1
        exact hQ'
      · rintro j x C m₂ h tk E' hj ⟨tx, rfl⟩ hns ha hb Fh Nh
        clear F₁₂ N₁₂
        (iterate 4 walk1)
        refine byte_item (j := j) rfl (by omega) (by omega) ?_
        intro t5 k5
        (iterate 3 walk1)
        refine byte_item (j := j) rfl (by omega) (by omega) ?_
        intro t6 k6
        (iterate 2 walk1)
        refine ⟨?_, _, rfl⟩
        unfold diffB
        by_cases hq : byteI b j = byteI b' j <;> simp [hq]
      · intro j C m₂ h tk E' hns hb
        refine wpAny_Name (wpAny_loadName_local rfl rfl hns hb ⟨rfl, rfl⟩) (by decide)
      · intro D hD tkD FD ND lD
        have hys : IntsAre (pickV (diffB b b') (fun i => dv.getD i .none) (Value.ref k0 :: kv').length) (unlikeAt 0 (d0 :: ds') b b') := by
          rw [pickV_eq _ _ _ (Nat.le_of_eq hdl.symm), ← hdl, List.take_length]
          exact ints_pick hdv 0
        generalize pickV (diffB b b') (fun i => dv.getD i .none) (Value.ref k0 :: kv').length = ys at ND hys
        clear F₁₂ N₁₂
        have hKsub : ∀ q ∈ (xo, instObj 38 dx) :: (dx, compD w (tk2 + 1) kl) :: (kl, listOf (.ref k0 :: kv').toArray nk) :: (k0, tupO [.int ((0 : Nat) : Int) tk0, .int d0 tk0']) :: kos', q ∈ (xo, instObj 38 dx) :: (dx, compD w (tk2 + 1) kl) :: (L' + 1 + 1, oo') :: (L' + 1, oe') :: (kl, listOf (.ref k0 :: kv').toArray nk) :: (rl, listOf rv.toArray nr) :: (fl, listOf fv.toArray nf) :: (k0, tupO [.int ((0 : Nat) : Int) tk0, .int d0 tk0']) :: (kos' ++ fos) := by
          intro q hq
          simp only [List.mem_cons, List.mem_append] at hq ⊢
          rcases hq with h | h | h | h | h <;> simp [h]
        (iterate 25 walk1)
        generalize hus : unlikeAt 0 (d0 :: ds') b b' = us at hys
        cases hys with
        | nil =>
          (iterate 26 walk1)
          rename Fr g' L' _ _ => F₁₃
          rename News g' L' _ _ => N₁₃
          k_dflt (refine cmp_call B' F₁₃ X' N₁₃ T' rfl hK (fun q hq => by repeat (first | exact hKsub q hq | refine List.Mem.tail _ ?_)) hz1 hw1 hz2 hw2 ?_)
          intro t14 h14 tk14 F₁₄ N₁₄
          clear F₁₃ N₁₃
          have hg := good _ hx _ hx'
          unfold GoodPair at hg
          dsimp only at hg
          rw [hus] at hg
          simp only [dueI, List.headD_cons, Int.neg_zero, ite_self] at hg
          k_steps
          all_goals first
            | (exfalso; (try simp only [ite_self] at hg); omega)
            | skip
          all_goals
              refine unrEndW_keep (by assumption) (by assumption) (fun p hp => .tail _ (.tail _ hp)) (fun p hp q hq => ?_) ⟨⟨by k_mem, by k_mem, trivial⟩, fun y hy => ?_, ⟨_, _, hoo', rfl⟩⟩
              · have hlt := lA' p.1 (List.mem_map_of_mem (f := (·.1)) hp)
                simp only [List.mem_cons, List.not_mem_nil, or_false] at hq
                rcases hq with rfl | rfl | rfl | rfl | rfl <;> (dsimp only; first | exact ktu_ne _ hlt | exact Nat.ne_of_lt hlt)
              · simp only [List.contains_cons, List.contains_nil, Bool.or_false, Bool.or_eq_false_iff, beq_eq_false_iff_ne, ne_eq] at hy
                obtain ⟨e1, e2, e3, e4, e5, e6⟩ := hy
                simp [e1, e2, e3, e4, e5, e6]
        | cons u0 t0 hys' =>
          (iterate 12 walk1)
          · exfalso; simp at *
          (iterate 12 walk1)
          refine PyProof.Rows.mul_int ?_ (IntMulOk.of_left (intBits_le_64 (by unfold b2i; (repeat' split) <;> omega) (by unfold b2i; (repeat' split) <;> omega)))
          (iterate 14 walk1)
          rename Fr g' L' _ _ => F₁₃
          rename News g' L' _ _ => N₁₃
          k_dflt (refine cmp_call B' F₁₃ X' N₁₃ T' rfl hK (fun q hq => by repeat (first | exact hKsub q hq | refine List.Mem.tail _ ?_)) hz1 hw1 hz2 hw2 ?_)
          intro t14 h14 tk14 F₁₄ N₁₄
          clear F₁₃ N₁₃
          have hg := good _ hx _ hx'
          unfold GoodPair at hg
          dsimp only at hg
          rw [hus] at hg
          simp only [dueI, List.headD_cons, signI] at hg
          have hg1 := fun (h : 0 < d0) => hg.trans (if_pos h)
          have hg2 := fun (h : ¬ 0 < d0) => hg.trans (if_neg h)
          k_steps
          all_goals first
            | exact absurd (hg1 (by assumption)) (by assumption)
            | exact absurd (hg2 (by assumption)) (by assumption)
            | skip
          all_goals
              refine unrEndW_keep (by assumption) (by assumption) (fun p hp => .tail _ (.tail _ hp)) (fun p hp q hq => ?_) ⟨⟨by k_mem, by k_mem, trivial⟩, fun y hy => ?_, ⟨_, _, hoo', rfl⟩⟩
              · have hlt := lA' p.1 (List.mem_map_of_mem (f := (·.1)) hp)
                simp only [List.mem_cons, List.not_mem_nil, or_false] at hq
                rcases hq with rfl | rfl | rfl | rfl | rfl <;> (dsimp only; first | exact ktu_ne _ hlt | exact Nat.ne_of_lt hlt)
              · simp only [List.contains_cons, List.contains_nil, Bool.or_false, Bool.or_eq_false_iff, beq_eq_false_iff_ne, ne_eq] at hy
                obtain ⟨e1, e2, e3, e4, e5, e6⟩ := hy
                simp [e1, e2, e3, e4, e5, e6]
    · rintro u' n' h₈ tk₈ ⟨o1', c1', ho1', rfl⟩ F₈ N₈
      clear F₇ N₇
      replace F₈ : Fr g' L' h₈ _ := F₈
      replace N₈ : News g' L' h₈ _ := N₈
      dsimp only
      k_steps
      refine unrEndW_keep (by assumption) (by assumption) (fun p hp => hp) (fun p hp q hq => ?_) ⟨⟨by k_mem, by k_mem, trivial⟩, fun y hy => ?_, ⟨_, _, _, _, ho1', hoe', rfl⟩⟩
      · have hlt := lA p.1 (List.mem_map_of_mem (f := (·.1)) hp)
        simp only [List.mem_cons, List.not_mem_nil, or_false] at hq
        rcases hq with rfl | rfl | rfl | rfl | rfl <;> (dsimp only; first | exact ktu_ne _ hlt | exact Nat.ne_of_lt hlt)
      · simp only [List.contains_cons, List.contains_nil, Bool.or_false, Bool.or_eq_false_iff, beq_eq_false_iff_ne, ne_eq] at hy
        obtain ⟨e1, e2, e3, e4, e5, e6, e7, e8⟩ := hy
        simp [e1, e2, e3, e4, e5, e6, e7, e8]
  · rintro u n' h₃ tk₃ ⟨o1, o2, c1, c2, ho1, ho2, rfl⟩ F₃ N₃
    clear F₁ N₁
    replace F₃ : Fr g' L' h₃ _ := F₃
    replace N₃ : News g' L' h₃ _ := N₃
    dsimp only
    k_steps
    refine endR_val (by assumption) (by assumption) (fun p hp => .tail _ (.tail _ (.tail _ (.tail _ hp)))) (fun F9 N9 => ret _ _ F9 N9)
end Mine
end

section
open PySem PySem.W PyProof.Rows PySem.Calls
set_option maxRecDepth 100000
set_option maxHeartbeats 8000000
namespace Mine
theorem fill3 (w : World) (h₀ : Heap) : (Hd.hd.heap_39 w.params).In h₀ → PySem.Challenge.rw_pg0018_01.row.prog = PySem.Challenge.rw_pg0018_01.row.prog := by k_fill; intro _; rfl

/-- (last, above) of _law_above, over the terms taken -/
def contF (ns : List Int) : Int × Int := ns.foldl (fun p t => (p.2, t * p.2 + p.1)) (0, 1)
theorem contF_snoc (ns : List Int) (t : Int) : contF (ns ++ [t]) = ((contF ns).2, t * (contF ns).2 + (contF ns).1) := by simp [contF]

theorem above_call {w : World} {loose : List Str} {mean : ExcName → Option Value} {mg mb : Str → Option Value} {cn : Str} {cs : Scope} {a : Addr} {ccd : Value} {cl : List (Str × Addr)} {base h₀ : Heap} {L : Addr} {m : Str → Option Value} {s : Shared} {Q E : Value → Shared → Prop} {news : List (Addr × Obj)}
   {l : Addr} {vs : List Value} {ns : List Int} {n : Nat}
    (B : Below callerA base [] h₀) (F : Fr h₀ L s.heap m) (X : (Hd.hd.heap_39 w.params).In h₀) (N : News h₀ L s.heap news) (T : Top Hd.hd.view_39 loose mean mg mb h₀) (hk : cs.kind = .function)
    (hm : (l, listOf vs.toArray n) ∈ news) (hi : IntsAre vs ns) (hb : ∀ x ∈ ns, 1 ≤ x ∧ x ≤ 255)
    (ret : ∀ x t u h' tk', Fr h₀ L h' m → News h₀ L h' ((x, tupO [.int (contF ns).2 t, .int (contF ns).1 u]) :: news) → (∀ p ∈ news, p.1 ≠ x) → Q (.ref x) { s with heap := h', toks := tk' }) :
    wpAny (model PG w) (callerA.deeper (envX cn cs L a ccd cl)) (call (.ref 61) [.ref l]) Q E s := by
  w_top off
  refine wpAny_call ?_
  k_dflt (refine' code_R [(l, listOf vs.toArray n)] (fun q hq => List.mem_singleton.mp hq ▸ hm) ?k1 ?k2 ?k3 ?k4 ?k5 ?kA ?kF ?kK ?k6 ?k7 ?k8 ?k9 ?kB ?kD ?_ ?c2 ?c3 ?c4; (case kA => exact rfl); (case kF => exact rfl); (case kK => first | exact rfl | assumption); (case k1 => k_asm); (case k2 => k_asm); (case k3 => k_asm); (case k4 => k_asm); (case k5 => k_asm); (case k6 => k_is); (case k7 => k_is); (case k8 => k_room); (case k9 => first | exact BindsTo.of_eq rfl | fail "k_enter: no rule for these arguments"); (case kB => exact rfl); (case kD => decide +kernel); (case c2 => exact rfl); (case c3 => exact rfl); (case c4 => exact rfl); k_whole; intro g' L' h' tk' cells' F' N' Y' B' X' T' lL; cases Y'; (try simp only [List.nil_append] at N'); (try dsimp only))
  (iterate 19 walk1)
  rename Fr g' L' _ _ => F₁
  rename News g' L' _ _ => N₁
  replace N₁ : News g' L' _ [(l, listOf vs.toArray n)] := fun p hp => N₁ p (.tail _ hp)
  with_unfolding_all refine For_turns F₁ ?_
  walk1
  with_unfolding_all refine iter_listTurns (lo := listOf vs.toArray n) (vs := vs) (by rfl) F₁ N₁ (.head _) (by rfl) (by rfl) ?_
  intro I lI
  refine items_run2 [Str.ofString "term"] (Str.ofString "last") (Str.ofString "above") (fun i v1 v2 n' => n' = [(l, listOf vs.toArray n)] ∧ ∃ t u, v1 = .int (contF (ns.take i)).1 t ∧ v2 = .int (contF (ns.take i)).2 u) ?_ ?_ _ _ _ (by rfl) (by rfl) ⟨rfl, _, _, by rfl, by rfl⟩
  · rintro i it u v1 v2 n' hit ⟨rfl, t1, t2, rfl, rfl⟩ v h₁ tk₁ hv F₂
    obtain ⟨v', hv', rfl⟩ : ∃ v', vs[i]? = some v' ∧ Itm.val v' = it := by simpa using hit
    obtain rfl : v = v' := hv
    obtain ⟨x, tx, rfl, hx⟩ := IntsAre.at hi i v hv'
    have hxb := hb x (List.mem_of_getElem? hx)
    have htake : contF (ns.take (i + 1)) = ((contF (ns.take i)).2, x * (contF (ns.take i)).2 + (contF (ns.take i)).1) := by
      rw [List.take_add_one, hx]
      exact contF_snoc _ _
    refine AllObj.cons (fun oI hoI => AllObj.nil (fun N₂ => ?_))
    simp only [List.cons_append, List.nil_append] at N₂
    replace F₂ : Fr g' L' h₁ _ := F₂
    replace N₂ : News g' L' h₁ _ := N₂
    clear F₁ N₁
    k_steps
    refine unrEndW_keep (by assumption) (by assumption) (fun p hp => .tail _ hp) (fun p hp q hq => ?_) ⟨⟨by k_mem, trivial⟩, fun y hy e1 e2 => ?_, _, _, by rfl, by rfl, rfl, by rw [htake]; exact ⟨_, _, rfl, rfl⟩⟩
    · rw [List.mem_singleton.mp hq]; exact Nat.ne_of_lt (lI p hp)
    · simp only [List.contains_cons, List.contains_nil, Bool.or_false, beq_eq_false_iff_ne, ne_eq] at hy
      simp [hy, e1, e2]
  · rintro u v1 v2 n' h₁ tk₁ ⟨rfl, t1, t2, rfl, rfl⟩ F₂ N₂
    replace F₂ : Fr g' L' h₁ _ := F₂
    replace N₂ : News g' L' h₁ _ := N₂
    clear F₁ N₁
    have hln : ns.take (List.map Itm.val vs).length = ns := by rw [List.length_map, hi.length, List.take_length]
    rw [hln] at F₂
    dsimp only
    k_steps
    rename_i x h₂ F₃ N₃ l1
    refine endR_new [(x, _)] F₃ N₃ (fun p hp => by rw [List.mem_singleton.mp hp]; exact List.Mem.head _) (fun p hp => .tail _ hp) (fun p hp q hq => ?_) (fun F9 N9 off => ret x _ _ _ _ F9 N9 (fun p hp => off p hp _ (.head _)))
    rw [List.mem_singleton.mp hq, List.mem_singleton.mp hp]
    exact Nat.ne_of_lt (by omega)
end Mine
end

section
open PySem PySem.W PyProof.Rows PySem.Calls
set_option maxRecDepth 100000
set_option maxHeartbeats 4000000
namespace Mine
open Sem (wp)
theorem ba_mro : mroOf (.type "bytearray") = pure [.type "bytearray", .type "object"] := by rw [mroOf_type]; kernel_rfl
theorem ba_lookup_new : typeLookup (.type "bytearray") "__new__" = pure (some (.builtin "bytearray.__new__")) := by rw [typeLookup_type, builtinLookup_eq_fast]; kernel_rfl
theorem ba_sub : isSubtype (.type "bytearray") (.type "bytearray") = pure true := by rw [isSubtype_type]; kernel_rfl
theorem ba_slot_init : Slot "bytearray" "__init__" "bytearray.__init__" :=
  .of (owner := "bytearray") (n := "__init__") (by rw [typeLookup_type, builtinLookup_eq_fast]; kernel_rfl) (by decide +kernel) (by decide +kernel) (by decide +kernel)
    (by first | exact .inl (by decide +kernel) | exact .inr (by decide +kernel)) (by rw [isSubtype_type]; kernel_rfl)
theorem ba_called : TypeCalled "bytearray" "bytearray.__new__" "bytearray.__init__" :=
  ⟨by decide +kernel, by decide +kernel, ⟨_, _, ba_mro⟩, madeBy_type ba_mro ba_lookup_new (by decide +kernel), by decide +kernel, ba_sub, ba_slot_init⟩
theorem ba_typeCall (a : Value) : checkTypeCall "bytearray" ⟨[a], []⟩ = pure () := by kernel_rfl
theorem ba_newCall (a : Value) : checkBuiltinCall "bytearray.__new__" ⟨[.type "bytearray", a], []⟩ = pure () := by kernel_rfl
theorem ba_entry_new : entryFor table "bytearray.__new__" = some Builtin.«list.__new__» :=
  entryFor_alias (id' := "list.__new__") (by kernel_rfl) (by first | rfl | decide +kernel | (unfold String.splitOn; simp +decide [String.splitOnAux])) (by decide +kernel) (by kernel_rfl)
theorem ba_plain_new : plainId "bytearray.__new__" = true := by decide +kernel
theorem ba_entry_init : entryFor table "bytearray.__init__" = some Builtin.«bytearray.__init__» := by first | exact entryFor_of_fast (by kernel_rfl) | exact entryFor_of_tree (by kernel_rfl)
set_option maxRecDepth 1000000 in
theorem ba_owner_new : ("bytearray.__new__".splitOn ".__new__").headD "" = "bytearray" := by simp +decide [String.splitOn, String.splitOnAux]
theorem ba_look_release : typeLookup (.type "bytearray") "__release_buffer__" = pure (some (.builtin "bytearray.__release_buffer__")) := by rw [typeLookup_type, builtinLookup_eq_fast]; kernel_rfl
theorem ba_look_buffer : typeLookup (.type "bytearray") "__buffer__" = pure (some (.builtin "bytearray.__buffer__")) := by rw [typeLookup_type, builtinLookup_eq_fast]; kernel_rfl
theorem ba_bind (v : Value) : Builtin.Bytes.bindOptional "bytearray.__init__" "bytearray" ["source", "encoding", "errors"] [v] [] = pure [some v, none, none] := by kernel_rfl

abbrev baO (b : Array UInt8) : Obj := { cls := .type "bytearray", data := .bytearray b }
section
variable {prog : Program} {w : World} {A : Around} {E : Value → Shared → Prop} {s : Shared}
theorem code_ba_new (a : Value) {Q₁ : Value → Shared → Prop} (h : Q₁ (.ref s.heap.objs.size) { s with heap := s.heap.push (baO #[]) }) :
    codeAny (model prog w) A (.call (.builtin "bytearray.__new__") ⟨[.type "bytearray", a], []⟩) (wants Q₁ E) s := by
  refine codeAny_of_tree ?_
  show wpAny _ A.in1 (do checkBuiltinCall "bytearray.__new__" ⟨[.type "bytearray", a], []⟩; again (.builtin "bytearray.__new__" ⟨[.type "bytearray", a], []⟩)) _ _ s
  refine wpAny_bind (wpAny_of_eq (ba_newCall a) (wpAny_pure ⟨plainId_quiet ba_plain_new _, codeAny_builtin_stack ba_entry_new rfl fun p st => ?_⟩))
  rw [Around.under_plainId ba_plain_new _]
  have hsub := ba_sub
  have hown := ba_owner_new
  obtain ⟨hp, g, d, tk, os⟩ := s
  simp only [hown]
  wp_walk
  exact h
end
end Mine
end

section
open PySem PySem.W PyProof.Rows PySem.Calls
set_option maxRecDepth 100000
set_option maxHeartbeats 4000000
namespace Mine
open Sem (wp)
section
variable {prog : Program} {w : World} {A : Around} {E : Value → Shared → Prop} {s : Shared}
theorem ba_isInst {S : Addr} {b : Array UInt8} {Q : Bool → Shared → Prop} (hS : s.heap.get? S = some (baO b)) (h : Q true s) : wpAny (model prog w) A (isInstance (.ref S) (.type "bytearray")) Q E s :=
  wpAny_isInstance (T := "bytearray") ⟨_, hS, rfl⟩ ba_sub h
theorem ba_name1 : ("bytearray.__release_buffer__" : String).endsWith ("." ++ "__release_buffer__") = true := by decide +kernel
theorem ba_name2 : ("bytearray.__release_buffer__" : String).dropRight ("__release_buffer__".length + 1) = "bytearray" := by decide +kernel
theorem ba_name3 : ("bytearray.__buffer__" : String).endsWith ("." ++ "__buffer__") = true := by decide +kernel
theorem ba_name4 : ("bytearray.__buffer__" : String).dropRight ("__buffer__".length + 1) = "bytearray" := by decide +kernel
theorem ba_ownRelease {S : Addr} {b : Array UInt8} {Q : Bool → Shared → Prop} (hS : s.heap.get? S = some (baO b)) (h : Q false s) : wpAny (model prog w) A (Builtin.Bytes.ownRelease (.ref S)) Q E s := by
  unfold Builtin.Bytes.ownRelease Builtin.Bytes.slotIsOwn
  refine wpAny_bind (wpAny_bind (wpAny_specialOf (T := "bytearray") ⟨_, hS, rfl⟩ ba_look_release ?_))
  dsimp only
  rw [ba_name1, ba_name2]
  refine bm_if_false rfl ?_
  exact ba_isInst hS (wpAny_pure h)

theorem wpC_if_false {α : Type} {c : Bool} {a b : Sem α} {Q : α → Shared → Prop} (hc : c = false) (h : wpC (model prog w) A b Q E s) : wpC (model prog w) A (if c = true then a else b) Q E s := by
  subst hc
  exact h

theorem exported_calm {S : Addr} {Q : Bool → Shared → Prop} (h : Q false s) : wpC (model prog w) A (Builtin.Bytes.exported (.ref S)) Q E s := fun Γ p hΓ hC => by
  unfold Builtin.Bytes.exported
  show Q (List.any ((Γ.code, p) :: Γ.below) _) s
  rw [List.any_eq_false.mpr]
  · exact h
  · rintro ⟨c, p'⟩ hq
    have hc : calmC c = true := by
      rcases List.mem_cons.mp hq with e | hq
      · cases e; exact hC.1
      · exact hC.2 _ hq
    have key : ∀ id a, c = .builtin id a → Builtin.Bytes.decodersThatHold.contains id = false ∧ (["bytearray.__contains__", "bytearray.__mod__", "bytearray.__rmod__", "_struct.pack_into.held", "bytearray.find.held"].contains id) = false := by
      rintro id a rfl
      unfold calmC at hc
      rw [Bool.and_eq_true, Bool.not_eq_true', Bool.not_eq_true'] at hc
      exact hc
    split
    · rename_i e; cases e; exact absurd (key _ _ rfl).2 (by decide +kernel)
    · rename_i e; cases e; exact absurd (key _ _ rfl).2 (by decide +kernel)
    · rename_i e; cases e; exact absurd (key _ _ rfl).2 (by decide +kernel)
    · rename_i e; cases e; exact absurd (key _ _ rfl).2 (by decide +kernel)
    · rename_i e; cases e; exact absurd (key _ _ rfl).2 (by decide +kernel)
    · rename_i e; cases e; rw [(key _ _ rfl).1]; simp
    · simp

theorem ba_write {S : Addr} {b : Array UInt8} {f : Array UInt8 → Array UInt8} {Q : Unit → Shared → Prop} (hS : s.heap.get? S = some (baO b)) (hz : (f b).size ≤ sizeLine)
    (h : ∀ h', h'.get? S = some (baO (f b)) → Heap.SameBut S s.heap h' → Q () { s with heap := h' }) : wpAny (model prog w) A (Builtin.Bytes.write (.ref S) f) Q E s := by
  show wpAny _ _ (updateBytearray S f) _ _ _
  unfold updateBytearray
  refine wpAny_bind (wpAny_load hS ?_)
  show wpAny _ _ (update S (Obj.mapBytearray f) >>= fun _ => lookBehind S) _ _ _
  refine wpAny_bind (wpAny_update hS ?_)
  have hS₂ : (s.heap.update S (Obj.mapBytearray f)).get? S = some (baO (f b)) := Heap.get?_update_self (Obj.mapBytearray f) hS rfl
  refine wpAny_lookBehind hS₂ ?_ (h _ hS₂ (Heap.SameBut.update ..))
  show (if (f b).size > sizeLine then some "bytearray:memory" else none) = none
  rw [if_neg (Nat.not_lt.mpr hz)]

theorem ba_init {S : Addr} {n : Int} {t : Tok} {Q : Fin → Shared → Prop} (hS : s.heap.get? S = some (baO #[])) (h0 : 0 ≤ n) (h1 : n ≤ 1000000)
    (h : ∀ h', h'.get? S = some (baO (Array.replicate n.toNat 0)) → Heap.SameBut S s.heap h' → Q (.done (.ret .none)) { s with heap := h' }) :
    wpC (model prog w) A (Builtin.«bytearray.__init__» ⟨[.ref S, .int n t], []⟩) Q E s := by
  unfold Builtin.«bytearray.__init__»
  refine wpC_bindA (ba_ownRelease hS ?_)
  refine wpC_if_false rfl ?_
  refine wpC_bindA (wpAny_of_eq (ba_bind _) ?_)
  refine wpC_bindA (wpAny_of_eq (a := ()) rfl ?_)
  refine wpC_bindA (wpAny_of_eq (a := ()) rfl ?_)
  refine wpC_bind ?_
  refine wpC_bind (exported_calm ?_)
  refine wpC_of ?_
  refine wpAny_bind ?_
  show wpAny _ _ (load S >>= _) _ _ _
  refine wpAny_bind (wpAny_load hS (wpAny_pure ?_))
  refine wpAny_pure ?_
  refine wpC_if_false rfl ?_
  refine wpC_of ?_
  refine wpAny_bind (ba_write hS (by decide) fun h₁ hS₁ hs₁ => ?_)
  refine wpAny_bind (wpAny_of_eq (a := none) rfl ?_)
  refine bm_if_false rfl ?_
  refine wpAny_bind (wpAny_of_eq (a := ()) rfl ?_)
  refine wpAny_bind (wpAny_specialOf (T := "int") (typeIs_int _ _ _) F.slot_int_index.lookup ?_)
  refine bm_if_true rfl ?_
  refine wpAny_bind (wpAny_of_eq (a := .ok n) rfl ?_)
  refine bm_if_false (by unfold Builtin.Bytes.fitsIndex; simp only [Bool.not_eq_false', Bool.and_eq_true, decide_eq_true_eq]; omega) ?_
  refine wpAny_ite ?_
  rw [if_neg (by omega)]
  refine bm_if_false (by rw [beq_eq_false_iff_ne]; omega) ?_
  refine bm_if_false (KBy.tooLong_not (by omega)) ?_
  refine wpAny_bind (wpAny_rule ?_)
  refine wpAny_ite ?_
  split
  · refine wpAny_bind (ba_write hS₁ (by rw [Array.size_replicate, sizeLine_eq]; omega) fun h₂ hS₂ hs₂ => ?_)
    exact wpAny_pure (h h₂ hS₂ (hs₁.trans hs₂))
  · have hn : n = 0 := by omega
    subst hn
    exact wpAny_pure (h h₁ hS₁ hs₁)

theorem codeC_builtin {id : String} {args : Args} {b : Builtin} {R : Result → Shared → Prop} (hb : entryFor table id = some b)
    (h : wpC (model prog w) (A.under (.builtin id args)) (b args)
      (fun fin s' => match fin with | .done f => R (.ok f) s' | .again c' => c'.quiet = true ∧ calmC c' = true ∧ codeC (model prog w) A c' R s') (fun e s' => R (.error e) s') s) :
    codeC (model prog w) A (.builtin id args) R s := by
  refine codeC_of_tree ?_
  show wpC _ _ (match entryFor table id with | some b => b args | none => unsupported ((withoutEnding? id "#data").getD id)) _ _ s
  rw [hb]; exact h

theorem calm_builtin {id : String} {args : Args} (h : (!(Builtin.Bytes.decodersThatHold.contains id) && !(["bytearray.__contains__", "bytearray.__mod__", "bytearray.__rmod__", "_struct.pack_into.held", "bytearray.find.held"].contains id)) = true) : calmC (.builtin id args) = true := h
theorem ba_plain_init : plainId "bytearray.__init__" = true := by decide +kernel
theorem ba_args_init (a b : Value) : argsOk "bytearray.__init__" ⟨[a, b], []⟩ := by
  unfold argsOk; kernel_rfl

theorem code_ba_init {S : Addr} {n : Int} {t : Tok} {R : Result → Shared → Prop} (hS : s.heap.get? S = some (baO #[])) (h0 : 0 ≤ n) (h1 : n ≤ 1000000)
    (h : ∀ h', h'.get? S = some (baO (Array.replicate n.toNat 0)) → Heap.SameBut S s.heap h' → R (.ok (.ret .none)) { s with heap := h' }) :
    codeC (model prog w) A (.call (.builtin "bytearray.__init__") ⟨[.ref S, .int n t], []⟩) R s := by
  refine codeC_of_tree (wpC_of ?_)
  show wpAny _ A.in1 (do checkBuiltinCall "bytearray.__init__" ⟨[.ref S, .int n t], []⟩; again (.builtin "bytearray.__init__" ⟨[.ref S, .int n t], []⟩)) _ _ s
  refine wpAny_bind (ba_slot_init.check _ _ _ _ _ _ _ _ ⟨_, hS, rfl⟩ (ba_args_init _ _) (wpAny_pure ⟨plainId_quiet ba_plain_init _, calm_builtin (by decide +kernel), codeC_builtin ba_entry_init ?_⟩))
  rw [Around.under_plainId ba_plain_init _]
  exact ba_init hS h0 h1 h

theorem call_ba {n : Int} {t : Tok} {Q : Value → Shared → Prop} (h0 : 0 ≤ n) (h1 : n ≤ 1000000)
    (h : ∀ h', h'.get? s.heap.objs.size = some (baO (Array.replicate n.toNat 0)) → (∀ b o, s.heap.get? b = some o → h'.get? b = some o) → Q (.ref s.heap.objs.size) { s with heap := h' }) :
    wpC (model prog w) A (call (.type "bytearray") [.int n t]) Q E s := by
  refine wpC_call (codeC_of_tree (wpC_of ?_))
  show wpAny _ _ (callAny (.type "bytearray") _) _ _ _
  refine wpAny_pure ⟨Code.quiet_builtin _ (by decide +kernel), calm_builtin (by decide +kernel), codeC_builtin F.entry_type_call ?_⟩
  rw [Around.under_plain (weight_type_call_type "bytearray" [.int n t] []) rfl]
  unfold Builtin.«type.__call__»
  refine wpC_if_false ba_called.notType ?_
  refine wpC_if_false ba_called.canCreate ?_
  refine wpC_bindA (wpAny_of_eq (ba_typeCall _) ?_)
  refine wpC_bindA (wpAny_of_eq ba_mro ?_)
  refine wpC_if_false rfl ?_
  refine wpC_bindA (wpAny_of_eq ba_called.made ?_)
  refine wpC_bindA (wpAny_pure ?_)
  refine wpC_bindA (wpAny_holding (wpAny_call (codeAny_mono (code_ba_new (E := fun _ _ => False) (Q₁ := fun obj s₁ => obj = .ref s.heap.objs.size ∧ s₁ = { s with heap := s.heap.push (baO #[]) }) (.int n t) ⟨rfl, rfl⟩) fun r s₁ hr => ?_)))
  cases r with
  | error e => exact hr.elim
  | ok fl =>
    cases fl with
    | ret obj =>
      obtain ⟨rfl, rfl⟩ := hr
      have hS : (s.heap.push (baO #[])).get? s.heap.objs.size = some (baO #[]) := Heap.get?_push_size _ rfl
      dsimp only
      refine wpC_bindA (ba_isInst (s := { s with heap := s.heap.push (baO #[]) }) hS ?_)
      refine wpC_if_false rfl ?_
      refine wpC_bind (wpC_holding ?_)
      unfold callSpecial?
      refine wpC_bindA (wpAny_specialOf (s := { s with heap := s.heap.push (baO #[]) }) (T := "bytearray") ⟨_, hS, rfl⟩ ba_slot_init.lookup ?_)
      refine wpC_holding ?_
      refine wpC_bindA (wpAny_of_eq (ba_slot_init.bind _) ?_)
      refine wpC_bind (wpC_call (code_ba_init (s := { s with heap := s.heap.push (baO #[]) }) hS h0 h1 fun h' hS' hs' => ?_))
      refine wpC_of (wpAny_pure ?_)
      refine wpC_if_false rfl ?_
      refine wpC_of (wpAny_pure ?_)
      exact h h' hS' fun b o e => hs'.extBut b o (Nat.ne_of_lt (Heap.lt_size e)) (Heap.get?_push_of_some _ e)
    | _ => exact hr.elim
end
end Mine
end

section
open PySem PySem.W PyProof.Rows PySem.Calls
set_option maxRecDepth 100000
set_option maxHeartbeats 4000000
namespace Mine
open Sem (wp)
theorem ba_slot_set : Slot "bytearray" "__setitem__" "bytearray.__setitem__" :=
  .of (owner := "bytearray") (n := "__setitem__") (by rw [typeLookup_type, builtinLookup_eq_fast]; kernel_rfl) (by decide +kernel) (by decide +kernel) (by decide +kernel)
    (by first | exact .inl (by decide +kernel) | exact .inr (by decide +kernel)) (by rw [isSubtype_type]; kernel_rfl)
theorem ba_entry_set : entryFor table "bytearray.__setitem__" = some Builtin.«bytearray.__setitem__» := by first | exact entryFor_of_fast (by kernel_rfl) | exact entryFor_of_tree (by kernel_rfl)
theorem ba_args_set (a b c : Value) : argsOk "bytearray.__setitem__" ⟨[a, b, c], []⟩ := by unfold argsOk; kernel_rfl
theorem ba_no_bytes : typeLookup (.type "bytearray") "__bytes__" = pure none := by rw [typeLookup_type, builtinLookup_eq_fast]; kernel_rfl
theorem ba_no_index : typeLookup (.type "bytearray") "__index__" = pure none := by rw [typeLookup_type, builtinLookup_eq_fast]; kernel_rfl
section
variable {prog : Program} {w : World} {A : Around} {E : Value → Shared → Prop} {s : Shared}
theorem ba_subscript {k : Int} {t : Tok} {Q : Option Int → Shared → Prop} (hf : Builtin.Bytes.fitsIndex k = true) (h : Q (some k) s) : wpAny (model prog w) A (Builtin.Bytes.subscript? (.int k t)) Q E s := by
  unfold Builtin.Bytes.subscript?
  refine wpAny_bind (wpAny_specialOf (T := "int") (typeIs_int _ _ _) F.slot_int_index.lookup ?_)
  refine bm_if_false rfl ?_
  refine wpAny_bind (wpAny_of_eq (rfl : asIndex (.int k t) = pure k) ?_)
  refine bm_if_false (by rw [hf]; rfl) ?_
  exact wpAny_pure h
theorem ba_setItem {S : Addr} {b : Array UInt8} {k x : Int} {t u : Tok} {Q : Unit → Shared → Prop} (hS : s.heap.get? S = some (baO b)) (h0 : 0 ≤ k) (hk : k < b.size) (hz : b.size ≤ 1000000) (hx0 : 0 ≤ x) (hx : x < 256)
    (h : ∀ h', h'.get? S = some (baO (b.setIfInBounds k.toNat x.toNat.toUInt8)) → Heap.SameBut S s.heap h' → Q () { s with heap := h' }) :
    wpAny (model prog w) A (setItem (.ref S) (.int k t) (.int x u)) Q E s := by
  have hT : s.TypeIs (.ref S) "bytearray" := ⟨_, hS, rfl⟩
  unfold setItem
  refine wpAny_holding ?_
  refine wpAny_bind (wpAny_sequenceKey hT (by decide) ?_)
  refine wpAny_bind (wpAny_callSpecial?_slot (name := Str.ofString "__setitem__") hT ba_slot_set
    (wpAny_call_entry ba_slot_set hT ba_entry_set ?_ (ba_args_set _ _ _)))
  unfold Builtin.«bytearray.__setitem__»
  refine bm_if_false rfl ?_
  refine wpAny_bind (ba_subscript (by unfold Builtin.Bytes.fitsIndex; simp only [Bool.and_eq_true, decide_eq_true_eq]; omega) ?_)
  refine wpAny_bind ?_
  unfold Builtin.Bytes.byteValue
  refine wpAny_bind (wpAny_of_eq (rfl : asIndex (.int x u) = pure x) ?_)
  refine bm_if_false (by simp only [Bool.or_eq_false_iff, decide_eq_false_iff_not]; omega) ?_
  refine wpAny_pure ?_
  refine wpAny_bind ?_
  unfold Builtin.Bytes.payload Builtin.Bytes.payload?
  refine wpAny_bind (wpAny_bind (wpAny_load hS ?_))
  refine wpAny_pure (wpAny_pure ?_)
  have hs : seqIndex? k b.size = some k.toNat := by
    unfold seqIndex?
    simp only [if_neg (show ¬ k < 0 by omega)]
    rw [if_pos (by simp only [Bool.and_eq_true, decide_eq_true_eq]; omega)]
  rw [hs]
  refine wpAny_bind (ba_write hS (by rw [Array.size_setIfInBounds, sizeLine_eq]; omega) fun h' hS' hs' => ?_)
  exact wpAny_pure ⟨_, rfl, wpAny_pure (h h' hS' hs')⟩
theorem ba_bytes_new {S : Addr} {b : Array UInt8} {Q : Value → Shared → Prop} (hS : s.heap.get? S = some (baO b)) (hz : b.size ≤ 1000000)
    (hQ : ∀ t k, Q (.bytes b t) { s with toks := k }) :
    codeAny (model prog w) A (.call (.builtin "bytes.__new__") ⟨[.type "bytes", .ref S], []⟩) (wants Q E) s := by
  refine codeAny_of_tree ?_
  show wpAny _ A.in1 (do checkBuiltinCall "bytes.__new__" ⟨[.type "bytes", .ref S], []⟩; again (.builtin "bytes.__new__" ⟨[.type "bytes", .ref S], []⟩)) _ _ s
  refine wpAny_bind (wpAny_of_eq (F.bm_newCall _) (wpAny_pure ⟨plainId_quiet F.bm_plain _, codeAny_builtin F.bm_entry ?_⟩))
  rw [Around.under_plainId F.bm_plain _]
  have hT : s.TypeIs (.ref S) "bytearray" := ⟨_, hS, rfl⟩
  unfold Builtin.«bytes.__new__»
  refine wpAny_bind (wpAny_of_eq (a := true) rfl ?_)
  refine bm_if_false rfl ?_
  refine wpAny_bind (wpAny_of_eq F.bm_sub ?_)
  refine bm_if_false rfl ?_
  refine wpAny_bind (wpAny_of_eq (F.bm_bind _) ?_)
  refine wpAny_bind (wpAny_of_eq (a := ()) rfl ?_)
  refine wpAny_bind (wpAny_of_eq (a := ()) rfl ?_)
  refine bm_if_false rfl ?_
  refine wpAny_bind (wpAny_specialOf hT ba_no_bytes ?_)
  refine wpAny_bind (wpAny_bind ?_)
  show wpAny _ _ (load S >>= _) _ _ _
  refine wpAny_bind (wpAny_load hS ?_)
  refine wpAny_pure (wpAny_pure ?_)
  refine bm_if_false rfl ?_
  refine wpAny_bind (wpAny_specialOf hT ba_no_index ?_)
  refine bm_if_true rfl ?_
  first
    | show wpAny _ _ (Builtin.Bytes.buffer? "bytes.__new__" (.ref S) true >>= _) _ _ _
    | (refine wpAny_bind ?_; show wpAny _ _ (Builtin.Bytes.buffer? "bytes.__new__" (.ref S) true >>= _) _ _ _)
  refine wpAny_bind ?_
  unfold Builtin.Bytes.buffer?
  refine wpAny_bind (wpAny_specialOf hT ba_look_buffer ?_)
  unfold Builtin.Bytes.slotIsOwn
  dsimp only
  refine wpAny_bind (wpAny_bind (wpAny_specialOf hT ba_look_buffer ?_))
  dsimp only
  rw [ba_name3, ba_name4]
  refine bm_if_false rfl ?_
  refine ba_isInst hS ?_
  refine bm_if_false rfl ?_
  refine wpAny_bind (wpAny_specialOf hT ba_look_buffer ?_)
  show wpAny _ _ (Builtin.Bytes.ownRelease (.ref S) >>= _) _ _ _
  refine wpAny_bind (ba_ownRelease hS ?_)
  refine bm_if_false rfl ?_
  unfold Builtin.Bytes.payload Builtin.Bytes.payload?
  refine wpAny_bind (wpAny_bind (wpAny_bind (wpAny_load hS ?_)))
  refine wpAny_pure (wpAny_pure (wpAny_pure ?_))
  refine wpAny_bind (wpAny_rule ?_)
  refine wpAny_bind (wpAny_mkBytes ?_ (by rw [sizeLine_eq]; omega))
  show wpAny _ _ (if (Value.type "bytes" == Value.type "bytes") = true then _ else _) _ _ _
  refine bm_if_true (by decide) ?_
  first
    | exact wpAny_pure (hQ _ _)
    | exact wpAny_bind (wpAny_pure (wpAny_pure (hQ _ _)))
theorem call_bytes_ba {S : Addr} {b : Array UInt8} {Q : Value → Shared → Prop} (hS : s.heap.get? S = some (baO b)) (hz : b.size ≤ 1000000)
    (hQ : ∀ t k, Q (.bytes b t) { s with toks := k }) : wpAny (model prog w) A (call (.type "bytes") [.ref S]) Q E s := by
  refine callType_codes (Q₁ := fun obj s₁ => s₁.TypeIs obj "bytes" ∧ Q obj s₁) F.bm_called (F.bm_typeCall _) F.entry_object_init
    (ba_bytes_new hS hz fun t k => ⟨PySem.W.typeIs_bytes _ _ _, hQ t k⟩) fun obj s₁ h₁ => ?_
  exact ⟨h₁.1, F.args_object_init_2 obj _, object_init_meets F.bm_called.init.lookup F.bm_called.made (by decide) prog w A.in1 _ s₁ ⟨h₁.1, rfl, h₁.2⟩⟩
end
end Mine
end

section
open PySem PySem.W PyProof.Rows PySem.Calls
set_option maxRecDepth 100000
set_option maxHeartbeats 4000000
namespace Mine
open Sem (wp)
theorem jn_slot : Slot "bytes" "join" "bytes.join" :=
  .of (owner := "bytes") (n := "join") (by rw [typeLookup_type, builtinLookup_eq_fast]; kernel_rfl) (by decide +kernel) (by decide +kernel) (by decide +kernel)
    (by first | exact .inl (by decide +kernel) | exact .inr (by decide +kernel)) (by rw [isSubtype_type]; kernel_rfl)
theorem jn_type : typeOf (.builtin "bytes.join") = pure (.type "method_descriptor") := by show builtinType _ = _; rw [builtinType_eq_fast]; kernel_rfl
theorem jn_entry : entryFor table "bytes.join" = some Builtin.«bytes.join» := by first | exact entryFor_of_fast (by kernel_rfl) | exact entryFor_of_tree (by kernel_rfl)
theorem jn_args (a b : Value) : argsOk "bytes.join" ⟨[a, b], []⟩ := by unfold argsOk; kernel_rfl
theorem by_look_buffer : typeLookup (.type "bytes") "__buffer__" = pure (some (.builtin "bytes.__buffer__")) := by rw [typeLookup_type, builtinLookup_eq_fast]; kernel_rfl
theorem by_name3 : ("bytes.__buffer__" : String).endsWith ("." ++ "__buffer__") = true := by decide +kernel
theorem by_name4 : ("bytes.__buffer__" : String).dropRight ("__buffer__".length + 1) = "bytes" := by decide +kernel
theorem by_no_release : typeLookup (.type "bytes") "__release_buffer__" = pure none := by rw [typeLookup_type, builtinLookup_eq_fast]; kernel_rfl
section
variable {prog : Program} {w : World} {A : Around} {E : Value → Shared → Prop} {s : Shared}
theorem jn_method {M : Model} {b : Array UInt8} {t : Tok} {pl : Sem Bool} {Q : Value × List Value → Shared → Prop} (h : Q (.builtin "bytes.join", [.bytes b t]) s) : wpAny M A (getMethod (.bytes b t) "join" pl) Q E s := by
  with_reducible exact KBd.method_of (.bytes b t) (typeIs_bytes _ _ _) jn_slot jn_type KBd.noRef h
theorem by_own {b : Array UInt8} {t : Tok} {Q : Bool → Shared → Prop} (h : Q true s) : wpAny (model prog w) A (Builtin.Bytes.slotIsOwn (.bytes b t) "__buffer__") Q E s := by
  unfold Builtin.Bytes.slotIsOwn
  refine wpAny_bind (wpAny_specialOf (T := "bytes") (typeIs_bytes _ _ _) by_look_buffer ?_)
  dsimp only
  rw [by_name3, by_name4]
  refine bm_if_false rfl ?_
  exact wpAny_isInstance (T := "bytes") (typeIs_bytes _ _ _) F.bm_sub h
theorem by_quiet {b : Array UInt8} {t : Tok} {id : String} {Q : Option (Array UInt8 × Option Value) → Shared → Prop} (h : Q (some (b, none)) s) : wpAny (model prog w) A (Builtin.Bytes.takeBufferQuiet? id (.bytes b t) 0) Q E s := by
  unfold Builtin.Bytes.takeBufferQuiet?
  refine wpAny_bind (wpAny_attempt ?_)
  unfold Builtin.Bytes.takeBuffer?
  refine wpAny_bind (wpAny_specialOf (T := "bytes") (typeIs_bytes _ _ _) by_look_buffer ?_)
  show wpAny _ _ (Builtin.Bytes.slotIsOwn (.bytes b t) "__buffer__" >>= _) _ _ _
  refine wpAny_bind (by_own ?_)
  refine bm_if_false rfl ?_
  refine wpAny_bind (wpAny_specialOf (T := "bytes") (typeIs_bytes _ _ _) by_look_buffer ?_)
  show wpAny _ _ (Builtin.Bytes.buffer? id (.bytes b t) _ >>= _) _ _ _
  refine wpAny_bind ?_
  unfold Builtin.Bytes.buffer?
  refine wpAny_bind (wpAny_specialOf (T := "bytes") (typeIs_bytes _ _ _) by_look_buffer ?_)
  show wpAny _ _ (Builtin.Bytes.slotIsOwn (.bytes b t) "__buffer__" >>= _) _ _ _
  refine wpAny_bind (by_own ?_)
  refine bm_if_false rfl ?_
  refine wpAny_bind (wpAny_specialOf (T := "bytes") (typeIs_bytes _ _ _) by_look_buffer ?_)
  show wpAny _ _ (Builtin.Bytes.ownRelease (.bytes b t) >>= _) _ _ _
  refine wpAny_bind ?_
  unfold Builtin.Bytes.ownRelease Builtin.Bytes.slotIsOwn
  refine wpAny_bind (wpAny_bind (wpAny_specialOf (T := "bytes") (typeIs_bytes _ _ _) by_no_release ?_))
  refine wpAny_pure ?_
  refine wpAny_pure ?_
  refine bm_if_false rfl ?_
  refine wpAny_bind (wpAny_pure ?_)
  exact wpAny_pure (wpAny_pure (wpAny_pure h))
theorem jn_letGo {keep : List Value} {Q : Unit → Shared → Prop} : ∀ {taken : List (Value × Option Value)}, (∀ x ∈ taken, x.2 = none) → Q () s → wpAny (model prog w) A (Builtin.Bytes.joinLetGo taken keep) Q E s
  | [], _, h => by unfold Builtin.Bytes.joinLetGo; exact wpAny_pure h
  | (x, u) :: rest, hn, h => by
    obtain rfl : u = none := hn (x, u) (.head _)
    unfold Builtin.Bytes.joinLetGo
    dsimp only
    exact wpAny_bind (wpAny_letGo (jn_letGo (fun y hy => hn y (.tail _ hy)) h))
theorem jn_call {l : Addr} {o : Obj} {t : Tok} {n : Nat} {b0 b1 b2 b3 b4 : Array UInt8} {t0 t1 t2 t3 t4 : Tok} {Q : Value → Shared → Prop} (ho : s.heap.get? l = some o) (hc : o.cls = .type "list") (hd : o.data = .seq #[.bytes b0 t0, .bytes b1 t1, .bytes b2 t2, .bytes b3 t3, .bytes b4 t4] n)
    (hz : b0.size + b1.size + b2.size + b3.size + b4.size ≤ 1000)
    (h : ∀ t' k, Q (.bytes (b0 ++ b1 ++ b2 ++ b3 ++ b4) t') { s with toks := k }) :
    wpAny (model prog w) A (call (.builtin "bytes.join") [.bytes #[] t, .ref l]) Q E s := by
  refine wpAny_call_entry jn_slot (typeIs_bytes _ _ _) jn_entry ?_ (jn_args _ _)
  unfold Builtin.«bytes.join» Builtin.Bytes.joinM
  refine wpAny_bind (wpAny_of_eq (a := (.bytes #[] t, .ref l)) rfl ?_)
  dsimp only
  refine bm_if_true (by decide) ?_
  refine wpAny_bind ?_
  unfold Builtin.Bytes.joinItems
  refine wpAny_bind (wpAny_typeOf (T := "list") ⟨_, ho, hc⟩ ?_)
  refine bm_if_true (by decide) ?_
  refine wpAny_pure ?_
  have hq : ∀ {A' : Around} {E' : Value → Shared → Prop} {Q' : Option (Array Value) → Shared → Prop}, Q' (some #[.bytes b0 t0, .bytes b1 t1, .bytes b2 t2, .bytes b3 t3, .bytes b4 t4]) s → wpAny (model prog w) A' (seqItems? (.ref l)) Q' E' s := fun x => by
    unfold seqItems?
    refine wpAny_bind (wpAny_load ho ?_)
    rw [hd]
    exact wpAny_pure x
  refine wpAny_bind (hq ?_)
  dsimp only
  refine bm_if_true (by decide) ?_
  refine wpAny_bind ?_
  rw [Std.Legacy.Range.forIn_eq_forIn_range']
  rw [show List.range' (Std.Legacy.Range.start [:(#[Value.bytes b0 t0, .bytes b1 t1, .bytes b2 t2, .bytes b3 t3, .bytes b4 t4] : Array Value).size]) (Std.Legacy.Range.size [:(#[Value.bytes b0 t0, .bytes b1 t1, .bytes b2 t2, .bytes b3 t3, .bytes b4 t4] : Array Value).size]) (Std.Legacy.Range.step [:(#[Value.bytes b0 t0, .bytes b1 t1, .bytes b2 t2, .bytes b3 t3, .bytes b4 t4] : Array Value).size]) = [0, 1, 2, 3, 4] from by show List.range' 0 ((5 - 0 + 1 - 1) / 1) 1 = _; decide]
  rw [List.forIn_cons]
  refine wpAny_bind (wpAny_bind (hq ?_))
  dsimp only
  refine bm_if_false rfl ?_
  refine wpAny_bind (wpAny_holding (by_quiet (b := b0) (t := t0) ?_))
  dsimp only
  refine wpAny_bind (hq ?_)
  dsimp only
  refine bm_if_false rfl ?_
  refine wpAny_pure ?_
  dsimp only
  rw [List.forIn_cons]
  refine wpAny_bind (wpAny_bind (hq ?_))
  dsimp only
  refine bm_if_false rfl ?_
  refine wpAny_bind (wpAny_holding (by_quiet (b := b1) (t := t1) ?_))
  dsimp only
  refine wpAny_bind (hq ?_)
  dsimp only
  refine bm_if_false rfl ?_
  refine wpAny_pure ?_
  dsimp only
  rw [List.forIn_cons]
  refine wpAny_bind (wpAny_bind (hq ?_))
  dsimp only
  refine bm_if_false rfl ?_
  refine wpAny_bind (wpAny_holding (by_quiet (b := b2) (t := t2) ?_))
  dsimp only
  refine wpAny_bind (hq ?_)
  dsimp only
  refine bm_if_false rfl ?_
  refine wpAny_pure ?_
  dsimp only
  rw [List.forIn_cons]
  refine wpAny_bind (wpAny_bind (hq ?_))
  dsimp only
  refine bm_if_false rfl ?_
  refine wpAny_bind (wpAny_holding (by_quiet (b := b3) (t := t3) ?_))
  dsimp only
  refine wpAny_bind (hq ?_)
  dsimp only
  refine bm_if_false rfl ?_
  refine wpAny_pure ?_
  dsimp only
  rw [List.forIn_cons]
  refine wpAny_bind (wpAny_bind (hq ?_))
  dsimp only
  refine bm_if_false rfl ?_
  refine wpAny_bind (wpAny_holding (by_quiet (b := b4) (t := t4) ?_))
  dsimp only
  refine wpAny_bind (hq ?_)
  dsimp only
  refine bm_if_false rfl ?_
  refine wpAny_pure ?_
  dsimp only
  rw [List.forIn_nil]
  refine wpAny_pure ?_
  dsimp only
  refine wpAny_bind (wpAny_of_eq (a := #[]) rfl ?_)
  refine bm_if_false (KBy.tooLong_not (by simp [Array.foldl]; omega)) ?_
  refine wpAny_bind ?_
  show wpAny _ _ (mkBytes _) _ _ _
  have hj : Builtin.Bytes.joined #[] (((((#[].push b0).push b1).push b2).push b3).push b4).toList = b0 ++ b1 ++ b2 ++ b3 ++ b4 := by simp [Builtin.Bytes.joined]
  rw [hj]
  refine wpAny_mkBytes ?_ (by simp only [Array.size_append, sizeLine_eq]; omega)
  refine wpAny_bind (wpAny_holding (wpAny_point ?_))
  refine wpAny_bind (jn_letGo (by simp) ?_)
  exact wpAny_pure ⟨_, rfl, h _ _⟩
end
end Mine
end

section
open PySem PySem.W PyProof.Rows PySem.Calls
set_option maxRecDepth 100000
set_option maxHeartbeats 4000000
namespace Mine
section
variable {prog : Program} {w : World} {A A₀ : Around} {s : Shared} {K : Frag} {L : Addr} {h₀ base : Heap} {m mg mb : Str → Option Value} {news : List (Addr × Obj)} {p : Program} {loose : List Str} {mean : ExcName → Option Value}

/-- code_R under calm stacks, for a def that has no cells -/
theorem codeC_R {env : Env} {outer : List Env} {R : Result → Shared → Prop} {name qual : Str} {params : Arguments} {body : List Stmt} {scope : Scope} {dV kV doc pm cdv ct oc : Value} {an od : Option Addr} {osl : Array (Option Value)} {f : Addr} {args : Args} {binds : List (Str × Value)}
    (need : List (Addr × Obj)) (hsub : ∀ q ∈ need, q ∈ news)
    (B : Below A₀ base outer h₀) (F : Fr h₀ L s.heap m) (X₀ : K.In h₀) (N : News h₀ L s.heap news) (T : Top p loose mean mg mb h₀) (hA : A.frames = some (env :: outer)) (hf : env.frame = some L) (hke : env.scope.kind = .function)
    (ho : K.lookup f = some ⟨oc, od, .func (fnOf name qual params body scope dV kV doc pm an cdv ct), osl⟩) (hcd : codeIn K cdv qual = true) (hroom : A.depth < recursionLimit)
    (hbind : BindsTo s (fnOf name qual params body scope dV kV doc pm an cdv ct) args binds) (hkind : (binds.all fun y => scope.names.lookup y.1 == some .local || scope.names.lookup y.1 == some .cell) = true)
    (hnd : (cellsFrom 0 scope.names []).map (·.1) = [])
    (h : ∀ g L' h₁ tk, Fr g L' h₁ (bindL (envOfC qual scope L' f cdv).kindOf binds fun _ => none) → News g L' h₁ need → Below A base (env :: outer) g → K.In g → Top p loose mean mg mb g → (∀ q ∈ need, q.1 < L') →
      wpC (model prog w) (A.deeper (envOfC qual scope L' f cdv)) (execs body (envOfC qual scope L' f cdv))
        (fun fl s' => EndR h₀ L m news g L' need R (match fl with | .ret v => v | _ => .none) s')
        (fun e s' => wpAny (model prog w) (A.deeper (envOfC qual scope L' f cdv)) (leaving (envOfC qual scope L' f cdv) e) (fun _ s'' => R (.error e) s'') (fun e' s'' => R (.error e') s'') s')
        { s with heap := h₁, toks := tk })
    (hco : scope.isCoroutine = false) (hgen : scope.isGenerator = false) (hk : scope.kind = .function) : codeC (model prog w) A (.call (.ref f) args) R s := by
  obtain ⟨FG, BG, st, lv⟩ := groundX (R := R) B F N hA hf hke
  refine codeC_call_function hroom ((X₀.keeps F.keep) _ _ ho) rfl hco hgen rfl (codeRec_of (X₀.keeps F.keep) hcd) (hbind _ _ _ _ ?_)
  refine wpAny_newFunctionEnv_cells hk (kindsX hkind _) fun env' he s' x => ?_
  subst he
  refine ⟨(T.nolimit.keeps F.keep).keeps x.toInCall.keep, codeC_func ?_⟩
  obtain ⟨h₁, tk, rfl, _⟩ := x.done
  have kp := x.toInCall.keep
  have F1 : Fr (hideAll s.heap (news.map (·.1))) s.heap.objs.size h₁ (bindL (envOfC qual scope s.heap.objs.size f cdv).kindOf binds fun _ => none) := ⟨x.toInCall.ns, fun b o e => kp b o (of_hideAll _ e), Nat.le_of_eq (hideAll_size _ _)⟩
  have N1 : News (hideAll s.heap (news.map (·.1))) s.heap.objs.size h₁ ([] ++ news) := fun p hp =>
    ⟨kp _ _ (N p hp).1, Nat.ne_of_lt (Heap.lt_size (N p hp).1), hideAll_none _ (List.mem_map_of_mem hp)⟩
  obtain ⟨g', st', F2, N2, back⟩ := reframe F1 N1 (fun q hq => Heap.lt_size (N q hq).1) (fun q hq => (nomatch hq)) hsub
  have B2 : Below A base (env :: outer) g' := ⟨BG.stack, fun b o e => st' b o (BG.stays b o e), BG.frames.of_keeps fun b o e _ => ⟨o, st' b o e, rfl⟩⟩
  refine wpC_mono (h g' s.heap.objs.size h₁ tk F2 N2 B2 ((X₀.keeps st).keeps st') ((T.keeps st).keeps st') fun q hq => Heap.lt_size (N q (hsub q hq)).1) (fun fl s' hl => ?_) fun _ _ y => y
  obtain ⟨m', res, F3, N3, off, k⟩ := hl
  obtain ⟨F4, N4, off4⟩ := back _ _ _ F3 N3 off
  exact lv _ _ ⟨_, m', res ++ news, F4, N4, fun F5 N5 => k F5 N5 off4⟩
end
section
variable {prog : Program} {w : World} {A : Around} {E : Value → Shared → Prop} {s : Shared} {env : Env} {h₀ : Heap} {x : Str} {body : List Stmt} {Q : Flow → Shared → Prop}
theorem unrPost_mono {L I : Addr} {it : Obj} {s₁ : Shared} {r r' : (Str → Option Value) → List (Addr × Obj) → Prop} (hr : ∀ m n, r m n → r' m n) {f : Flow} {s₂ : Shared} (h : UnrPost h₀ L s₁ I it r Q f s₂) : UnrPost h₀ L s₁ I it r' Q f s₂ := by
  cases f with
  | ret v => exact h
  | brk => exact h
  | next => obtain ⟨h', tk, m', n', e, F, N, o, y⟩ := h; exact ⟨h', tk, m', n', e, F, N, o, hr _ _ y⟩
  | cont => obtain ⟨h', tk, m', n', e, F, N, o, y⟩ := h; exact ⟨h', tk, m', n', e, F, N, o, hr _ _ y⟩

/-- a loop over a range by what holds between its turns -/
theorem krs_run {I : Addr} {a c : Int} {n : Nat} {m₀ : Str → Option Value} (stored : List Str) (J : Nat → List (Addr × Obj) → Prop)
    (turn : ∀ i (u : Str → Option Value) news t h tk, i < n → J i news → Fr h₀ env.locals h (fun y => if y = x then some (.int (a + (i : Int) * c) t) else if stored.contains y = true then u y else m₀ y) →
      News h₀ env.locals h ((I, krsIt (a + ((i + 1 : Nat) : Int) * c) ((n : Int) - ((i + 1 : Nat) : Int)) c) :: news) →
      wpAny (model prog w) A (execs body env) (UnrPost h₀ env.locals { s with heap := h, toks := tk } I (krsIt (a + ((i + 1 : Nat) : Int) * c) ((n : Int) - ((i + 1 : Nat) : Int)) c) (fun m' n' => (∀ y, stored.contains y = false → m' y = m₀ y) ∧ J (i + 1) n') Q) E { s with heap := h, toks := tk })
    (fin : ∀ (u : Str → Option Value) news h tk, J n news → Fr h₀ env.locals h (fun y => if stored.contains y = true then u y else m₀ y) → News h₀ env.locals h news → Q .next { s with heap := h, toks := tk }) :
    ∀ news, J 0 news → KrsRest prog w A E h₀ env x body Q s I a c n n 0 m₀ news := by
  have main : ∀ (k i : Nat), i + k = n → ∀ m news, (∀ y, stored.contains y = false → m y = m₀ y) → J i news → KrsRest prog w A E h₀ env x body Q s I a c n k i m news := by
    intro k
    induction k with
    | zero =>
      intro i hi m news hm hJ h tk F N
      have hi' : i = n := hi
      exact fin m news h tk (hi' ▸ hJ) (frame_as hm ▸ F) N
    | succ k ih =>
      intro i hi m news hm hJ t h tk F N
      rw [frame_as hm] at F
      exact wpAny_mono (turn i m news t h tk (by omega) hJ F N) (fun f s₃ y => unrPost_mono (fun m' n' z => ih (i + 1) (by omega) m' n' z.1 z.2) y) fun _ _ e => e
  exact fun news hJ => main n 0 (Nat.zero_add _) m₀ news (fun _ _ => rfl) hJ
end
end Mine
end

section
open PySem PySem.W PyProof.Rows PySem.Calls
set_option maxRecDepth 100000
set_option maxHeartbeats 8000000
namespace Mine
theorem fill4 (w : World) (h₀ : Heap) : (Hd.hd.heap_39 w.params).In h₀ → PySem.Challenge.rw_pg0018_01.row.prog = PySem.Challenge.rw_pg0018_01.row.prog := by k_fill; intro _; rfl
section
variable {prog : Program} {w : World} {A : Around} {E : Value → Shared → Prop} {s : Shared} {env : Env}
theorem callWith_typeC {pos : Pos} {T : String} {first : List Value} {e : PySem.Expr} {rest : List PySem.Expr} {Q : Value → Shared → Prop}
    (h : wpAny (model prog w) A (spliced (backTo pos (starEach (e :: rest) env))) (fun vs s₁ => wpC (model prog w) A (call (.type T) (first ++ vs)) Q E s₁) E s)
    (he : starEach (e :: rest) env = (false, eval e env) :: starEach rest env := by rfl) (hplain : (backTo pos (starEach rest env)).any (·.1) = false := by rfl) :
    wpC (model prog w) A (callWith pos (.type T) first (backTo pos (starEach (e :: rest) env)) []) Q E s := by
  rw [he] at h ⊢
  have h' : wpAny (model prog w) A (evalArgs (.type T) true (backTo pos ((false, eval e env) :: starEach rest env)) []) (fun a s₁ => wpC (model prog w) A (call (.type T) (first ++ a.pos) a.kw) Q E s₁) E s := evalArgs_plain h
  unfold callWith
  refine wpC_bindA (wpAny_holding (wpAny_mono h' (fun a s₁ h₁ => wpC_bindA (wpAny_standAt ?_)) fun _ _ x => x))
  have hp : (List.any (backTo pos ((false, eval e env) :: starEach rest env)) fun x => x.1) = false := by show (false || (backTo pos (starEach rest env)).any (·.1)) = false; rw [hplain]; rfl
  simp only [hp, List.any_nil, Bool.or_false]
  refine wpC_bindA (wpAny_pure ?_)
  exact wpC_bind (wpC_mono h₁ (fun r s₂ hr => wpC_of (wpAny_bind (wpAny_holding (wpAny_point (wpAny_pure hr))))) fun _ _ x => x)
end
theorem fr_grow {g h h' : Heap} {L : Addr} {m : Str → Option Value} (F : Fr g L h m) (hk : ∀ b o, h.get? b = some o → h'.get? b = some o) : Fr g L h' m := by
  obtain ⟨oL, es, ep, hL, r⟩ := F.ns
  exact ⟨⟨oL, es, ep, hk _ _ hL, r⟩, fun b o e => hk b o (F.keep b o e), F.above⟩
theorem fresh_at {g h : Heap} {L : Addr} {m : Str → Option Value} (F : Fr g L h m) : L ≠ h.objs.size ∧ g.get? h.objs.size = none := by
  refine ⟨Nat.ne_of_lt F.ns.lt, ?_⟩
  cases e : g.get? h.objs.size with
  | none => rfl
  | some o => exact absurd (Heap.lt_size (F.keep _ _ e)) (Nat.lt_irrefl _)
/-- what stands turned about: the first n octets' places -/
structure SwJ (data : Array UInt8) (width n : Nat) (b : Array UInt8) : Prop where
  size : b.size = data.size
  at' : ∀ i j, j < width → i * width + j < n → b[i * width + (width - 1 - j)]? = data[i * width + j]?
theorem SwJ.zero {data : Array UInt8} {width : Nat} : SwJ data width (0 * width) (Array.replicate data.size 0) := ⟨by simp, fun i j _ h => absurd h (by omega)⟩
theorem rangeSize_rows {k width : Nat} (hw : 1 ≤ width) : Builtin.Range.rangeSize 0 ((k * width : Nat) : Int) (width : Int) = (k : Int) := by
  unfold Builtin.Range.rangeSize
  rw [if_pos (by omega)]
  rcases Nat.eq_zero_or_pos k with rfl | hk
  · simp
  · have hp : 0 < k * width := Nat.mul_pos hk hw
    rw [if_pos (by omega)]
    have : (((k * width : Nat) : Int) - 0 - 1) / (width : Int) = (k : Int) - 1 := by
      have e : (((k * width : Nat) : Int) - 0 - 1) = ((width : Int) - 1) + ((k : Int) - 1) * (width : Int) := by
        rw [Int.sub_mul]; push_cast; omega
      rw [e, Int.add_mul_ediv_right _ _ (by omega), Int.ediv_eq_zero_of_lt (by omega) (by omega)]
      omega
    omega
theorem small_ok {n c : Int} {k : Nat} (hr : Builtin.Range.rangeSize 0 n c = (k : Int)) (hk : k ≤ 1000) (h0 : 0 ≤ n) (h1 : n ≤ 1000) (hc : 1 ≤ c) (hc4 : c ≤ 100) : Builtin.Range.small 0 n c = true := by
  unfold Builtin.Range.small
  rw [hr, if_pos (by omega)]
  unfold Builtin.Range.rangeFitsLong
  simp only [Bool.and_eq_true, Bool.or_eq_true, decide_eq_true_eq]
  refine ⟨⟨⟨⟨?_, ?_⟩, ?_⟩, ?_⟩, .inr ?_⟩ <;> constructor <;> omega
theorem fr_but {g h h' : Heap} {L S : Addr} {m : Str → Option Value} (F : Fr g L h m) (hs : Heap.SameBut S h h') (hL : L ≠ S) (hg : g.get? S = none) : Fr g L h' m := by
  obtain ⟨oL, es, ep, e, r⟩ := F.ns
  refine ⟨⟨oL, es, ep, hs.extBut _ _ hL e, r⟩, fun b o e => hs.extBut b o (fun q => ?_) (F.keep b o e), F.above⟩
  rw [q, hg] at e; cases e
theorem SwJ.next {data b : Array UInt8} {width i j k : Nat} (h : SwJ data width (i * width + j) b) (hj : j < width) (hi : i < k) (hsz : data.size = k * width) (hx : i * width + j < data.size) :
    SwJ data width (i * width + (j + 1)) (b.setIfInBounds (i * width + (width - 1 - j)) data[i * width + j]) := by
  have hlt : i * width + (width - 1 - j) < data.size := by
    rw [hsz]
    have : i * width + width ≤ k * width := by have := Nat.mul_le_mul_right width hi; rw [Nat.succ_mul] at this; exact this
    omega
  refine ⟨by rw [Array.size_setIfInBounds, h.size], fun i' j' hj' hlt' => ?_⟩
  rw [Array.getElem?_setIfInBounds]
  by_cases he : i * width + (width - 1 - j) = i' * width + (width - 1 - j')
  · rw [if_pos he, if_pos (by rw [h.size]; exact hlt)]
    have hii : i = i' := by
      have h1 : (i * width + (width - 1 - j)) / width = (i' * width + (width - 1 - j')) / width := by rw [he]
      rw [Nat.mul_comm i, Nat.mul_comm i', Nat.mul_add_div (by omega), Nat.mul_add_div (by omega), Nat.div_eq_of_lt (by omega), Nat.div_eq_of_lt (by omega)] at h1
      omega
    subst hii
    have : j = j' := by omega
    subst this
    rw [Array.getElem?_eq_getElem hx]
  · rw [if_neg he]
    refine h.at' i' j' hj' ?_
    rcases Nat.lt_or_ge (i' * width + j') (i * width + j) with h1 | h1
    · exact h1
    · exfalso
      have e : i' * width + j' = i * width + j := by omega
      have hii : i' = i := by
        have h1 : (i' * width + j') / width = (i * width + j) / width := by rw [e]
        rw [Nat.mul_comm i', Nat.mul_comm i, Nat.mul_add_div (by omega), Nat.mul_add_div (by omega), Nat.div_eq_of_lt (by omega), Nat.div_eq_of_lt (by omega)] at h1
        omega
      subst hii
      have : j' = j := by omega
      subst this
      exact he rfl
theorem swap_call {w : World} {loose : List Str} {mean : ExcName → Option Value} {mg mb : Str → Option Value} {cn : Str} {cs : Scope} {a : Addr} {ccd : Value} {cl : List (Str × Addr)} {base h₀ : Heap} {L : Addr} {m : Str → Option Value} {s : Shared} {Q E : Value → Shared → Prop} {news : List (Addr × Obj)}
   {data : Array UInt8} {td tw : Tok} {width k : Nat}
    (B : Below callerA base [] h₀) (F : Fr h₀ L s.heap m) (X : (Hd.hd.heap_39 w.params).In h₀) (N : News h₀ L s.heap news) (T : Top Hd.hd.view_39 loose mean mg mb h₀) (hk : cs.kind = .function)
    (hw : 1 ≤ width) (hw4 : width ≤ 4) (hk5 : k ≤ 5) (hsz : data.size = k * width)
    (ret : ∀ (r : Array UInt8) t h' tk', r.size = data.size → (∀ i, i < k → ∀ j, j < width → r[i * width + (width - 1 - j)]? = data[i * width + j]?) → Fr h₀ L h' m → News h₀ L h' news → Q (.bytes r t) { s with heap := h', toks := tk' }) :
    wpC (model PG w) (callerA.deeper (envX cn cs L a ccd cl)) (call (.ref 49) [.bytes data td, .int width tw]) Q E s := by
  w_top off
  refine wpC_call ?_
  k_dflt (refine' codeC_R [] (fun q hq => (nomatch hq)) ?k1 ?k2 ?k3 ?k4 ?k5 ?kA ?kF ?kK ?k6 ?k7 ?k8 ?k9 ?kB ?kD ?_ ?c2 ?c3 ?c4; (case kA => exact rfl); (case kF => exact rfl); (case kK => first | exact rfl | assumption); (case k1 => k_asm); (case k2 => k_asm); (case k3 => k_asm); (case k4 => k_asm); (case k5 => k_asm); (case k6 => k_is); (case k7 => k_is); (case k8 => k_room); (case k9 => first | exact BindsTo.of_eq rfl | fail "k_enter: no rule for these arguments"); (case kB => exact rfl); (case kD => exact rfl); (case c2 => exact rfl); (case c3 => exact rfl); (case c4 => exact rfl); k_whole; intro g' L' h' tk' F' N' B' X' T' lL; (try dsimp only))
  have hbig : k * width ≤ 20 := Nat.mul_le_mul hk5 hw4
  refine wpC_execs_cons (wpC_Assign_Name (wpC_Call ?_))
  walk1
  refine callWith_typeC ?_
  (iterate 9 walk1)
  refine call_ba (by omega) (by omega) fun h₂ hS hkp => ?_
  rename Fr g' L' _ _ => F₁
  replace F₁ : Fr g' L' h' _ := F₁
  have hF₂ := fr_grow F₁ hkp
  have hfr := fresh_at F₁
  have hN₂ : News g' L' h₂ [(h'.objs.size, baO (Array.replicate data.size 0))] := fun p hp => by
    rw [List.mem_singleton.mp hp]
    exact ⟨hS, Ne.symm hfr.1, hfr.2⟩
  clear hS hkp hfr F₁
  revert hF₂ hN₂
  dsimp only
  generalize h'.objs.size = S
  intro F₂ N₂
  walk1
  refine wpC_of ?_
  (iterate 20 walk1)
  rename Fr g' L' _ _ => F₃
  rename News g' L' _ _ => N₃
  rename IsRange _ _ _ _ _ _ _ _ => hr
  have hsize : Builtin.Range.rangeSize 0 (data.size : Int) (width : Int) = (k : Int) := by
    rw [hsz]
    exact rangeSize_rows hw
  with_unfolding_all refine krs_iter (n := k) (by rfl) hr (small_ok hsize (by omega) (by omega) (by omega) (by omega) (by omega)) hsize F₃ N₃ ?_
  intro I lI
  clear hr
  refine krs_run [Str.ofString "i", Str.ofString "j"] (fun i n' => ∃ b, n' = [(S, baO b)] ∧ SwJ data width (i * width) b) ?_ ?_ _ ⟨_, rfl, SwJ.zero⟩
  · rintro i u n' t h₃ tk₃ hi ⟨b, rfl, hJ⟩ F₄ N₄
    replace F₄ : Fr g' L' h₃ _ := F₄
    replace N₄ : News g' L' h₃ _ := N₄
    clear F₃ N₃
    (iterate 9 walk1)
    rename Fr g' L' _ _ => F₅
    rename News g' L' _ _ => N₅
    rename IsRange _ _ _ _ _ _ _ _ => hr
    have hsize₂ : Builtin.Range.rangeSize 0 (width : Int) 1 = (width : Int) := by have := @rangeSize_rows width 1 (by omega); simpa using this
    with_unfolding_all refine krs_iter (n := width) (by rfl) hr (small_ok hsize₂ (by omega) (by omega) (by omega) (by omega) (by omega)) hsize₂ F₅ N₅ ?_
    intro I₂ lI₂
    clear hr
    refine krs_run [Str.ofString "j"] (fun j n' => ∃ b, n' = [(I, krsIt (0 + ((i + 1 : Nat) : Int) * width) ((k : Int) - ((i + 1 : Nat) : Int)) width), (S, baO b)] ∧ SwJ data width (i * width + j) b) ?_ ?_ _ ⟨_, rfl, hJ⟩
    · rintro j u₂ n' t₂ h₄ tk₄ hj ⟨b₂, rfl, hJ₂⟩ F₆ N₆
      replace F₆ : Fr g' L' h₄ _ := F₆
      replace N₆ : News g' L' h₄ _ := N₆
      clear F₅ N₅
      have hb₂ := hJ₂.size
      have hin : i * width + j < data.size := by
        rw [hsz]
        have : i * width + width ≤ k * width := by have := Nat.mul_le_mul_right width hi; rw [Nat.succ_mul] at this; exact this
        omega
      (iterate 8 walk1)
      refine byte_item (j := i * width + j) (by push_cast; omega) hin (by omega) fun t₃ tk₅ => ?_
      (iterate 11 walk1)
      have hSn := (N₆ (S, baO b₂) (.tail _ (.tail _ (.head _)))).1
      have hne : (N₆ (S, baO b₂) (.tail _ (.tail _ (.head _)))).2.1 = (N₆ (S, baO b₂) (.tail _ (.tail _ (.head _)))).2.1 := rfl
      have hrow : i * width + width ≤ k * width := by have := Nat.mul_le_mul_right width hi; rw [Nat.succ_mul] at this; exact this
      have hbI : byteI data (i * width + j) = (data[i * width + j].toNat : Int) := by
        unfold byteI
        rw [List.getD_eq_getElem?_getD, Array.getElem?_toList, Array.getElem?_eq_getElem hin]; rfl
      have hlt := (data[i * width + j]).toNat_lt
      refine ba_setItem hSn (by push_cast; omega) (by rw [hb₂, hsz]; push_cast; omega) (by omega) (by rw [hbI]; omega) (by rw [hbI]; omega) fun h₅ hS₅ hs₅ => ?_
      rw [show ((0 : Int) + (i : Int) * (width : Int) + (width : Int) - 1 - (0 + (j : Int) * 1)).toNat = i * width + (width - 1 - j) from by rw [show ((0 : Int) + (i : Int) * (width : Int) + (width : Int) - 1 - (0 + (j : Int) * 1)) = ((i * width + (width - 1 - j) : Nat) : Int) from by push_cast; omega]; rfl, hbI, show ((data[i * width + j].toNat : Int)).toNat.toUInt8 = data[i * width + j] from by simp] at hS₅
      have F₇ := fr_but F₆ hs₅ (Ne.symm (N₆ (S, baO b₂) (.tail _ (.tail _ (.head _)))).2.1) (N₆ (S, baO b₂) (.tail _ (.tail _ (.head _)))).2.2
      have hSI₂ : S < I₂ := lI₂ _ (.tail _ (.head _))
      have hII₂ : I < I₂ := lI₂ _ (.head _)
      have hSI : S < I := lI _ (.head _)
      have N₇ : News g' L' h₅ [(I₂, krsIt (0 + ((j + 1 : Nat) : Int) * 1) ((width : Int) - ((j + 1 : Nat) : Int)) 1), (I, krsIt (0 + ((i + 1 : Nat) : Int) * width) ((k : Int) - ((i + 1 : Nat) : Int)) width), (S, baO (b₂.setIfInBounds (i * width + (width - 1 - j)) data[i * width + j]))] := by
        intro p hp
        rcases List.mem_cons.mp hp with rfl | hp
        · have z := N₆ _ (List.Mem.head _)
          exact ⟨hs₅.extBut _ _ (Nat.ne_of_gt hSI₂) z.1, z.2⟩
        rcases List.mem_cons.mp hp with rfl | hp
        · have z := N₆ _ (.tail _ (List.Mem.head _))
          exact ⟨hs₅.extBut _ _ (Nat.ne_of_gt hSI) z.1, z.2⟩
        rw [List.mem_singleton.mp hp]
        exact ⟨hS₅, (N₆ (S, baO b₂) (.tail _ (.tail _ (.head _)))).2⟩
      dsimp only
      walk1
      refine UnrEnd.intro F₇ N₇ [(I, krsIt (0 + ((i + 1 : Nat) : Int) * width) ((k : Int) - ((i + 1 : Nat) : Int)) width), (S, baO (b₂.setIfInBounds (i * width + (width - 1 - j)) data[i * width + j]))] (fun p hp => hp) (fun p hp => ?_) ⟨fun y hy => ?_, _, rfl, hJ₂.next hj hi hsz hin⟩
      · rcases List.mem_cons.mp hp with rfl | hp
        · exact Nat.ne_of_lt hII₂
        · rw [List.mem_singleton.mp hp]; exact Nat.ne_of_lt hSI₂
      · simp only [List.contains_cons, List.contains_nil, Bool.or_false, beq_eq_false_iff_ne, ne_eq] at hy
        simp [hy]
    · rintro u₂ n' h₄ tk₄ ⟨b₂, rfl, hJ₂⟩ F₆ N₆
      replace F₆ : Fr g' L' h₄ _ := F₆
      replace N₆ : News g' L' h₄ _ := N₆
      clear F₅ N₅
      dsimp only
      walk1
      have hSI : S < I := lI _ (.head _)
      refine UnrEnd.intro F₆ N₆ [(S, baO b₂)] (fun p hp => hp) (fun p hp => ?_) ⟨fun y hy => ?_, _, rfl, by rw [Nat.succ_mul]; exact hJ₂⟩
      · rw [List.mem_singleton.mp hp]; exact Nat.ne_of_lt hSI
      · simp only [List.contains_cons, List.contains_nil, Bool.or_false, Bool.or_eq_false_iff, beq_eq_false_iff_ne, ne_eq] at hy
        simp [hy]
  · rintro u n' h₃ tk₃ ⟨b, rfl, hJ⟩ F₄ N₄
    replace F₄ : Fr g' L' h₃ _ := F₄
    replace N₄ : News g' L' h₃ _ := N₄
    clear F₃ N₃
    have hb := hJ.size
    dsimp only
    (iterate 8 walk1)
    refine call_bytes_ba (N₄ _ (List.Mem.head _)).1 (by omega) fun t₃ tk₅ => ?_
    refine endR_val F₄ N₄ (fun p hp => nomatch hp) (fun F9 N9 => ret b _ _ _ hb (fun i hi j hj => hJ.at' i j hj ?_) F9 N9)
    have hrow : i * width + width ≤ k * width := by have := Nat.mul_le_mul_right width hi; rw [Nat.succ_mul] at this; exact this
    omega
end Mine
end

section
open PySem PySem.W PyProof.Rows PySem.Calls
set_option maxRecDepth 100000
set_option maxHeartbeats 8000000
namespace Mine
theorem fill5 (w : World) (h₀ : Heap) : (Hd.hd.heap_39 w.params).In h₀ → PySem.Challenge.rw_pg0018_01.row.prog = PySem.Challenge.rw_pg0018_01.row.prog := by k_fill; intro _; rfl
theorem allLt_ne' {x : Addr} : ∀ {l : List (Addr × Obj)}, AllLt x l → ∀ p ∈ l, p.1 ≠ x
  | [], _, _, h => nomatch h
  | q :: r, a, p, h => by
    rcases List.mem_cons.mp h with rfl | h
    · exact Nat.ne_of_lt a.1
    · exact allLt_ne' a.2 p h
local macro_rules | `(tactic| k_lt $h) => `(tactic| (replace $h := allLt_of $h; simp only [AllLt, and_true] at $h:ident; (have kz := $h); (repeat (replace kz := And.right kz))))
local macro_rules | `(tactic| k_all) => `(tactic| first | assumption | exact allLt_ne' (by assumption))

/-- a row: so many terms, each an octet from 1 on -/
def GoodRow (width : Nat) (r : List Int) : Prop := r.length = width ∧ ∀ x ∈ r, 1 ≤ x ∧ x ≤ 255
/-- the values that stand in the list of rows, and the rows -/
structure RowsIn (rv : List Value) (rs : List (List Int)) (os : List (Addr × Obj)) : Prop where
  len : rv.length = rs.length
  at' : ∀ (i : Nat) (r : List Int), rs[i]? = some r → ∃ (b : Addr) (ws : List Value) (k : Nat), rv[i]? = some (Value.ref b) ∧ IntsAre ws r ∧ (b, listOf ws.toArray k) ∈ os
theorem RowsIn.nil {os : List (Addr × Obj)} : RowsIn [] [] os := ⟨rfl, fun i r h => by simp at h⟩
theorem RowsIn.snoc {rv : List Value} {rs : List (List Int)} {os : List (Addr × Obj)} {a : Addr} {vs : List Value} {n : Nat} {r : List Int} (h : RowsIn rv rs os) (hi : IntsAre vs r) : RowsIn (rv ++ [.ref a]) (rs ++ [r]) ((a, listOf vs.toArray n) :: os) := by
  refine ⟨by simp [h.len], fun i r' hr => ?_⟩
  rw [List.getElem?_append] at hr
  split at hr
  · rename_i hlt
    obtain ⟨b, ws, k, h1, h2, h3⟩ := h.at' i r' hr
    exact ⟨b, ws, k, by rw [List.getElem?_append_left (by rw [h.len]; exact hlt)]; exact h1, h2, .tail _ h3⟩
  · rename_i hge
    have h0 : i - rs.length = 0 := by
      rcases Nat.eq_zero_or_pos (i - rs.length) with h | h
      · exact h
      · rw [List.getElem?_eq_none (show [r].length ≤ i - rs.length from h)] at hr; cases hr
    rw [h0] at hr
    obtain rfl : r = r' := by simpa using hr
    have hi' : i = rv.length := by rw [h.len]; omega
    exact ⟨a, vs, n, by subst hi'; simp, hi, .head _⟩
theorem good_mix {width sh : Nat} {ar tl : List Int} (ha : GoodRow width ar) (ht : GoodRow width tl) (hs : sh ≤ width) : GoodRow width (ar.take sh ++ tl.drop sh) := by
  refine ⟨by rw [List.length_append, List.length_take, List.length_drop, ha.1, ht.1]; omega, fun x hx => ?_⟩
  rcases List.mem_append.mp hx with h | h
  · exact ha.2 x (List.mem_of_mem_take h)
  · exact ht.2 x (List.mem_of_mem_drop h)
theorem good_terms {width : Nat} {y : Int} : GoodRow width (List.map (fun k' : Int => 1 + (y.fdiv (5 ^ k'.toNat)).fmod 255) (rangeKs 0 ((width : Int) - 0).toNat)) := by
  refine ⟨by simp [rangeKs], fun x hx => ?_⟩
  obtain ⟨k, _, rfl⟩ := List.mem_map.mp hx
  have h0 := Int.fmod_nonneg_of_pos (y.fdiv (5 ^ k.toNat)) (show (0 : Int) < 255 by decide)
  have h1 := Int.fmod_lt_of_pos (y.fdiv (5 ^ k.toNat)) (show (0 : Int) < 255 by decide)
  omega
theorem pow5_le : ∀ {k : Int}, 0 ≤ k → k ≤ 3 → 1 ≤ (5 : Int) ^ k.toNat ∧ (5 : Int) ^ k.toNat ≤ 125 := by
  intro k h0 h3
  rcases (show k = 0 ∨ k = 1 ∨ k = 2 ∨ k = 3 by omega) with rfl | rfl | rfl | rfl <;> decide
section
variable {prog : Program} {w : World} {A : Around} {E : Value → Shared → Prop} {s : Shared} {a k : Int} {t u : Tok} {Q : Value → Shared → Prop}
theorem pow5_rule (h0 : 0 ≤ k) (h3 : k ≤ 3) (h : Q (.int (5 ^ k.toNat) s.toks) { s with toks := s.toks + 1 }) : wpAny (model prog w) A (binaryOp .Pow (.int 5 t) (.int k u)) Q E s :=
  pow_int_small h0 (by omega) (by decide) h
theorem div5_rule (h0 : 0 ≤ k) (h3 : k ≤ 3) (h : Q (.int (a.fdiv (5 ^ k.toNat)) s.toks) { s with toks := s.toks + 1 }) : wpAny (model prog w) A (binaryOp .FloorDiv (.int a t) (.int (5 ^ k.toNat) u)) Q E s := by
  have h5 := pow5_le h0 h3
  refine floordiv_int (by omega) h (Or.inl (PyProof.noPylong_of_log2 (Nat.lt_of_le_of_lt (Nat.log2_le_self _) (by omega))))
end
local macro_rules | `(tactic| walk_at "subscriptTail Name Slice ref ref") => `(tactic| (k_here; (with_reducible show wpAny _ _ (subscriptTail _ (PySem.Expr.Slice _ _ none _) (Value.ref _) (Value.ref _)) _ _ _); k_dflt (refine' kmk_slice_ints ?F ?N ?l ?p ?q ?i ?m ?c ?_ ?s ?t ?z; (case F => k_asm); (case N => k_asm); (case l => kmk_list); (case p => kmk_part); (case q => kmk_part); (case i => l_ints); (case m => kmk_nums); (case c => kmk_len); (case s => with_unfolding_all rfl); (case t => kmk_pure); (case z => kmk_size)); intro D' ws' h' F' N' l1 hI' hC' hL'; (try k_lt l1); (try k_sweep)))
local macro_rules | `(tactic| walk_at "call builtin:list.append") => `(tactic| (k_here; (with_reducible show wpAny _ _ (call (Value.builtin _) [Value.ref _, _]) _ _ _); k_dflt (refine' append_K ?k1 ?k2 ?k3 ?_ ?z; (case k1 => k_asm); (case k2 => k_asm); (case k3 => k_upd); (case z => assumption); k_whole); intro h' F' N'; (try k_sweep)))
theorem rows_call {w : World} {loose : List Str} {mean : ExcName → Option Value} {mg mb : Str → Option Value} {cn : Str} {cs : Scope} {a : Addr} {ccd : Value} {cl : List (Str × Addr)} {base h₀ : Heap} {L : Addr} {m : Str → Option Value} {s : Shared} {Q E : Value → Shared → Prop} {news : List (Addr × Obj)}
   {nl : Addr} {vs : List Value} {ns : List Int} {n : Nat} {tw : Tok} {width : Nat}
    (B : Below callerA base [] h₀) (F : Fr h₀ L s.heap m) (X : (Hd.hd.heap_39 w.params).In h₀) (N : News h₀ L s.heap news) (T : Top Hd.hd.view_39 loose mean mg mb h₀) (hk : cs.kind = .function)
    (hm : (nl, listOf vs.toArray n) ∈ news) (hi : IntsAre vs ns) (hw : 2 ≤ width) (hw4 : width ≤ 4) (hnz : ns.length ≤ 1000)
    (ret : ∀ (x : Addr) (rv : List Value) (rn : Nat) (rs : List (List Int)) (os : List (Addr × Obj)) h' tk', RowsIn rv rs os → rs.length = ns.length → (∀ r ∈ rs, GoodRow width r) → Fr h₀ L h' m → News h₀ L h' ((x, listOf rv.toArray rn) :: os ++ news) →
      (∀ p ∈ news, ∀ q ∈ (x, listOf rv.toArray rn) :: os, p.1 ≠ q.1) → (∀ q ∈ os, x < q.1) → Q (.ref x) { s with heap := h', toks := tk' }) :
    wpAny (model PG w) (callerA.deeper (envX cn cs L a ccd cl)) (call (.ref 54) [.ref nl, .int width tw]) Q E s := by
  w_top off
  refine wpAny_call ?_
  k_dflt (refine' code_R [(nl, listOf vs.toArray n)] (fun q hq => List.mem_singleton.mp hq ▸ hm) ?k1 ?k2 ?k3 ?k4 ?k5 ?kA ?kF ?kK ?k6 ?k7 ?k8 ?k9 ?kB ?kD ?_ ?c2 ?c3 ?c4; (case kA => exact rfl); (case kF => exact rfl); (case kK => first | exact rfl | assumption); (case k1 => k_asm); (case k2 => k_asm); (case k3 => k_asm); (case k4 => k_asm); (case k5 => k_asm); (case k6 => k_is); (case k7 => k_is); (case k8 => k_room); (case k9 => first | exact BindsTo.of_eq rfl | fail "k_enter: no rule for these arguments"); (case kB => exact rfl); (case kD => decide +kernel); (case c2 => exact rfl); (case c3 => exact rfl); (case c4 => exact rfl); k_whole; intro g' L' h' tk' cells' F' N' Y' B' X' T' lL; k_cells Y'; (try simp only [List.cons_append, List.nil_append] at N'); (try dsimp only))
  (iterate 34 walk1)
  (iterate 5 walk1)
  rename Fr g' L' _ _ => F₁
  rename News g' L' _ _ => N₁
  rename_i co hco rl h1 l1 kz1 ll h2 l2 kz2 al aw h3 hI hC hL l3 kz3 tp h4 l4 kz4 h5 h6 h7
  replace N₁ : News g' L' h7 [(L' + 1, co), (rl, listOf #[] 0), (nl, listOf vs.toArray n), (al, listOf aw.toArray 0)] := fun p hp => N₁ p (by
    simp only [List.mem_cons, List.not_mem_nil, or_false] at hp ⊢
    rcases hp with rfl | rfl | rfl | rfl <;> simp)
  with_unfolding_all refine For_turns F₁ ?_
  walk1
  with_unfolding_all refine iter_listTurns (lo := listOf vs.toArray n) (vs := vs) (by rfl) F₁ N₁ (.tail _ (.tail _ (.head _))) (by rfl) (by rfl) ?_
  intro I lI
  have lI2 := allLt_of lI
  simp only [AllLt] at lI2
  have lL2 := allLt_of lL
  simp only [AllLt] at lL2
  refine items_run2 [Str.ofString "x", Str.ofString "shared", Str.ofString "terms"] (Str.ofString "rows") (Str.ofString "ahead")
    (fun i v1 v2 n' => ∃ co c rv rn rs al av an ar os, co.data = .cell c ∧ v1 = .ref rl ∧ v2 = .ref al ∧ n' = (L' + 1, co) :: (rl, listOf (List.toArray rv) rn) :: (nl, listOf vs.toArray n) :: (al, listOf (List.toArray av) an) :: os ∧
      IntsAre av ar ∧ GoodRow width ar ∧ (∀ r ∈ rs, GoodRow width r) ∧ rs.length = i ∧ RowsIn rv rs ((al, listOf (List.toArray av) an) :: os) ∧ (∀ p ∈ (al, listOf (List.toArray av) an) :: os, rl < p.1) ∧ (∀ p ∈ (al, listOf (List.toArray av) an) :: os, p.1 ≠ I)) ?_ ?_ _ _ _ (by rfl) (by rfl)
    ⟨co, _, [], 0, [], al, aw, 0, _, [], hco, rfl, rfl, rfl, hI, ⟨by rw [hC]; simp; omega, fun x hx => ?_⟩, (fun _ h => (nomatch h)), rfl, RowsIn.nil, fun p hp => by rw [List.mem_singleton.mp hp]; exact l3.2.1, fun p hp => by rw [List.mem_singleton.mp hp]; exact Nat.ne_of_lt (lI _ (by simp))⟩
  · rintro i it u v1 v2 n' hit ⟨co, c, rv, rn, rs, al, av, an, ar, os, hco, rfl, rfl, rfl, hIa, hG, hGs, hlen, hR, hab, hI2⟩ v h₁ tk₁ hv F₂
    obtain ⟨v', hv', rfl⟩ : ∃ v', vs[i]? = some v' ∧ Itm.val v' = it := by simpa using hit
    obtain rfl : v = v' := hv
    obtain ⟨x, tx, rfl, hx⟩ := IntsAre.at hi i v hv'
    refine AllObj.cons (fun oI hoI => AllObj.nil (fun N₂ => ?_))
    simp only [List.cons_append, List.nil_append] at N₂
    replace F₂ : Fr g' L' h₁ _ := F₂
    replace N₂ : News g' L' h₁ _ := N₂
    clear F₁ N₁
    have q1 : @LT.lt Nat _ (L' + 1) al := Nat.lt_trans l1.1 (hab _ (.head _))
    have q2 : ∀ p ∈ os, p.1 ≠ L' + 1 := fun p hp => Nat.ne_of_gt (Nat.lt_trans l1.1 (hab _ (.tail _ hp)))
    have q3 : @LT.lt Nat _ rl al := hab _ (.head _)
    have q4 : ∀ p ∈ os, p.1 ≠ rl := fun p hp => Nat.ne_of_gt (hab _ (.tail _ hp))
    have hs0 : 0 ≤ x.fmod (width : Int) := Int.fmod_nonneg_of_pos _ (by omega)
    have hs1 : x.fmod (width : Int) < (width : Int) := Int.fmod_lt_of_pos _ (by omega)
    have hal : ar.length = width := hG.1
    have hrv : rv.toArray.size ≤ sizeLine := by
      rw [List.size_toArray, hR.len, hlen, sizeLine_eq]
      have := (List.getElem?_eq_some_iff.mp hx).1
      omega
    have hs2 : 0 ≤ (width : Int) - x.fmod (width : Int) := by omega
    (iterate 24 walk1)
    (iterate 21 walk1)
    · refine pow5_rule (by omega) (by omega) ?_
      refine div5_rule (by omega) (by omega) ?_
      (iterate 5 walk1)
    · (iterate 24 walk1)
      · (iterate 25 walk1)
        rename Fr g' L' _ _ => F₉
        rename News g' L' _ _ => N₉
        rename _ = Data.cell (some (Value.int (x.fdiv _) _)) => hcy
        rename_i D ws h8 hW l8 kz8 h9a h9
        have hGn := good_mix (sh := (x.fmod (width : Int)).toNat) hG (good_terms (y := x.fdiv (width : Int))) (by omega)
        simp only [List.push_toArray] at N₉
        refine unrEndW_keep (news := _ :: _ :: _ :: _ :: _ :: os) F₉ N₉ (fun p hp => ?_) (fun p hp q hq => ?_) ⟨⟨by k_mem, trivial⟩, fun y hy e1 e2 => ?_, _, _, by rfl, by rfl, _, _, rv ++ [.ref D], rn + 1, rs ++ [_], D, ws, 0, _, (al, listOf av.toArray an) :: os, hcy, rfl, rfl, rfl, hW, hGn, fun r hr => ?_, by rw [List.length_append, hlen]; rfl, hR.snoc hW, fun p hp => ?_, fun p hp => ?_⟩
        · simp only [List.cons_append, List.nil_append, List.mem_cons] at hp ⊢
          rcases hp with h | h | h | h | h | h | h <;> simp only [h, true_or, or_true]
        · rw [List.mem_singleton.mp hq]
          rcases List.mem_cons.mp hp with rfl | hp
          · exact Nat.ne_of_lt lI2.1
          rcases List.mem_cons.mp hp with rfl | hp
          · exact Nat.ne_of_lt lI2.2.1
          rcases List.mem_cons.mp hp with rfl | hp
          · exact Nat.ne_of_lt lI2.2.2.1
          rcases List.mem_cons.mp hp with rfl | hp
          · exact Nat.ne_of_gt l8.2.2.2.2.1
          · exact hI2 p hp
        · simp only [List.contains_cons, List.contains_nil, Bool.or_false, Bool.or_eq_false_iff, beq_eq_false_iff_ne, ne_eq] at hy
          simp [hy, e1, e2]
        · rcases List.mem_append.mp hr with h | h
          · exact hGs r h
          · rw [List.mem_singleton.mp h]; exact hGn
        · rcases List.mem_cons.mp hp with rfl | hp
          · exact l8.2.2.2.2.2.2.1
          · exact hab p hp
        · rcases List.mem_cons.mp hp with rfl | hp
          · exact Nat.ne_of_gt l8.2.2.2.2.1
          · exact hI2 p hp
      · (iterate 42 walk1)
        rename Fr g' L' _ _ => F₉
        rename News g' L' _ _ => N₉
        rename _ = Data.cell (some (Value.int (x.fdiv _) _)) => hcy
        rename_i D ws h8 hW l8 kz8 h9a h9
        have hGn := good_mix (sh := ((width : Int) - x.fmod (width : Int)).toNat) (good_terms (y := x.fdiv (width : Int))) hG (by omega)
        simp only [List.push_toArray] at N₉
        refine unrEndW_keep (news := _ :: _ :: _ :: _ :: _ :: os) F₉ N₉ (fun p hp => ?_) (fun p hp q hq => ?_) ⟨⟨by k_mem, trivial⟩, fun y hy e1 e2 => ?_, _, _, by rfl, by rfl, _, _, rv ++ [.ref D], rn + 1, rs ++ [_], D, ws, 0, _, (al, listOf av.toArray an) :: os, hcy, rfl, rfl, rfl, hW, hGn, fun r hr => ?_, by rw [List.length_append, hlen]; rfl, hR.snoc hW, fun p hp => ?_, fun p hp => ?_⟩
        · simp only [List.cons_append, List.nil_append, List.mem_cons] at hp ⊢
          rcases hp with h | h | h | h | h | h | h <;> simp only [h, true_or, or_true]
        · rw [List.mem_singleton.mp hq]
          rcases List.mem_cons.mp hp with rfl | hp
          · exact Nat.ne_of_lt lI2.1
          rcases List.mem_cons.mp hp with rfl | hp
          · exact Nat.ne_of_lt lI2.2.1
          rcases List.mem_cons.mp hp with rfl | hp
          · exact Nat.ne_of_lt lI2.2.2.1
          rcases List.mem_cons.mp hp with rfl | hp
          · exact Nat.ne_of_gt l8.2.2.2.2.1
          · exact hI2 p hp
        · simp only [List.contains_cons, List.contains_nil, Bool.or_false, Bool.or_eq_false_iff, beq_eq_false_iff_ne, ne_eq] at hy
          simp [hy, e1, e2]
        · rcases List.mem_append.mp hr with h | h
          · exact hGs r h
          · rw [List.mem_singleton.mp h]; exact hGn
        · rcases List.mem_cons.mp hp with rfl | hp
          · exact l8.2.2.2.2.2.2.1
          · exact hab p hp
        · rcases List.mem_cons.mp hp with rfl | hp
          · exact Nat.ne_of_gt l8.2.2.2.2.1
          · exact hI2 p hp
  · rintro u v1 v2 n' h₁ tk₁ ⟨co, c, rv, rn, rs, al, av, an, ar, os, hco, rfl, rfl, rfl, hIa, hG, hGs, hlen, hR, hab, hI2⟩ F₂ N₂
    replace F₂ : Fr g' L' h₁ _ := F₂
    replace N₂ : News g' L' h₁ _ := N₂
    clear F₁ N₁
    dsimp only
    (iterate 3 walk1)
    rw [List.length_map, hi.length] at hlen
    refine endR_new ((rl, listOf rv.toArray rn) :: (al, listOf av.toArray an) :: os) F₂ N₂ (fun p hp => ?_) (fun p hp => ?_) (fun p hp q hq => ?_) (fun F9 N9 off => ret rl rv rn rs _ _ _ hR hlen hGs F9 N9 off hab)
    · simp only [List.mem_cons] at hp ⊢
      rcases hp with h | h | h <;> simp only [h, true_or, or_true]
    · rw [List.mem_singleton.mp hp]; k_mem
    · rw [List.mem_singleton.mp hp]
      have h1 : @LT.lt Nat _ nl rl := l1.2
      rcases List.mem_cons.mp hq with rfl | hq
      · exact Nat.ne_of_lt h1
      · exact Nat.ne_of_lt (Nat.lt_trans h1 (hab q hq))
  · have := List.mem_of_mem_take hx
    simp only [List.mem_cons, List.not_mem_nil, or_false] at this
    omega
end Mine
end

section
open PySem PySem.W PyProof.Rows PySem.Calls
set_option maxRecDepth 100000
set_option maxHeartbeats 2000000
namespace Mine
section
variable {prog : Program} {w : World} {A : Around} {E : Value → Shared → Prop} {s : Shared} {h₀ : Heap} {L l : Addr} {m : Str → Option Value} {news : List (Addr × Obj)} {vs : List Value} {ns : List Int} {value : PySem.Expr} {e1 e2 : Option PySem.Expr} {sp : Pos} {Q : Value → Shared → Prop}
theorem sl_from {x : Int} {t : Tok} (F : Fr h₀ L s.heap m) (N : News h₀ L s.heap news) (hl : s.heap.IsList l vs.toArray) (hi : IntsAre vs ns) (hx : 0 ≤ x) (hz : ns.length ≤ 1000)
    (h : ∀ D ws h', Fr h₀ L h' m → News h₀ L h' ((D, listOf (List.toArray ws) 0) :: news) → (∀ p ∈ news, p.1 < D) → IntsAre ws (ns.drop x.toNat) → Q (.ref D) { s with heap := h' }) :
    wpAny (model prog w) A (subscriptTail value (.Slice e1 e2 none sp) (.ref l) (.ref s.heap.objs.size)) Q E { s with heap := s.heap.push { cls := .type "slice", data := .fields #[.int x t, .none, .none] } } := by
  refine kba_turn (value' := PySem.Expr.Name (PySem.Str.ofString "_") ⟨0, 0, 0, 0⟩) (fun _ => rfl) ?_
  exact kmk_slice_ints F N hl (.int _ _) .none hi (kmk_from hi hx) rfl (fun D ws h' F' N' lt hI _ _ => h D ws h' F' N' lt hI) (by with_unfolding_all rfl) (by intro _; with_unfolding_all rfl) (by rw [List.size_toArray, hi.length, sizeLine_eq]; omega)
theorem sl_upto {x : Int} {t : Tok} (F : Fr h₀ L s.heap m) (N : News h₀ L s.heap news) (hl : s.heap.IsList l vs.toArray) (hi : IntsAre vs ns) (hx : 0 ≤ x) (hz : ns.length ≤ 1000)
    (h : ∀ D ws h', Fr h₀ L h' m → News h₀ L h' ((D, listOf (List.toArray ws) 0) :: news) → (∀ p ∈ news, p.1 < D) → IntsAre ws (ns.take x.toNat) → Q (.ref D) { s with heap := h' }) :
    wpAny (model prog w) A (subscriptTail value (.Slice e1 e2 none sp) (.ref l) (.ref s.heap.objs.size)) Q E { s with heap := s.heap.push { cls := .type "slice", data := .fields #[.none, .int x t, .none] } } := by
  refine kba_turn (value' := PySem.Expr.Name (PySem.Str.ofString "_") ⟨0, 0, 0, 0⟩) (fun _ => rfl) ?_
  exact kmk_slice_ints F N hl .none (.int _ _) hi (kmk_upto hi hx) rfl (fun D ws h' F' N' lt hI _ _ => h D ws h' F' N' lt hI) (by with_unfolding_all rfl) (by intro _; with_unfolding_all rfl) (by rw [List.size_toArray, hi.length, sizeLine_eq]; omega)
end
end Mine
end

section
open PySem PySem.W PyProof.Rows PySem.Calls
set_option maxRecDepth 100000
set_option maxHeartbeats 2000000
namespace Mine
section
variable {prog : Program} {w : World} {A : Around} {E : Value → Shared → Prop} {s : Shared} {h₀ : Heap} {L l : Addr} {m : Str → Option Value} {news : List (Addr × Obj)} {vs : List Value} {ns : List Int} {value : PySem.Expr} {e1 e2 e3 : Option PySem.Expr} {sp : Pos} {Q : Value → Shared → Prop}
theorem sl_rev {e : PySem.Expr} {t : Tok} (F : Fr h₀ L s.heap m) (N : News h₀ L s.heap news) (hl : s.heap.IsList l vs.toArray) (hi : IntsAre vs ns) (hz : ns.length ≤ 1000)
    (h : ∀ D ws h', Fr h₀ L h' m → News h₀ L h' ((D, listOf (List.toArray ws) 0) :: news) → (∀ p ∈ news, p.1 < D) → IntsAre ws ns.reverse → Q (.ref D) { s with heap := h' }) :
    wpAny (model prog w) A (subscriptTail value (.Slice none none (some e) sp) (.ref l) (.ref s.heap.objs.size)) Q E { s with heap := s.heap.push { cls := .type "slice", data := .fields #[.none, .none, .int (-1) t] } } := by
  refine kba_turn (value' := PySem.Expr.Name (PySem.Str.ofString "_") ⟨0, 0, 0, 0⟩) (fun _ => rfl) ?_
  exact krv_ints F N hl (.int _ _) hi (fun D ws h' F' N' lt hI _ => h D ws h' F' N' lt hI) (by with_unfolding_all rfl) (by intro _; with_unfolding_all rfl) (by rw [List.size_toArray, hi.length, sizeLine_eq]; omega)
theorem sl_bytes {b : Array UInt8} {bt t u : Tok} {x y : Int} (F : Fr h₀ L s.heap m) (N : News h₀ L s.heap news) (hz : b.size ≤ 1000)
    (h : ∀ h' t' k, Fr h₀ L h' m → News h₀ L h' news → Q (.bytes (KBy.picked b (some x) (some y)) t') { s with heap := h', toks := k }) :
    wpAny (model prog w) A (subscriptTail value (.Slice e1 e2 none sp) (.bytes b bt) (.ref s.heap.objs.size)) Q E { s with heap := s.heap.push { cls := .type "slice", data := .fields #[.int x t, .int y u, .none] } } := by
  refine kba_turn (value' := PySem.Expr.Name (PySem.Str.ofString "_") ⟨0, 0, 0, 0⟩) (fun _ => by with_unfolding_all rfl) ?_
  exact KBc.slice_K (ks := KBw.bInts b) F N rfl (.int _ _) (.int _ _) (by rw [KBw.ints_length]; omega) (fun h' t' k F' N' _ => h h' t' k F' N') (by with_unfolding_all rfl) (by intro _; with_unfolding_all rfl)
end
end Mine
end

section
open PySem PySem.W PyProof.Rows PySem.Calls PyProof.Rows.LCg
set_option maxRecDepth 100000
set_option maxHeartbeats 2000000
namespace Mine
section
variable {prog : Program} {w : World} {A : Around} {E : Value → Shared → Prop} {s : Shared} {h₀ : Heap} {L : Addr} {m : Str → Option Value} {env : Env} {elt iter : PySem.Expr} {x : Str} {scope : Scope} {cl : List (Str × Addr)}

theorem compEnd_mono {I C D : Addr} {oI oC oD : Obj} {s₁ s₂ : Shared} {S : List (Addr × Obj) → Prop} {r r' : Value → List (Addr × Obj) → Prop} {y : Value} (hr : ∀ y n, r y n → r' y n) (h : CompEnd h₀ L m s₁ I oI C oC D oD S r y s₂) : CompEnd h₀ L m s₁ I oI C oC D oD S r' y s₂ := by
  obtain ⟨h', tk, n', e, F, N, o, hS, z⟩ := h
  exact ⟨h', tk, n', e, F, N, o, hS, hr _ _ z⟩

/-- a comprehension by what holds between its elements -/
theorem comp_run {S : List (Addr × Obj) → Prop} {P : Nat → Value → Prop} {Fin : List Value → List (Addr × Obj) → Prop} {n : Nat} (J : Nat → List Value → List (Addr × Obj) → Prop)
    (turn : ∀ i ys news v I oI C oC D m₂ h tk (E' : Value → Shared → Prop), i < n → J i ys news → P i v → NsObj oC m₂ → m₂ x = some v → Fr h₀ L h m → News h₀ L h ((I, oI) :: (C, oC) :: (D, lst ys) :: news) → Off3 I C D news → ((@Ne Nat I C) ∧ (@Ne Nat I D) ∧ (@Ne Nat C D)) →
      wpAny (model prog w) A (eval elt (compEnvC scope cl C env)) (CompEnd h₀ L m { s with heap := h, toks := tk } I oI C oC D (lst ys) S (fun y news' => J (i + 1) (ys ++ [y]) news')) E' { s with heap := h, toks := tk })
    (fin : ∀ ys news, J n ys news → Fin ys news) : ∀ news, J 0 [] news → CompRest prog w A h₀ L m env elt x scope cl s S P Fin n 0 [] news := by
  have main : ∀ (k i : Nat), i + k = n → ∀ ys news, J i ys news → CompRest prog w A h₀ L m env elt x scope cl s S P Fin k i ys news := by
    intro k
    induction k with
    | zero =>
      intro i hi ys news hJ
      have hi' : i = n := hi
      exact fin ys news (hi' ▸ hJ)
    | succ k ih =>
      intro i hi ys news hJ v I oI C oC D m₂ h tk E' hP hC hx F N off ne
      exact wpAny_mono (turn i ys news v I oI C oC D m₂ h tk E' (by omega) hJ hP hC hx F N off ne) (fun y s₂ z => compEnd_mono (fun y n z => ih (i + 1) (by omega) _ n z) z) fun _ _ e => e
  exact fun news hJ => main n 0 (Nat.zero_add _) [] news hJ

def StepSrc (prog : Program) (w : World) (A : Around) (h₀ : Heap) (L : Addr) (m : Str → Option Value) (env : Env) (elt : PySem.Expr) (x : Str) (scope : Scope) (cl : List (Str × Addr)) (y : Str) (Q : Flow → Shared → Prop) (xv : Value) (s₁ : Shared) : Prop :=
  ∃ r a b c t u v n news, xv = .ref r ∧ A.handled = none ∧ Fr h₀ L s₁.heap m ∧ News h₀ L s₁.heap news ∧ IsRange s₁.heap r a b c t u v ∧ Builtin.Range.small a b c = true ∧ Builtin.Range.rangeSize a b c = ((n : Nat) : Int) ∧ n ≤ sizeLine ∧
    ∀ g, CompRest prog w A h₀ L m env elt x scope cl { s₁ with heap := g } (fun _ => True) (fun i v => ∃ t, v = .int (a + (i : Int) * c) t) (FinA h₀ L m { s₁ with heap := g } y Q) n 0 [] news

/-- y = [elt for x in range(a, b, c)] -/
theorem assign_comp_step {y : Str} {px py : Pos} {pos spos : Pos} {Q : Flow → Shared → Prop} (_F₀ : Fr h₀ L s.heap m) (hLe : env.locals = L)
    (hsw : swapsWith (.ListComp elt [⟨.Name x px, iter, [], 0⟩] scope pos) (some (.Name y py)) spos.line env = pure true)
    (hclos : closureFor scope env = pure cl) (hcell : ∀ z ∈ scope.names, z.2 ≠ .cell) (hkind : scope.kind = .function)
    (hnames : ∀ z ∈ scope.names, z.2 = .local → scope.names.lookup z.1 = some .local) (hx : scope.names.lookup x = some .local)
    (hy : env.kindOf y = some .local) (hp : (env.scope.kind == .class || (env.scope.kind == .module && env.locals != env.globals)) = false)
    (h : wpAny (model prog w) A (eval iter env) (StepSrc prog w A h₀ L m env elt x scope cl y Q) E s)
    (hs : ∀ x, foldedSetIterable iter env x = pure x := by intro _; rfl) :
    wpAny (model prog w) A (exec (.Assign [.Name y py] (.ListComp elt [⟨.Name x px, iter, [], 0⟩] scope pos) spos) env) Q E s := by
  subst hLe
  rw [exec_Assign_Name_used _ _ _ _ hsw]
  refine wpAny_bind (wpAny_standAt (wpAny_bind ?_))
  show wpAny _ A (do let _ ← comprehension (.ListComp elt [⟨.Name x px, iter, [], 0⟩] scope pos) scope env _ (newList []) false (eval iter env) (some (assign (.Name y py) env))) _ _ s
  refine wpAny_bind (wpAny_mono (wpAny_comprehension_free (use := some (assign (.Name y py) env)) (Q := fun _ s' => Q .next s') rfl hs hclos hkind hnames
    (wpAny_mono h (fun xv s₁ h₁ => ?_) fun _ _ e => e)) (fun _ s' hq => wpAny_pure (wpAny_pure hq)) fun _ _ e => e)
  obtain ⟨r, a, b, c, t, u, v, n, news, rfl, hh, F, N, hr, hsm, hn, hsz, R⟩ := h₁
  refine wpAny_pyIter_range hr hsm ?_
  have W : Walks prog w A s₁.heap.objs.size [s₁.heap.objs.size] [s₁.heap.objs.size] n (fun i v => ∃ t, v = .int (a + (i : Int) * c) t) (fun i h => IsRangeIter h s₁.heap.objs.size (a + (i : Nat) * c) ((n : Int) - (i : Nat)) c) := Walks.range hh _ a c n
  have stt : ∀ i (h h' : Heap) (o : Obj) (nw : List (Addr × Obj)), IsRangeIter h s₁.heap.objs.size (a + (i : Nat) * c) ((n : Int) - (i : Nat)) c → h.get? s₁.heap.objs.size = some o → h'.get? s₁.heap.objs.size = some o → (∀ b o, h₀.get? b = some o → h'.get? b = some o) → News h₀ env.locals h' nw → True → IsRangeIter h' s₁.heap.objs.size (a + (i : Nat) * c) ((n : Int) - (i : Nat)) c := by
    intro i h h' o nw st e e' _ _ _
    have st' : h.get? s₁.heap.objs.size = some _ := st
    show h'.get? s₁.heap.objs.size = some _
    rw [e', ← e]; exact st'
  refine block_U W hsz (fun i h st => ⟨_, st⟩) stt hcell hkind hx (by show IsRangeIter _ _ _ _ _; rw [hn]; simpa using Heap.get?_push_size _ rfl) (fun b hb => ?_)
    (F.keeps fun _ _ e => Heap.get?_push_of_some _ e) (N.grown fun _ _ e => Heap.get?_push_of_some _ e) (Nat.ne_of_lt F.ns.lt) (next_is_new F) (fun p hp => Nat.ne_of_lt (Heap.lt_size (N p hp).1)) trivial (R _) ?_
  · rw [List.mem_singleton.mp hb]
    show s₁.heap.objs.size < (s₁.heap.push _).objs.size
    rw [Heap.size_push]; exact Nat.lt_succ_self _
  · intro D C h' tk m' ys news' F' N' o1 hn hC₀ hD₀ hCL hDL hCD offC fin
    show wpAny _ A (assign (.Name y py) env (.ref D)) _ _ _
    refine wpAny_assign_Name (wpAny_storeName_local hy F'.ns (fun h₂ hn₂ hs₂ => ?_) hp)
    have hL₀ : h₀.get? env.locals = none := Heap.get?_none_of_le F'.above
    have F₂ : Fr h₀ env.locals h₂ (fun z => if z = y then some (.ref D) else m z) := ⟨hn₂, fun b o e => hs₂.extBut b o (fun q => by rw [q, hL₀] at e; cases e) (F'.keep b o e), F'.above⟩
    refine ⟨m', hn.sameBut hs₂ hCL, fun h'' hs'' => fin D h'' _ (F₂.change hs'' hCL hC₀) (fun p hp => ?_) o1⟩
    have z : h₂.get? p.1 = some p.2 := hs₂.extBut _ _ (N' p hp).2.1 (N' p hp).1
    refine ⟨hs''.extBut _ _ ?_ z, (N' p hp).2⟩
    rcases List.mem_cons.mp hp with rfl | hp
    · exact Ne.symm hCD
    · exact offC p hp
end
end Mine
end

section
open PySem PySem.W PyProof.Rows PySem.Calls PyProof.Rows.LCg
set_option maxRecDepth 100000
set_option maxHeartbeats 2000000
namespace Mine
/-- values that are bytes, one by one -/
def BytesAre (vs : List Value) (bs : List (Array UInt8)) : Prop := vs.length = bs.length ∧ ∀ (i : Nat) (b : Array UInt8), bs[i]? = some b → ∃ t, vs[i]? = some (Value.bytes b t)
theorem BytesAre.nil : BytesAre [] [] := ⟨rfl, fun i b h => by simp at h⟩
theorem BytesAre.snoc {vs : List Value} {bs : List (Array UInt8)} {b : Array UInt8} {t : Tok} (h : BytesAre vs bs) : BytesAre (vs ++ [.bytes b t]) (bs ++ [b]) := by
  refine ⟨by simp [h.1], fun i c hc => ?_⟩
  rw [List.getElem?_append] at hc ⊢
  split at hc
  · rename_i hlt
    rw [if_pos (by rw [h.1]; exact hlt)]
    exact h.2 i c hc
  · rename_i hge
    rw [if_neg (by rw [h.1]; exact hge), h.1]
    have h0 : i - bs.length = 0 := by
      rcases Nat.eq_zero_or_pos (i - bs.length) with h | h
      · exact h
      · rw [List.getElem?_eq_none (show [b].length ≤ i - bs.length from h)] at hc; cases hc
    rw [h0] at hc ⊢
    obtain rfl : b = c := by simpa using hc
    exact ⟨t, rfl⟩
theorem BytesAre.five {vs : List Value} {b0 b1 b2 b3 b4 : Array UInt8} (h : BytesAre vs [b0, b1, b2, b3, b4]) : ∃ t0 t1 t2 t3 t4, vs = [.bytes b0 t0, .bytes b1 t1, .bytes b2 t2, .bytes b3 t3, .bytes b4 t4] := by
  obtain ⟨hl, h⟩ := h
  obtain ⟨t0, h0⟩ := h 0 b0 rfl
  obtain ⟨t1, h1⟩ := h 1 b1 rfl
  obtain ⟨t2, h2⟩ := h 2 b2 rfl
  obtain ⟨t3, h3⟩ := h 3 b3 rfl
  obtain ⟨t4, h4⟩ := h 4 b4 rfl
  match vs, hl with
  | [v0, v1, v2, v3, v4], _ =>
    refine ⟨t0, t1, t2, t3, t4, ?_⟩
    simp at h0 h1 h2 h3 h4
    rw [h0, h1, h2, h3, h4]
end Mine
end

section
open PySem PySem.W PyProof.Rows PySem.Calls
set_option maxRecDepth 100000
set_option maxHeartbeats 2000000
namespace Mine
/-- the fraction of a row, from its head on -/
noncomputable def hdF : List Int → Int × Int
  | [] => (1, 0)
  | a :: t => (a * (hdF t).1 + (hdF t).2, (hdF t).1)
theorem contF_rev : ∀ r : List Int, contF r.reverse = ((hdF r).2, (hdF r).1)
  | [] => rfl
  | a :: t => by rw [List.reverse_cons, contF_snoc, contF_rev t]; rfl
theorem contF_hd (u v : Int) : ∀ r : List Int, (r.foldl (fun (p : Int × Int) t => (p.2, t * p.2 + p.1)) (u, v)).2 = v * (hdF r).1 + u * (hdF r).2
  | [] => by simp [hdF]
  | a :: t => by
    rw [List.foldl_cons, contF_hd _ _ t]
    simp only [hdF, Int.mul_add, Int.add_mul, ← Int.mul_assoc, Int.mul_comm v a]
    omega
theorem contF_P (r : List Int) : (contF r).2 = (hdF r).1 := by
  unfold contF; rw [contF_hd]; omega
theorem contF_Q {r : List Int} (h : r ≠ []) : (contF (r.drop 1)).2 = (hdF r).2 := by
  cases r with
  | nil => exact absurd rfl h
  | cons a t => rw [contF_P]; rfl
theorem hdF_pos : ∀ {r : List Int}, (∀ x ∈ r, 1 ≤ x ∧ x ≤ 255) → 1 ≤ (hdF r).1 ∧ 0 ≤ (hdF r).2 ∧ (hdF r).2 ≤ (hdF r).1 ∧ (r ≠ [] → 1 ≤ (hdF r).2) ∧ (hdF r).1 ≤ 256 ^ r.length
  | [], _ => by simp [hdF]
  | a :: t, h => by
    obtain ⟨h1, h2, h3, _, h5⟩ := hdF_pos (r := t) fun x hx => h x (.tail _ hx)
    have ha := h a (.head _)
    have m1 : 1 * (hdF t).1 ≤ a * (hdF t).1 := Int.mul_le_mul_of_nonneg_right ha.1 (by omega)
    have m2 : a * (hdF t).1 ≤ 255 * (hdF t).1 := Int.mul_le_mul_of_nonneg_right ha.2 (by omega)
    have e : (256 : Int) ^ (a :: t).length = 256 ^ t.length * 256 := by rw [List.length_cons, Int.pow_succ]
    rw [e]
    simp only [hdF]
    refine ⟨by omega, by omega, by omega, fun _ => h1, by omega⟩
theorem hdF_diff (a a' : Int) (t t' : List Int) : (hdF (a :: t)).1 * (hdF (a' :: t')).2 - (hdF (a' :: t')).1 * (hdF (a :: t)).2 =
    (a - a') * ((hdF t).1 * (hdF t').1) - ((hdF t).1 * (hdF t').2 - (hdF t').1 * (hdF t).2) := by
  simp only [hdF, Int.add_mul, Int.sub_mul, Int.mul_assoc, Int.mul_comm (hdF t').1 (hdF t).1, Int.mul_comm (hdF t).2 (hdF t').1, Int.mul_comm (hdF t').2 (hdF t).1]
  omega
theorem hdF_less {a a' : Int} {t t' : List Int} (h : ∀ x ∈ t, 1 ≤ x ∧ x ≤ 255) (h' : ∀ x ∈ t', 1 ≤ x ∧ x ≤ 255) (hl : t.length = t'.length) (ha : a < a') :
    (hdF (a :: t)).1 * (hdF (a' :: t')).2 < (hdF (a' :: t')).1 * (hdF (a :: t)).2 := by
  have d := hdF_diff a a' t t'
  obtain ⟨p1, p2, p3, p4, _⟩ := hdF_pos h
  obtain ⟨q1, q2, q3, q4, _⟩ := hdF_pos h'
  have m1 : 0 < (hdF t).1 * (hdF t').1 := Int.mul_pos (by omega) (by omega)
  have m2 : (a - a') * ((hdF t).1 * (hdF t').1) ≤ (-1) * ((hdF t).1 * (hdF t').1) := Int.mul_le_mul_of_nonneg_right (by omega) (by omega)
  cases t with
  | nil =>
    cases t' with
    | nil => simp only [hdF] at *; omega
    | cons _ _ => simp at hl
  | cons b t =>
    cases t' with
    | nil => simp at hl
    | cons b' t' =>
      have q4 := q4 (by simp)
      have m3 : 0 < (hdF (b :: t)).1 * (hdF (b' :: t')).2 := Int.mul_pos (by omega) (by omega)
      have m4 : (hdF (b' :: t')).1 * (hdF (b :: t)).2 ≤ (hdF (b' :: t')).1 * (hdF (b :: t)).1 := Int.mul_le_mul_of_nonneg_left p3 (by omega)
      rw [Int.mul_comm (hdF (b' :: t')).1 (hdF (b :: t)).1] at m4
      omega
/-- directions by turns, the first one of the sign e -/
noncomputable def Alt : Int → List Int → Prop
  | _, [] => True
  | e, d :: ds => 0 < e * d ∧ Alt (-e) ds
theorem cmp_due {l l' : Array UInt8} : ∀ (ds : List Int) (j : Nat) (e : Int) (r r' : List Int), e = 1 ∨ e = -1 → Alt e ds → r.length = ds.length → r'.length = ds.length → (∀ x ∈ r, 1 ≤ x ∧ x ≤ 255) → (∀ x ∈ r', 1 ≤ x ∧ x ≤ 255) →
    (∀ i x, r[i]? = some x → byteI l (j + i) = x) → (∀ i x, r'[i]? = some x → byteI l' (j + i) = x) →
    cmpAt j ds l l' = e * dueI (unlikeAt j ds l l') (signI ((hdF r).1 * (hdF r').2) ((hdF r').1 * (hdF r).2))
  | [], j, e, r, r', _, _, _, _, _, _, _, _ => by simp [cmpAt, unlikeAt, dueI]
  | d :: ds, j, e, [], r', _, _, h, _, _, _, _, _ => by simp at h
  | d :: ds, j, e, a :: t, [], _, _, _, h, _, _, _, _ => by simp at h
  | d :: ds, j, e, a :: t, a' :: t', he, hA, hl, hl', hg, hg', hb, hb' => by
    have b0 : byteI l j = a := hb 0 a rfl
    have b0' : byteI l' j = a' := hb' 0 a' rfl
    have gt : ∀ x ∈ t, 1 ≤ x ∧ x ≤ 255 := fun x hx => hg x (.tail _ hx)
    have gt' : ∀ x ∈ t', 1 ≤ x ∧ x ≤ 255 := fun x hx => hg' x (.tail _ hx)
    have hll : t.length = t'.length := by simp at hl hl'; omega
    have hd : 0 < e * d := hA.1
    rw [cmpAt, unlikeAt, b0, b0']
    rcases Int.lt_trichotomy a a' with h | h | h
    · have hs := hdF_less gt gt' hll h
      rw [if_pos h, if_pos (by omega)]
      simp only [dueI, signI, b2i]
      rw [if_neg (by simp; omega), if_pos (by simp; omega)]
      rcases he with rfl | rfl
      · rw [if_neg (by omega)]; omega
      · rw [if_pos (by omega)]; omega
    · subst h
      rw [if_neg (by omega), if_neg (by omega), if_neg (by simp)]
      have hd := hdF_diff a a t t'
      rw [Int.sub_self, Int.zero_mul] at hd
      have ih := cmp_due ds (j + 1) (-e) t t' (by omega) hA.2 (by simpa using hl) (by simpa using hl') gt gt' (fun i x hx => by rw [Nat.add_assoc, Nat.add_comm 1 i]; exact hb (i + 1) x (by simpa using hx)) (fun i x hx => by rw [Nat.add_assoc, Nat.add_comm 1 i]; exact hb' (i + 1) x (by simpa using hx))
      rw [ih]
      have hs : signI ((hdF (a :: t)).1 * (hdF (a :: t')).2) ((hdF (a :: t')).1 * (hdF (a :: t)).2) = - signI ((hdF t).1 * (hdF t').2) ((hdF t').1 * (hdF t).2) := by
        simp only [signI, b2i, decide_eq_true_eq]
        repeat' split
        all_goals omega
      rw [hs]
      cases unlikeAt (j + 1) ds l l' with
      | nil => simp [dueI]
      | cons u us => simp only [dueI, Int.neg_mul, Int.mul_neg]
    · have hs := hdF_less gt' gt hll.symm h
      rw [if_neg (by omega), if_pos h, if_pos (by omega)]
      simp only [dueI, signI, b2i]
      rw [if_pos (by simp; omega), if_neg (by simp; omega)]
      rcases he with rfl | rfl
      · rw [if_neg (by omega)]; omega
      · rw [if_pos (by omega)]; omega
theorem byteI_row {r : List Int} (hg : ∀ x ∈ r, 1 ≤ x ∧ x ≤ 255) {i : Nat} {x : Int} (h : r[i]? = some x) : byteI (byteArr r) i = x := by
  have hx := hg x (List.mem_of_getElem? h)
  unfold byteI byteArr
  rw [List.getD_eq_getElem?_getD]
  simp only [List.getElem?_map, h, Option.map_some, Option.getD_some]
  have := byte_back (n := x) (by omega) (by omega)
  simpa using this
theorem good_pair {ds : List Int} {e : Int} {width : Nat} {r r' : List Int} (he : e = 1 ∨ e = -1) (hA : Alt e ds) (hne : ds ≠ []) (hw : ds.length = width) (hr : GoodRow width r) (hr' : GoodRow width r') :
    GoodPair ds (byteArr r, (hdF r).1, (hdF r).2) (byteArr r', (hdF r').1, (hdF r').2) := by
  have h := cmp_due (l := byteArr r) (l' := byteArr r') ds 0 e r r' he hA (by rw [hw]; exact hr.1) (by rw [hw]; exact hr'.1) hr.2 hr'.2 (fun i x hx => by rw [Nat.zero_add]; exact byteI_row hr.2 hx) (fun i x hx => by rw [Nat.zero_add]; exact byteI_row hr'.2 hx)
  unfold GoodPair
  dsimp only
  rw [h]
  cases ds with
  | nil => exact absurd rfl hne
  | cons d ds =>
    have hd : 0 < e * d := hA.1
    rcases he with rfl | rfl
    · rw [if_pos (by show d > 0; omega)]; omega
    · rw [if_neg (by show ¬ d > 0; omega)]; omega
end Mine
end

section
open PySem PySem.W PyProof.Rows PySem.Calls
set_option maxRecDepth 100000
set_option maxHeartbeats 2000000
namespace Mine
/-- a row's octets -/
def byteL (r : List Int) : List UInt8 := r.map fun n => n.toNat.toUInt8
theorem byteArr_eq (r : List Int) : byteArr r = (byteL r).toArray := rfl
theorem byteArr_toList (r : List Int) : (byteArr r).toList = byteL r := rfl
theorem byteArr_size (r : List Int) : (byteArr r).size = r.length := by rw [byteArr_eq, List.size_toArray]; simp [byteL]
theorem byteL_rev (r : List Int) : byteL r.reverse = (byteL r).reverse := by unfold byteL; rw [List.map_reverse]
theorem flat_get {α : Type} {W : Nat} : ∀ {Ls : List (List α)}, (∀ l ∈ Ls, l.length = W) → ∀ (i j : Nat), j < W → Ls.flatten[i * W + j]? = (Ls[i]?).bind (·[j]?)
  | [], _, i, j, _ => by simp
  | l :: Ls, h, 0, j, hj => by
    have hl := h l (.head _)
    rw [List.flatten_cons, Nat.zero_mul, Nat.zero_add, List.getElem?_append_left (by omega)]
    rfl
  | l :: Ls, h, i + 1, j, hj => by
    have hl := h l (.head _)
    have e : (i + 1) * W + j = l.length + (i * W + j) := by rw [Nat.succ_mul, hl]; omega
    rw [List.flatten_cons, e, List.getElem?_append_right (by omega), Nat.add_sub_cancel_left, flat_get (fun l hl => h l (.tail _ hl)) i j hj]
    simp
theorem flat_len {α : Type} {W : Nat} : ∀ {Ls : List (List α)}, (∀ l ∈ Ls, l.length = W) → Ls.flatten.length = Ls.length * W
  | [], _ => by simp
  | l :: Ls, h => by
    rw [List.flatten_cons, List.length_append, h l (.head _), flat_len fun l hl => h l (.tail _ hl), List.length_cons, Nat.succ_mul]; omega
theorem flat_cut {α : Type} {W : Nat} : ∀ {Ls : List (List α)}, (∀ l ∈ Ls, l.length = W) → ∀ (k : Nat) (l : List α), Ls[k]? = some l → (Ls.flatten.drop (k * W)).take W = l
  | [], _, k, l, h => by simp at h
  | x :: Ls, hW, 0, l, h => by
    obtain rfl : x = l := by simpa using h
    rw [Nat.zero_mul, List.drop_zero, List.flatten_cons, List.take_append_of_le_length (by rw [hW x (.head _)]; exact Nat.le_refl _), List.take_of_length_le (by rw [hW x (.head _)]; exact Nat.le_refl _)]
  | x :: Ls, hW, k + 1, l, h => by
    have e : (k + 1) * W = x.length + k * W := by rw [Nat.succ_mul, hW x (.head _)]; omega
    rw [List.flatten_cons, e, List.drop_length_add_append]
    exact flat_cut (fun l hl => hW l (.tail _ hl)) k l (by simpa using h)
/-- the line turned about, row by row -/
theorem turned_eq {rs : List (List Int)} {W n : Nat} {data r : Array UInt8} (hd : data.toList = (rs.map byteL).flatten) (hW : ∀ l ∈ rs, l.length = W) (hn : rs.length = n) (hpos : 1 ≤ W) (hsz : r.size = data.size)
    (h : ∀ i, i < n → ∀ j, j < W → r[i * W + (W - 1 - j)]? = data[i * W + j]?) : r.toList = ((rs.map List.reverse).map byteL).flatten := by
  have hL1 : ∀ l ∈ rs.map byteL, l.length = W := fun l hl => by
    obtain ⟨x, hx, rfl⟩ := List.mem_map.mp hl
    simp [byteL, hW x hx]
  have hL2 : ∀ l ∈ (rs.map List.reverse).map byteL, l.length = W := fun l hl => by
    obtain ⟨x, hx, rfl⟩ := List.mem_map.mp hl
    obtain ⟨y, hy, rfl⟩ := List.mem_map.mp hx
    simp [byteL, hW y hy]
  have hds : data.size = n * W := by rw [← Array.length_toList, hd, flat_len hL1, List.length_map, hn]
  apply List.ext_getElem?
  intro k
  have hk : k = (k / W) * W + k % W := by rw [Nat.mul_comm]; exact (Nat.div_add_mod k W).symm
  have hm : k % W < W := Nat.mod_lt _ (by omega)
  rw [Array.getElem?_toList]
  by_cases hi : k / W < n
  · have e := h (k / W) hi (W - 1 - k % W) (by omega)
    rw [show W - 1 - (W - 1 - k % W) = k % W by omega, ← hk] at e
    rw [e, ← Array.getElem?_toList, hd, flat_get hL1 _ _ (by omega)]
    conv => rhs; rw [hk]
    rw [flat_get hL2 _ _ hm]
    simp only [List.getElem?_map]
    have hi' : k / W < rs.length := by omega
    rw [List.getElem?_eq_getElem hi']
    simp only [Option.map_some, Option.bind_some, byteL_rev]
    have hl : (byteL rs[k / W]).length = W := by simp [byteL, hW _ (List.getElem_mem hi')]
    rw [List.getElem?_reverse (by omega), hl]
  · have hge : n * W ≤ k := Nat.le_trans (Nat.mul_le_mul_right W (Nat.le_of_not_lt hi)) (by omega)
    rw [Array.getElem?_eq_none (by omega), List.getElem?_eq_none (by rw [flat_len hL2, List.length_map, List.length_map, hn]; exact hge)]
theorem picked_row {b : Array UInt8} {rs : List (List Int)} {W k : Nat} {r : List Int} (hb : b.toList = (rs.map byteL).flatten) (hW : ∀ l ∈ rs, l.length = W) (hk : rs[k]? = some r) :
    KBy.picked b (some ((0 : Int) + (k : Int) * (W : Int))) (some ((0 : Int) + (k : Int) * (W : Int) + (W : Int))) = byteArr r := by
  have hL1 : ∀ l ∈ rs.map byteL, l.length = W := fun l hl => by
    obtain ⟨x, hx, rfl⟩ := List.mem_map.mp hl
    simp [byteL, hW x hx]
  have hlt : k < rs.length := (List.getElem?_eq_some_iff.mp hk).1
  have hds : b.size = rs.length * W := by rw [← Array.length_toList, hb, flat_len hL1, List.length_map]
  have hle : k * W + W ≤ b.size := by
    rw [hds]
    have := Nat.mul_le_mul_right W hlt
    rw [Nat.succ_mul] at this
    exact this
  rw [show (0 : Int) + (k : Int) * (W : Int) = ((k * W : Nat) : Int) by push_cast; omega, show ((k * W : Nat) : Int) + (W : Int) = ((k * W + W : Nat) : Int) by push_cast; omega, KBc.picked_eq]
  simp only [Option.elim, clipAt_nat]
  rw [Nat.min_eq_left (show k * W ≤ b.size by omega), Nat.min_eq_left hle, Nat.add_sub_cancel_left, hb, flat_cut hL1 k (byteL r) (by rw [List.getElem?_map, hk]; rfl)]
  rfl
theorem line_five {rs : List (List Int)} {b0 b1 b2 b3 b4 : Array UInt8} (h : rs.map byteArr = [b0, b1, b2, b3, b4]) : (b0 ++ b1 ++ b2 ++ b3 ++ b4).toList = (rs.map byteL).flatten := by
  have e : rs.map byteL = (rs.map byteArr).map Array.toList := by rw [List.map_map]; rfl
  rw [e, h]
  simp
theorem five_of {α : Type} : ∀ {l : List α}, l.length = 5 → ∃ a b c d e, l = [a, b, c, d, e]
  | [a, b, c, d, e], _ => ⟨a, b, c, d, e, rfl⟩
/-- tuples of two ints, one by one -/
inductive FracAre : List Value → List (Int × Int) → List (Addr × Obj) → Prop
  | nil : FracAre [] [] []
  | cons {f : Addr} {p q : Int} {t u : Tok} {vs : List Value} {ps : List (Int × Int)} {os : List (Addr × Obj)} : FracAre vs ps os → FracAre (.ref f :: vs) ((p, q) :: ps) ((f, tupO [.int p t, .int q u]) :: os)
theorem FracAre.snoc {f : Addr} {p q : Int} {t u : Tok} {vs : List Value} {ps : List (Int × Int)} {os : List (Addr × Obj)} (h : FracAre vs ps os) : FracAre (vs ++ [.ref f]) (ps ++ [(p, q)]) (os ++ [(f, tupO [.int p t, .int q u])]) := by
  induction h with
  | nil => exact .cons .nil
  | cons _ ih => exact .cons ih
theorem FracAre.len {vs : List Value} {ps : List (Int × Int)} {os : List (Addr × Obj)} (h : FracAre vs ps os) : vs.length = ps.length := by
  induction h with
  | nil => rfl
  | cons _ ih => simp [ih]
theorem rf_of : ∀ {rs : List (List Int)} {bv pv : List Value} {os : List (Addr × Obj)}, BytesAre bv (rs.map byteArr) → FracAre pv (rs.map hdF) os → RFAre bv pv (rs.map fun r => (byteArr r, (hdF r).1, (hdF r).2)) os
  | [], bv, pv, os, hb, hp => by
    have : bv = [] := List.length_eq_zero_iff.mp hb.1
    subst this
    cases hp
    exact .nil
  | r :: rs, [], pv, os, hb, hp => by have := hb.1; simp at this
  | r :: rs, v :: bv, pv, os, hb, hp => by
    obtain ⟨t, ht⟩ := hb.2 0 (byteArr r) rfl
    obtain rfl : v = .bytes (byteArr r) t := by simpa using ht
    have hb' : BytesAre bv (rs.map byteArr) := ⟨by have := hb.1; simpa using this, fun i b h => by
      obtain ⟨t, ht⟩ := hb.2 (i + 1) b (by simpa using h)
      exact ⟨t, by simpa using ht⟩⟩
    rw [List.map_cons] at hp
    generalize hx : hdF r = x at hp
    cases hp with
    | cons hp' =>
      rw [List.map_cons, hx]
      exact .cons (rf_of hb' hp')
/-- the j-th direction -/
def dirI (tot : Int) (j : Nat) : Int := ((0 : Int) + (j : Int) + 1) * ((if tot < 0 then -tot else tot) + 1) * (if ((0 : Int) + (j : Int) + tot).fmod 2 = 0 then 1 else -1)
theorem dirs_from (tot : Int) : ∀ (n j : Nat), Alt (if ((0 : Int) + (j : Int) + tot).fmod 2 = 0 then 1 else -1) ((List.range' j n).map (dirI tot))
  | 0, _ => trivial
  | n + 1, j => by
    rw [List.range'_succ, List.map_cons]
    have h1 := Int.fmod_nonneg_of_pos ((0 : Int) + (j : Int) + tot) (show (0 : Int) < 2 by decide)
    have h2 := Int.fmod_lt_of_pos ((0 : Int) + (j : Int) + tot) (show (0 : Int) < 2 by decide)
    have e1 : ∀ x : Int, x.fmod 2 = x % 2 := fun x => Int.fmod_eq_emod_of_nonneg x (by decide)
    have ih := dirs_from tot n (j + 1)
    have pos : 0 < ((0 : Int) + (j : Int) + 1) * ((if tot < 0 then -tot else tot) + 1) := Int.mul_pos (by omega) (by split <;> omega)
    simp only [e1] at h1 h2 ih ⊢
    by_cases h : ((0 : Int) + (j : Int) + tot) % 2 = 0
    · rw [if_neg (by push_cast; omega)] at ih
      rw [if_pos h]
      refine ⟨?_, ih⟩
      unfold dirI
      rw [e1, if_pos h]
      omega
    · rw [if_pos (by push_cast; omega)] at ih
      rw [if_neg h]
      refine ⟨?_, ih⟩
      unfold dirI
      rw [e1, if_neg h]
      omega
theorem dirs_alt {tot : Int} {W : Nat} : ∃ e, (e = 1 ∨ e = -1) ∧ Alt e ((List.range W).map (dirI tot)) := by
  refine ⟨_, ?_, by rw [List.range_eq_range']; exact dirs_from tot W 0⟩
  split
  · exact .inl rfl
  · exact .inr rfl
theorem rows_sz {rs : List (List Int)} {W : Nat} {tot : Int} (hG : ∀ r ∈ rs, GoodRow W r) (hW4 : W ≤ 4) :
    ∀ x ∈ rs.map (fun r => (byteArr r, (hdF r).1, (hdF r).2)), ((List.range W).map (dirI tot)).length ≤ x.1.size ∧ x.1.size ≤ 1000 ∧ 0 ≤ x.2.1 ∧ x.2.1 < 2 ^ 60 ∧ 0 ≤ x.2.2 ∧ x.2.2 < 2 ^ 60 := by
  intro x hx
  obtain ⟨r, hr, rfl⟩ := List.mem_map.mp hx
  obtain ⟨h1, h2⟩ := hG r hr
  obtain ⟨p1, p2, p3, _, p5⟩ := hdF_pos h2
  have h5 : (256 : Int) ^ r.length ≤ 256 ^ 4 := by
    rw [h1]
    rcases (show W = 0 ∨ W = 1 ∨ W = 2 ∨ W = 3 ∨ W = 4 by omega) with rfl | rfl | rfl | rfl | rfl <;> decide
  have h6 : (256 : Int) ^ 4 < 2 ^ 60 := by decide
  dsimp only
  rw [byteArr_size, List.length_map, List.length_range, h1]
  omega
theorem rows_good {rs : List (List Int)} {W : Nat} {tot : Int} (hG : ∀ r ∈ rs, GoodRow W r) (hW : 2 ≤ W) :
    ∀ x ∈ rs.map (fun r => (byteArr r, (hdF r).1, (hdF r).2)), ∀ y ∈ rs.map (fun r => (byteArr r, (hdF r).1, (hdF r).2)), GoodPair ((List.range W).map (dirI tot)) x y := by
  intro x hx y hy
  obtain ⟨r, hr, rfl⟩ := List.mem_map.mp hx
  obtain ⟨r', hr', rfl⟩ := List.mem_map.mp hy
  obtain ⟨e, he, hA⟩ := dirs_alt (tot := tot) (W := W)
  refine good_pair (width := W) he hA (fun h => ?_) (by simp) (hG r hr) (hG r' hr')
  have := congrArg List.length h
  simp at this
  omega
theorem dirs_ne {W : Nat} {tot : Int} (hW : 2 ≤ W) : (List.range W).map (dirI tot) ≠ [] := fun h => by
  have := congrArg List.length h
  simp at this
  omega
theorem contF_mirror (r : List Int) : ((contF r).2, (contF r).1) = hdF r.reverse := by
  have h := contF_rev r.reverse
  rw [List.reverse_reverse] at h
  rw [h]
theorem good_rev {W : Nat} {rs : List (List Int)} (hG : ∀ r ∈ rs, GoodRow W r) : ∀ r ∈ rs.map List.reverse, GoodRow W r := fun r hr => by
  obtain ⟨r', hr', rfl⟩ := List.mem_map.mp hr
  exact ⟨by rw [List.length_reverse]; exact (hG r' hr').1, fun x hx => (hG r' hr').2 x (List.mem_reverse.mp hx)⟩
end Mine
end

section
open PySem PySem.W PyProof.Rows PySem.Calls
set_option maxRecDepth 100000
set_option maxHeartbeats 2000000
namespace Mine
theorem call_cellsC {prog : Program} {w : World} {A : Around} {R : Result → Shared → Prop} {s : Shared} {name : Str} {params : Arguments} {body : List Stmt} {scope : Scope}
    {pm cd doc : Value} {a : Addr} {o : Obj} {args : List Value} {binds : List (Str × Value)}
    (hroom : A.depth < recursionLimit) (ho : s.heap.get? a = some o) (hdata : o.data = .func (Calls.docDef name params body scope pm cd doc)) (hlim : s.heap.NoLimit) (hcd : s.heap.CodeRec cd name)
    (hbind : bindArgs (Calls.docDef name params body scope pm cd doc) ⟨args, []⟩ = pure binds)
    (hkind : ∀ x ∈ binds, scope.names.lookup x.1 = some .local ∨ (scope.names.lookup x.1 = some .cell ∧ ((cellsFrom (s.heap.objs.size + 1) scope.names []).lookup x.1).isSome = true))
    (hnd : ((cellsFrom 0 scope.names []).map (·.1)).Nodup)
    (h : ∀ L h₁ tk cells, Fr s.heap L h₁ (bindL (envOfC name scope L a cd).kindOf binds fun _ => none) → News s.heap L h₁ cells →
      CellsAre (bindC (envOfC name scope L a cd).kindOf binds fun _ => none) (cellsFrom (L + 1) scope.names []) cells →
      wpC (model prog w) (A.deeper (envOfC name scope L a cd)) (execs body (envOfC name scope L a cd))
        (fun f s' => R (.ok (.ret (match f with | .ret v => v | _ => .none))) s')
        (fun e s' => wpAny (model prog w) (A.deeper (envOfC name scope L a cd)) (leaving (envOfC name scope L a cd) e)
          (fun _ s'' => R (.error e) s'') (fun e' s'' => R (.error e') s'') s')
        { s with heap := h₁, toks := tk })
    (hco : scope.isCoroutine = false := by rfl) (hgen : scope.isGenerator = false := by rfl) (hk : scope.kind = .function := by rfl) :
    codeC (model prog w) A (.call (.ref a) ⟨args, []⟩) R s := by
  refine codeC_call_function hroom ho hdata hco hgen rfl hcd ?_
  refine wpAny_of_eq hbind ?_
  refine wpAny_newFunctionEnv_cells hk hkind fun env' he s' x => ?_
  subst he
  refine ⟨hlim.keeps x.toInCall.keep, codeC_func ?_⟩
  obtain ⟨h₁, tk, rfl, _⟩ := x.done
  obtain ⟨cells, NC, Y⟩ := Cl.news (h₀ := s.heap) (Nat.le_refl _) fun n c hm => ⟨x.cell n c (lookup_of_mem_nodup (cellsFrom_names scope.names 0 (s.heap.objs.size + 1) [] [] rfl ▸ hnd) hm), x.above n c hm⟩
  exact h s.heap.objs.size h₁ tk cells ⟨x.toInCall.ns, x.toInCall.keep, Nat.le_refl _⟩ NC Y
theorem enter_callC {M : Model} {A : Around} {s : Shared} {f : Value} {pos : List Value} {kw : List (Str × Value)} {c : ClaimW} {cl : Str → Option Addr} {mean : ExcName → Option Value} {args : List WData} {s₁ : Shared}
    (h : codeC M A (.call f ⟨pos, kw⟩) (GoodW c cl mean args s₁) s) : wpC M A (PySem.call f pos kw) (fun v s' => GoodWG c cl mean args s₁ (.ok (.ret v)) s') (fun e s' => GoodWG c cl mean args s₁ (.error e) s') s :=
  wpC_call (codeC_mono h fun res s' g => by rcases g.1 with ⟨v, _, _, rfl, _⟩ | ⟨e, _, _, rfl, _⟩ <;> exact g.toG)
theorem first_then {prog : Program} {w : World} {A : Around} {E : Value → Shared → Prop} {s : Shared} {env : Env} {h₀ : Heap} {L : Addr} {m : Str → Option Value} {st : Stmt} {rest : List Stmt} {Q : Flow → Shared → Prop} (_F : Fr h₀ L s.heap m) (P : (Str → Option Value) → Shared → Prop)
    (h1 : wpAny (model prog w) A (exec st env) (fun f s' => f = .next ∧ P m s') E s) (h2 : ∀ s', P m s' → wpC (model prog w) A (execs rest env) Q E s') : wpC (model prog w) A (execs (st :: rest) env) Q E s :=
  wpC_execs_cons (wpC_of (wpAny_mono h1 (fun f s' h => by obtain ⟨rfl, h⟩ := h; exact h2 s' h) fun _ _ e => e))
theorem KeysAre.snoc {j : Nat} {vs : List Value} {ds : List Int} {os : List (Addr × Obj)} {k : Addr} {t u : Tok} {d : Int} (h : KeysAre j vs ds os) : KeysAre j (vs ++ [.ref k]) (ds ++ [d]) (os ++ [(k, tupO [.int ((j + vs.length : Nat) : Int) t, .int d u])]) := by
  induction h with
  | nil => exact .cons .nil
  | @cons j k' t' u' d' vs ds os _ ih =>
    refine .cons ?_
    have e : j + (Value.ref k' :: vs).length = j + 1 + vs.length := by simp; omega
    rw [e]
    exact ih
/-- the end of an element that made one object T, all else as it was -/
theorem keys_end {h₀ : Heap} {L I C D T : Addr} {m : Str → Option Value} {s₁ : Shared} {oI oC oD oT : Obj} {rest : Value → List (Addr × Obj) → Prop} {h' : Heap} {tk : Nat} {c1 c2 c3 c4 c5 : Addr × Obj} {kos os : List (Addr × Obj)}
    (F : Fr h₀ L h' m) (N : News h₀ L h' ((T, oT) :: (I, oI) :: (C, oC) :: (D, oD) :: c1 :: c2 :: c3 :: c4 :: c5 :: (kos ++ os))) (off : LCg.Off3 I C D (c1 :: c2 :: c3 :: c4 :: c5 :: (kos ++ os)))
    (a : @LT.lt Nat _ I T) (b : @LT.lt Nat _ C T) (c : @LT.lt Nat _ D T) (r : ∀ _u : Unit, rest (.ref T) (c1 :: c2 :: c3 :: c4 :: c5 :: ((kos ++ [(T, oT)]) ++ os))) :
    LCg.CompEnd h₀ L m s₁ I oI C oC D oD (fun _ => True) rest (.ref T) { s₁ with heap := h', toks := tk } := by
  refine LCg.CompEnd.intro F N (c1 :: c2 :: c3 :: c4 :: c5 :: ((kos ++ [(T, oT)]) ++ os)) (fun p hp => ?_) (LCg.Off3.of fun p hp => ?_) trivial (r ())
  · simp only [List.mem_cons, List.mem_append, List.not_mem_nil, or_false] at hp ⊢
    rcases hp with h | h | h | h | h | h | h | h | (h | h) | h <;> simp only [h, true_or, or_true]
  · simp only [List.mem_cons, List.mem_append, List.not_mem_nil, or_false] at hp
    have back : p ∈ c1 :: c2 :: c3 :: c4 :: c5 :: (kos ++ os) → p.1 ≠ I ∧ p.1 ≠ C ∧ p.1 ≠ D := LCg.Off3.mem off p
    rcases hp with h | h | h | h | h | (h | h) | h
    · exact back (by simp [h])
    · exact back (by simp [h])
    · exact back (by simp [h])
    · exact back (by simp [h])
    · exact back (by simp [h])
    · exact back (by simp [h])
    · rw [h]; exact ⟨Nat.ne_of_gt a, Nat.ne_of_gt b, Nat.ne_of_gt c⟩
    · exact back (by simp [h])
theorem first_thenC {prog : Program} {w : World} {A : Around} {E : Value → Shared → Prop} {s : Shared} {env : Env} {h₀ : Heap} {L : Addr} {m : Str → Option Value} {st : Stmt} {rest : List Stmt} {Q : Flow → Shared → Prop} (_F : Fr h₀ L s.heap m) (P : (Str → Option Value) → Shared → Prop)
    (h1 : wpC (model prog w) A (exec st env) (fun f s' => f = .next ∧ P m s') E s) (h2 : ∀ s', P m s' → wpC (model prog w) A (execs rest env) Q E s') : wpC (model prog w) A (execs (st :: rest) env) Q E s :=
  wpC_execs_cons (wpC_mono h1 (fun f s' h => by obtain ⟨rfl, h⟩ := h; exact h2 s' h) fun _ _ e => e)
theorem off1_mem {D : Addr} : ∀ {l : List (Addr × Obj)}, LCg.Off1 D l → ∀ p ∈ l, p.1 ≠ D
  | [], _, _, h => nomatch h
  | q :: r, a, p, h => by
    rcases List.mem_cons.mp h with rfl | h
    · exact a.1
    · exact off1_mem a.2 p h
/-- the end of an element that made one tuple T, two more that are dropped, all else as it was -/
theorem frac_end {h₀ : Heap} {L I C D T xa : Addr} {m : Str → Option Value} {s₁ : Shared} {oI oC oD oT : Obj} {rest : Value → List (Addr × Obj) → Prop} {h' : Heap} {tk : Nat} {z1 z2 c1 c2 : Addr × Obj} {pos big : List (Addr × Obj)} {rv : List Value} {rn : Nat}
    (F : Fr h₀ L h' m) (N : News h₀ L h' ((T, oT) :: z1 :: z2 :: (I, oI) :: (C, oC) :: (D, oD) :: c1 :: c2 :: (pos ++ big))) (off : LCg.Off3 I C D (c1 :: c2 :: (pos ++ big)))
    (a : @LT.lt Nat _ I T) (b : @LT.lt Nat _ C T) (c : @LT.lt Nat _ D T) (hbx : (xa, listOf rv.toArray rn) ∈ big) (r : ∀ _u : Unit, rest (.ref T) (c1 :: c2 :: ((pos ++ [(T, oT)]) ++ big))) :
    LCg.CompEnd h₀ L m s₁ I oI C oC D oD (LCg.SrcAt h₀ xa rv.toArray) rest (.ref T) { s₁ with heap := h', toks := tk } := by
  refine LCg.CompEnd.intro F N (c1 :: c2 :: ((pos ++ [(T, oT)]) ++ big)) (fun p hp => ?_) (LCg.Off3.of fun p hp => ?_) (Or.inr ⟨_, .tail _ (.tail _ (List.mem_append_right _ hbx)), rfl, _, rfl⟩) (r ())
  · simp only [List.mem_cons, List.mem_append, List.not_mem_nil, or_false] at hp ⊢
    rcases hp with h | h | h | h | h | (h | h) | h <;> simp only [h, true_or, or_true]
  · simp only [List.mem_cons, List.mem_append, List.not_mem_nil, or_false] at hp
    have back : p ∈ c1 :: c2 :: (pos ++ big) → p.1 ≠ I ∧ p.1 ≠ C ∧ p.1 ≠ D := LCg.Off3.mem off p
    rcases hp with h | h | (h | h) | h
    · exact back (by simp [h])
    · exact back (by simp [h])
    · exact back (by simp [h])
    · rw [h]; exact ⟨Nat.ne_of_gt a, Nat.ne_of_gt b, Nat.ne_of_gt c⟩
    · exact back (by simp [h])
theorem frac_end2 {h₀ : Heap} {L I C D T xa : Addr} {m : Str → Option Value} {s₁ : Shared} {oI oC oD oT : Obj} {rest : Value → List (Addr × Obj) → Prop} {h' : Heap} {tk : Nat} {c1 : Addr × Obj} {pos big : List (Addr × Obj)} {rv : List Value} {rn : Nat}
    (F : Fr h₀ L h' m) (N : News h₀ L h' ((T, oT) :: (I, oI) :: (C, oC) :: (D, oD) :: c1 :: (pos ++ big))) (off : LCg.Off3 I C D (c1 :: (pos ++ big)))
    (a : @Ne Nat T I) (b : @Ne Nat T C) (c : @Ne Nat T D) (hbx : (xa, listOf rv.toArray rn) ∈ big) (r : ∀ _u : Unit, rest (.ref T) (c1 :: ((pos ++ [(T, oT)]) ++ big))) :
    LCg.CompEnd h₀ L m s₁ I oI C oC D oD (LCg.SrcAt h₀ xa rv.toArray) rest (.ref T) { s₁ with heap := h', toks := tk } := by
  refine LCg.CompEnd.intro F N (c1 :: ((pos ++ [(T, oT)]) ++ big)) (fun p hp => ?_) (LCg.Off3.of fun p hp => ?_) (Or.inr ⟨_, .tail _ (List.mem_append_right _ hbx), rfl, _, rfl⟩) (r ())
  · simp only [List.mem_cons, List.mem_append, List.not_mem_nil, or_false] at hp ⊢
    rcases hp with h | h | h | h | (h | h) | h <;> simp only [h, true_or, or_true]
  · simp only [List.mem_cons, List.mem_append, List.not_mem_nil, or_false] at hp
    have back : p ∈ c1 :: (pos ++ big) → p.1 ≠ I ∧ p.1 ≠ C ∧ p.1 ≠ D := LCg.Off3.mem off p
    rcases hp with h | (h | h) | h
    · exact back (by simp [h])
    · exact back (by simp [h])
    · rw [h]; exact ⟨a, b, c⟩
    · exact back (by simp [h])
theorem line_size {b : Array UInt8} {rs : List (List Int)} {W n : Nat} (hb : b.toList = (rs.map byteL).flatten) (hW : ∀ r ∈ rs, r.length = W) (hn : rs.length = n) : b.size = n * W := by
  rw [← Array.length_toList, hb, flat_len (W := W) (fun l hl => by
    obtain ⟨r, hr, rfl⟩ := List.mem_map.mp hl
    simp [byteL, hW r hr]), List.length_map, hn]
local macro_rules | `(tactic| k_all) => `(tactic| assumption)
theorem holds : PySem.Challenge.rw_pg0018_01.Holds := by
  refine Hd.hd ?_
  k_fill
  intro w s₀ s₁ mg mb G Y fa o pm cd doc dV kV ho hd hcd hD hmg hg args vals as hpre hlay hrd hwl hlo
  have KX := kIn_of Y
  have X := (Ground.X G).1
  have V := (Ground.X G).2
  try w_nolog (first | (have GL := glob_more (Ground.glob G (by first | k_qdec | decide +kernel) (by first | k_qdec | decide +kernel)) V) | (have GL := glob_more (Ground.glob G (by decide +kernel)) V))
  refine Ground.open G ?_
  intro T B D TE TW
  try (refine guard_noD D (by decide +kernel) ?_; clear D)
  obtain ⟨_, _, M⟩ := bmod_of_top T
  have TA := at_of_top T
  try (obtain ⟨_, _, he, B0⟩ := based_of_top T rfl hmg ho hd; have he' : cd = _ := he; subst he'; clear he)
  clear hmg
  wrow_args hpre hlay hrd hwl hlo
  refine enter_callC ?_
  w_top on
  have K0 := below_caller (Top.heap T)
  have he := Dflts.none hD rfl; subst he; have he := Dflts.noKw hD; subst he
  refine call_cellsC (by decide) ho (fd_plain hd) (Top.nolimit T) hcd rfl (kinds_of (by kinds_ok)) (by decide) fun L h₁ tk₁ cells F N0 X0 => ?_
  cells_open X0
  clear hd TA
  k_drop
  dsimp only
  rename_i sn hs0 hly hL0 hr0 hl0 as1 as2 sl sv as3 hL ra w1 r0 hI hr1 hlen htr oT oL oTo oW hoT hoL hoTo hoW
  have hlen' : sn.length ≤ 63 := by omega
  refine first_then F (fun m s' => ∃ h tk W tw tt oTo oW, s' = { s₁ with heap := h, toks := tk } ∧ 2 ≤ W ∧ W ≤ 4 ∧ Fr s₁.heap L h m ∧ oTo.data = .cell (some (.int sn.sum tt)) ∧ oW.data = .cell (some (.int ((W : Nat) : Int) tw)) ∧
    News s₁.heap L h [(L + 1 + 1 + 1 + 1, oT), (L + 1 + 1 + 1, oL), (L + 1 + 1, oTo), (L + 1, oW)]) ?_ ?_
  · (iterate 24 walk1)
    · (iterate 19 walk1)
      rename Fr s₁.heap L _ _ => F₉
      rename News s₁.heap L _ _ => N₉
      exact ⟨by trivial, _, _, 4, _, _, _, _, rfl, by decide, by decide, F₉, by assumption, by assumption, fun p hp => N₉ p (.tail _ (.tail _ hp))⟩
    · (iterate 19 walk1)
      rename Fr s₁.heap L _ _ => F₉
      rename News s₁.heap L _ _ => N₉
      exact ⟨by trivial, _, _, 3, _, _, _, _, rfl, by decide, by decide, F₉, by assumption, by assumption, fun p hp => N₉ p (.tail _ (.tail _ hp))⟩
    · (iterate 19 walk1)
      rename Fr s₁.heap L _ _ => F₉
      rename News s₁.heap L _ _ => N₉
      exact ⟨by trivial, _, _, 2, _, _, _, _, rfl, by decide, by decide, F₉, by assumption, by assumption, fun p hp => N₉ p (.tail _ (.tail _ hp))⟩
  clear F N0 X0 hoTo hoW oTo oW
  rintro _ ⟨h2, tk2, W, tw, tt, oTo, oW, rfl, hW2, hW4, F, hoTo, hoW, N⟩
  refine first_then F (fun m s' => ∃ h tk x rv rn rs os, s' = { s₁ with heap := h, toks := tk } ∧ RowsIn rv rs os ∧ rs.length = 5 ∧ (∀ r ∈ rs, GoodRow W r) ∧ Fr s₁.heap L h (fun y => if y = Str.ofString "rows" then some (.ref x) else m y) ∧
    News s₁.heap L h ((L + 1 + 1 + 1 + 1, oT) :: (L + 1 + 1 + 1, oL) :: (L + 1 + 1, oTo) :: (L + 1, oW) :: (x, listOf rv.toArray rn) :: os) ∧
    ((@Ne Nat x (L + 1 + 1 + 1 + 1)) ∧ (@Ne Nat x (L + 1 + 1 + 1))) ∧ (∀ p ∈ os, p.1 ≠ L + 1 + 1 + 1 + 1) ∧ (∀ p ∈ os, p.1 ≠ L + 1 + 1 + 1)) ?_ ?_
  · (iterate 33 walk1)
    rename Fr s₁.heap L _ _ => F₃
    rename News s₁.heap L _ _ => N₃
    refine sl_from (ns := [0, 6, 29, 42, 503]) F₃ N₃ (News.isList N₃ (.head _)) (by l_ints) (by omega) (by decide) ?_
    intro D1 ws1 h3 F₄ N₄ lt1 hI1
    clear F₃ N₃
    have hd1 : (List.drop (sn.length : Int).toNat [0, 6, 29, 42, (503 : Int)]).length = 5 - sn.length := by rw [List.length_drop]; rfl
    refine kmk_add_ints F₄ N₄ (Fr.lst F₄ hL) (News.isList N₄ (.head _)) hI hI1 ?_ (by rw [hd1, sizeLine_eq]; omega)
    intro D2 us h4 F₅ N₅ lt2 hI2
    clear F₄ N₄
    (iterate 5 walk1)
    rename Fr s₁.heap L _ _ => F₆
    rename News s₁.heap L _ _ => N₆
    refine sl_upto F₆ N₆ (News.isList N₆ (.head _)) hI2 (by decide) (by rw [List.length_append, hd1]; omega) ?_
    intro D3 nv h5 F₇ N₇ lt3 hI3
    clear F₆ N₆
    (iterate 4 walk1)
    have hnl : (List.take (Int.toNat 5) (sn ++ List.drop (sn.length : Int).toNat [0, 6, 29, 42, (503 : Int)])).length = 5 := by
      rw [List.length_take, List.length_append, hd1]
      show min 5 _ = 5
      omega
    k_dflt (refine' rows_call K0 F₇ KX N₇ T ?hk (.head _) hI3 hW2 hW4 ?hnz ?_; (case hk => exact rfl); (case hnz => rw [hnl]; decide))
    intro x rv rn rs os h6 tk6 hR hlen5 hG F₈ N₈ off hab
    rw [hnl] at hlen5
    clear F₇
    walk1
    rename Fr s₁.heap L _ _ => F₉
    rename News s₁.heap L _ _ => N₉
    replace N₉ : News s₁.heap L _ ((L + 1 + 1 + 1 + 1, oT) :: (L + 1 + 1 + 1, oL) :: (L + 1 + 1, oTo) :: (L + 1, oW) :: (x, listOf rv.toArray rn) :: os) := fun p hp => N₉ p (by
      simp only [List.cons_append, List.mem_cons, List.mem_append, List.not_mem_nil, or_false] at hp ⊢
      rcases hp with h | h | h | h | h | h <;> simp only [h, true_or, or_true])
    have e4 := off (L + 1 + 1 + 1 + 1, oT) (by simp)
    have e3 := off (L + 1 + 1 + 1, oL) (by simp)
    exact ⟨by trivial, _, _, x, rv, rn, rs, os, rfl, hR, hlen5, hG, F₉, N₉, ⟨Ne.symm (e4 (x, _) (.head _)), Ne.symm (e3 (x, _) (.head _))⟩, fun p hp => Ne.symm (e4 p (.tail _ hp)), fun p hp => Ne.symm (e3 p (.tail _ hp))⟩
  clear F N
  rintro _ ⟨h3, tk3, x, rv, rn, rs, os, rfl, hR, hlen5, hG, F, N, oX, o4, o3⟩
  refine first_then F (fun m s' => ∃ h tk kl kv kos big, s' = { s₁ with heap := h, toks := tk } ∧ KeysAre 0 kv ((List.range W).map (dirI sn.sum)) kos ∧ Fr s₁.heap L h (fun y => if y = Str.ofString "keys" then some (.ref kl) else m y) ∧
    News s₁.heap L h ((L + 1 + 1 + 1 + 1, oT) :: (L + 1 + 1 + 1, oL) :: (L + 1, oW) :: big) ∧ (kl, LCg.lst kv) ∈ big ∧ (x, listOf rv.toArray rn) ∈ big ∧ (∀ p ∈ kos, p ∈ big) ∧ (∀ p ∈ os, p ∈ big) ∧ (∀ p ∈ big, p.1 ≠ L + 1 + 1 + 1 + 1) ∧ (∀ p ∈ big, p.1 ≠ L + 1 + 1 + 1)) ?_ ?_
  · k_dflt (refine LCg.Assign_ListComp_U (F₀ := F) (by rfl) (by with_unfolding_all rfl) (by rfl) (by decide) (by rfl) (by decide) (by rfl) (by rfl) (by rfl) ?_)
    (iterate 7 walk1)
    rename Fr s₁.heap L _ _ => F₁₀
    rename News s₁.heap L _ _ => N₁₀
    rename IsRange _ _ _ _ _ _ _ _ => hr
    have hsW : Builtin.Range.rangeSize 0 (W : Int) 1 = (W : Int) := by have := @rangeSize_rows W 1 (by omega); simpa using this
    k_dflt (refine LCg.CompSrc.range (n := W) (by rfl) F₁₀ N₁₀ hr (small_ok hsW (by omega) (by omega) (by omega) (by omega) (by omega)) hsW (by rw [sizeLine_eq]; omega) ?_)
    intro g
    clear hr
    refine comp_run (fun i ys n' => ∃ kos, KeysAre 0 ys ((List.range i).map (dirI sn.sum)) kos ∧ (∀ p ∈ kos, @LT.lt Nat _ (L + 1 + 1 + 1 + 1) p.1) ∧ n' = (L + 1 + 1 + 1 + 1, oT) :: (L + 1 + 1 + 1, oL) :: (L + 1 + 1, oTo) :: (L + 1, oW) :: (x, listOf rv.toArray rn) :: (kos ++ os)) ?_ ?_ _ ⟨[], .nil, fun _ h => (nomatch h), rfl⟩
    · rintro i ys n' v I oI C oC D m₂ h7 tk7 E' hi ⟨kos, hK, hab, rfl⟩ ⟨t, rfl⟩ hC hx F₁₁ N₁₁ off ne
      clear F₁₀ N₁₀
      (iterate 20 walk1)
      refine PyProof.Rows.mul_int ?_ (IntMulOk.of_left (intBits_le_64 (by omega) (by omega)))
      (iterate 12 walk1)
      split
      · rename_i hpar
        walk1
        refine PyProof.Rows.mul_int ?_ (IntMulOk.of_right (intBits_le_64 (by decide) (by decide)))
        (iterate 2 walk1)
        rename Fr s₁.heap L _ _ => F₁₂
        rename News s₁.heap L _ _ => N₁₂
        rename_i TT h8 l8
        have hd : ((0 : Int) + (i : Int) + 1) * ((if sn.sum < 0 then -sn.sum else sn.sum) + 1) * 1 = dirI sn.sum i := by unfold dirI; rw [if_pos (beq_iff_eq.mp hpar)]
        have key : ∀ {d : Int} {u : Tok}, d = dirI sn.sum i → KeysAre 0 (ys ++ [.ref TT]) ((List.range (i + 1)).map (dirI sn.sum)) (kos ++ [(TT, tupO [.int ((0 : Int) + (i : Int)) t, .int d u])]) := by
          intro d u e
          subst e
          rw [List.range_succ, List.map_append, show (0 : Int) + (i : Int) = ((0 + ys.length : Nat) : Int) from by rw [hK.len]; simp]
          exact hK.snoc
        exact keys_end F₁₂ N₁₂ off l8.1 l8.2.1 l8.2.2.1 fun _ => ⟨_, key hd, fun p hp => by
          rcases List.mem_append.mp hp with hp | hp
          · exact hab p hp
          · rw [List.mem_singleton.mp hp]; exact l8.2.2.2.1, rfl⟩
      · rename_i hpar
        (iterate 3 walk1)
        refine PyProof.Rows.mul_int ?_ (IntMulOk.of_right (intBits_le_64 (by decide) (by decide)))
        (iterate 2 walk1)
        rename Fr s₁.heap L _ _ => F₁₂
        rename News s₁.heap L _ _ => N₁₂
        rename_i TT h8 l8
        have hd : ((0 : Int) + (i : Int) + 1) * ((if sn.sum < 0 then -sn.sum else sn.sum) + 1) * -1 = dirI sn.sum i := by unfold dirI; rw [if_neg (fun e => hpar (beq_iff_eq.mpr e))]
        have key : ∀ {d : Int} {u : Tok}, d = dirI sn.sum i → KeysAre 0 (ys ++ [.ref TT]) ((List.range (i + 1)).map (dirI sn.sum)) (kos ++ [(TT, tupO [.int ((0 : Int) + (i : Int)) t, .int d u])]) := by
          intro d u e
          subst e
          rw [List.range_succ, List.map_append, show (0 : Int) + (i : Int) = ((0 + ys.length : Nat) : Int) from by rw [hK.len]; simp]
          exact hK.snoc
        exact keys_end F₁₂ N₁₂ off l8.1 l8.2.1 l8.2.2.1 fun _ => ⟨_, key hd, fun p hp => by
          rcases List.mem_append.mp hp with hp | hp
          · exact hab p hp
          · rw [List.mem_singleton.mp hp]; exact l8.2.2.2.1, rfl⟩
    · rintro kv n' ⟨kos, hK, hab, rfl⟩
      clear F₁₀ N₁₀
      unfold LCg.FinA
      intro kl h8 tk8 F₁₁ N₁₁ o1
      dsimp only
      have o1' := off1_mem o1
      have m4 := o1' (L + 1 + 1 + 1 + 1, oT) (by simp)
      have m3 := o1' (L + 1 + 1 + 1, oL) (by simp)
      refine ⟨by trivial, _, _, kl, kv, kos, (kl, LCg.lst kv) :: (x, listOf rv.toArray rn) :: (kos ++ os), rfl, hK, F₁₁, fun p hp => N₁₁ p ?_, .head _, .tail _ (.head _), fun p hp => .tail _ (.tail _ (List.mem_append_left _ hp)), fun p hp => .tail _ (.tail _ (List.mem_append_right _ hp)), fun p hp => ?_, fun p hp => ?_⟩
      · simp only [List.mem_cons, List.mem_append] at hp ⊢
        rcases hp with h | h | h | h | h | h | h <;> simp only [h, true_or, or_true]
      · simp only [List.mem_cons, List.mem_append] at hp
        rcases hp with h | h | h | h
        · rw [h]; exact Ne.symm m4
        · rw [h]; exact oX.1
        · exact Nat.ne_of_gt (hab p h)
        · exact o4 p h
      · simp only [List.mem_cons, List.mem_append] at hp
        rcases hp with h | h | h | h
        · rw [h]; exact Ne.symm m3
        · rw [h]; exact oX.2
        · exact Nat.ne_of_gt (Nat.lt_trans (Nat.lt_succ_self _) (hab p h))
        · exact o3 p h
  clear F N oX o4 o3 hoTo
  rintro _ ⟨h4, tk4, kl, kv, kos, big, rfl, hK, F, N, hbk, hbx, hbkos, hbos, o4, o3⟩
  have hrvl : rv.length = 5 := hR.len.trans hlen5
  refine first_then F (fun m s' => ∃ h tk lineB tl oL, s' = { s₁ with heap := h, toks := tk } ∧ lineB.toList = (rs.map byteL).flatten ∧ oL.data = .cell (some (.bytes lineB tl)) ∧ Fr s₁.heap L h m ∧
    News s₁.heap L h ((L + 1 + 1 + 1 + 1, oT) :: (L + 1 + 1 + 1, oL) :: (L + 1, oW) :: big)) ?_ ?_
  · (iterate 3 walk1)
    refine jn_method ?_
    (iterate 2 walk1)
    k_dflt (refine LCg.ListComp_U (F₀ := F) (by rfl) (by decide) (by rfl) (by decide) (by rfl) ?_)
    walk1
    k_dflt (refine LCg.CompSrc.ledger (its := rv.toArray) (by rfl) F N (.tail _ (.tail _ (.tail _ hbx))) (by rw [List.size_toArray, hrvl, sizeLine_eq]; decide) ?_)
    intro g
    refine comp_run (fun i ys n' => BytesAre ys ((rs.take i).map byteArr) ∧ n' = (L + 1 + 1 + 1 + 1, oT) :: (L + 1 + 1 + 1, oL) :: (L + 1, oW) :: big) ?_ ?_ _ ⟨BytesAre.nil, rfl⟩
    · rintro i ys n' v I oI C oC D m₂ h9 tk9 E' hi ⟨hB, rfl⟩ hv hC hx F₁₂ N₁₂ off ne
      clear F N
      have hi5 : i < rs.length := by rw [hlen5, ← hrvl]; simpa using hi
      obtain ⟨r, hr⟩ : ∃ r, rs[i]? = some r := ⟨_, List.getElem?_eq_getElem hi5⟩
      obtain ⟨ra, rw', rk, hra, hints, hmem⟩ := hR.at' i r hr
      have hv' : rv[i]? = some v := by simpa using hv
      obtain rfl : Value.ref ra = v := Option.some.inj (hra.symm.trans hv')
      (iterate 7 (first | (k_unfold; (try dsimp only)) | walk1))
      have hgr := hG r (List.mem_of_getElem? hr)
      have hml : (ra, listOf rw'.toArray rk) ∈ big := hbos _ hmem
      refine call_bytes_ints (News.isList N₁₂ (.tail _ (.tail _ (.tail _ (.tail _ (.tail _ (.tail _ hml))))))) hints (fun n hn => by have := hgr.2 n hn; omega) (by rw [hints.length, hgr.1, sizeLine_eq]; omega) (by rfl) fun h10 t10 k10 hkk => ?_
      k_unfold
      try dsimp only
      refine LCg.CompEnd.intro (fr_grow F₁₂ hkk) (N₁₂.grown hkk) ((L + 1 + 1 + 1 + 1, oT) :: (L + 1 + 1 + 1, oL) :: (L + 1, oW) :: big) (fun p hp => hp) off (Or.inr ⟨_, .tail _ (.tail _ (.tail _ hbx)), rfl, _, rfl⟩) ⟨?_, rfl⟩
      rw [List.take_add_one, hr, List.map_append]
      exact hB.snoc
    · rintro lv n' ⟨hB, rfl⟩
      rw [show rs.take rv.toArray.size = rs from List.take_of_length_le (by rw [List.size_toArray, hrvl, hlen5]; exact Nat.le_refl _)] at hB
      clear F N
      unfold LCg.FinE
      intro ll h9 tk9 F₁₂ N₁₂ o2
      dsimp only
      walk1
      obtain ⟨b0, b1, b2, b3, b4, hbs⟩ := five_of (by rw [List.length_map, hlen5] : (rs.map byteArr).length = 5)
      have hrow : ∀ b ∈ rs.map byteArr, b.size = W := fun b hb => by
        obtain ⟨r, hr, rfl⟩ := List.mem_map.mp hb
        rw [byteArr_size]; exact (hG r hr).1
      have hline := line_five hbs
      rw [hbs] at hB hrow
      obtain ⟨t0, t1, t2, t3, t4, rfl⟩ := hB.five
      have z0 := hrow b0 (by simp)
      have z1 := hrow b1 (by simp)
      have z2 := hrow b2 (by simp)
      have z3 := hrow b3 (by simp)
      have z4 := hrow b4 (by simp)
      refine jn_call (N₁₂ _ (.head _)).1 rfl rfl (by omega) fun t' k' => ?_
      have N₁₃ : News s₁.heap L h9 ((L + 1 + 1 + 1 + 1, oT) :: (L + 1 + 1 + 1, oL) :: (L + 1, oW) :: big) := fun p hp => N₁₂ p (.tail _ hp)
      clear N₁₂ o2
      dsimp only
      walk1
      rename Fr s₁.heap L _ _ => F₁₄
      rename News s₁.heap L _ _ => N₁₄
      exact ⟨by trivial, _, _, _, _, _, rfl, hline, by assumption, F₁₄, N₁₄⟩
  clear F N hoL oL
  rintro _ ⟨h5, tk5, lineB, tl, oL, rfl, hlineB, hoL, F, N⟩
  have hWs : ∀ r ∈ rs, r.length = W := fun r hr => (hG r hr).1
  have hszL : lineB.size = 5 * W := line_size hlineB hWs hlen5
  refine first_thenC F (fun m s' => ∃ h tk turnB tt oT, s' = { s₁ with heap := h, toks := tk } ∧ turnB.toList = ((rs.map List.reverse).map byteL).flatten ∧ oT.data = .cell (some (.bytes turnB tt)) ∧ Fr s₁.heap L h m ∧
    News s₁.heap L h ((L + 1 + 1 + 1 + 1, oT) :: (L + 1 + 1 + 1, oL) :: (L + 1, oW) :: big)) ?_ ?_
  · refine wpC_Assign_Name (wpC_Call ?_)
    walk1
    refine callWith_KC (K := Hd.hd.heap_39 w.params) (by k_is) ?_
    (iterate 5 walk1)
    refine ⟨KX.keeps F.keep, ?_⟩
    k_dflt (refine' swap_call K0 F KX N T ?hk (by omega) hW4 (Nat.le_refl 5) hszL ?_; (case hk => exact rfl))
    intro tB tt' h10 tk10 hz hat F₁ N₁
    have htB := turned_eq hlineB hWs hlen5 (by omega) hz hat
    clear F N
    walk1
    rename Fr s₁.heap L _ _ => F₂
    rename News s₁.heap L _ _ => N₂
    exact ⟨by trivial, _, _, _, _, _, rfl, htB, by assumption, F₂, N₂⟩
  clear F N hoT oT
  rintro _ ⟨h6, tk6, turnB, tu, oT, rfl, hturnB, hoT, F, N⟩
  have hWs2 : ∀ r ∈ rs.map List.reverse, r.length = W := fun r hr => by
    obtain ⟨r', hr', rfl⟩ := List.mem_map.mp hr
    rw [List.length_reverse]; exact hWs r' hr'
  have hszT : turnB.size = 5 * W := line_size hturnB hWs2 (by rw [List.length_map]; exact hlen5)
  refine first_then F (fun m s' => ∃ h tk, s' = { s₁ with heap := h, toks := tk } ∧ Fr s₁.heap L h m ∧
    News s₁.heap L h ((L + 1 + 1 + 1 + 1, oT) :: (L + 1 + 1 + 1, oL) :: (L + 1, oW) :: big)) ?_ ?_
  · (iterate 20 walk1)
    refine jn_method ?_
    (iterate 2 walk1)
    k_dflt (refine LCg.ListComp_U (F₀ := F) (by rfl) (by decide) (by rfl) (by decide) (by rfl) ?_)
    walk1
    k_dflt (refine LCg.CompSrc.ledger (its := rv.toArray) (by rfl) F N (.tail _ (.tail _ (.tail _ hbx))) (by rw [List.size_toArray, hrvl, sizeLine_eq]; decide) ?_)
    intro g
    refine comp_run (fun i ys n' => BytesAre ys (((rs.take i).map List.reverse).map byteArr) ∧ n' = (L + 1 + 1 + 1 + 1, oT) :: (L + 1 + 1 + 1, oL) :: (L + 1, oW) :: big) ?_ ?_ _ ⟨BytesAre.nil, rfl⟩
    · rintro i ys n' v I oI C oC D m₂ h9 tk9 E' hi ⟨hB, rfl⟩ hv hC hx F₁₂ N₁₂ off ne
      clear F N
      have hi5 : i < rs.length := by rw [hlen5, ← hrvl]; simpa using hi
      obtain ⟨r, hr⟩ : ∃ r, rs[i]? = some r := ⟨_, List.getElem?_eq_getElem hi5⟩
      obtain ⟨ra, rw', rk, hra, hints, hmem⟩ := hR.at' i r hr
      have hv' : rv[i]? = some v := by simpa using hv
      obtain rfl : Value.ref ra = v := Option.some.inj (hra.symm.trans hv')
      have hgr := hG r (List.mem_of_getElem? hr)
      have hml : (ra, listOf rw'.toArray rk) ∈ big := hbos _ hmem
      (iterate 14 walk1)
      refine sl_rev (s := { s₁ with heap := h9, toks := _ }) F₁₂ N₁₂ (News.isList N₁₂ (.tail _ (.tail _ (.tail _ (.tail _ (.tail _ (.tail _ hml))))))) hints (by rw [hgr.1]; omega) ?_
      intro D1 ws1 h10 F₁₃ N₁₃ lt1 hI1
      walk1
      refine call_bytes_ints (News.isList N₁₃ (.head _)) hI1 (fun n hn => by have := hgr.2 n (List.mem_reverse.mp hn); omega) (by rw [hI1.length, List.length_reverse, hgr.1, sizeLine_eq]; omega) (by rfl) fun h11 t11 k11 hkk => ?_
      k_unfold
      try dsimp only
      refine LCg.CompEnd.intro (fr_grow F₁₃ hkk) (N₁₃.grown hkk) ((L + 1 + 1 + 1 + 1, oT) :: (L + 1 + 1 + 1, oL) :: (L + 1, oW) :: big) (fun p hp => .tail _ hp) off (Or.inr ⟨_, .tail _ (.tail _ (.tail _ hbx)), rfl, _, rfl⟩) ⟨?_, rfl⟩
      rw [List.take_add_one, hr, List.map_append, List.map_append]
      exact hB.snoc
    · rintro lv n' ⟨hB, rfl⟩
      rw [show rs.take rv.toArray.size = rs from List.take_of_length_le (by rw [List.size_toArray, hrvl, hlen5]; exact Nat.le_refl _)] at hB
      clear F N
      unfold LCg.FinE
      intro ll h9 tk9 F₁₂ N₁₂ o2
      dsimp only
      walk1
      obtain ⟨b0, b1, b2, b3, b4, hbs⟩ := five_of (by rw [List.length_map, List.length_map, hlen5] : ((rs.map List.reverse).map byteArr).length = 5)
      have hrow : ∀ b ∈ (rs.map List.reverse).map byteArr, b.size = W := fun b hb => by
        obtain ⟨r', hr', rfl⟩ := List.mem_map.mp hb
        obtain ⟨r, hr, rfl⟩ := List.mem_map.mp hr'
        rw [byteArr_size, List.length_reverse]; exact (hG r hr).1
      have hline := line_five hbs
      rw [hbs] at hB hrow
      obtain ⟨t0, t1, t2, t3, t4, rfl⟩ := hB.five
      have z0 := hrow b0 (by simp)
      have z1 := hrow b1 (by simp)
      have z2 := hrow b2 (by simp)
      have z3 := hrow b3 (by simp)
      have z4 := hrow b4 (by simp)
      refine jn_call (N₁₂ _ (.head _)).1 rfl rfl (by omega) fun t' k' => ?_
      have N₁₃ : News s₁.heap L h9 ((L + 1 + 1 + 1 + 1, oT) :: (L + 1 + 1 + 1, oL) :: (L + 1, oW) :: big) := fun p hp => N₁₂ p (.tail _ hp)
      clear N₁₂ o2
      rw [show b0 ++ b1 ++ b2 ++ b3 ++ b4 = turnB from Array.toList_inj.mp (hline.trans hturnB.symm)]
      dsimp only
      (iterate 4 walk1)
      · rename _ = true => hq
        simp at hq
      · clear hB hline
        (iterate 3 walk1)
        rename Fr s₁.heap L _ _ => F₁₄
        rename News s₁.heap L _ _ => N₁₄
        exact ⟨by trivial, _, _, rfl, F₁₄, N₁₄⟩
  clear F N
  rintro _ ⟨h7, tk7, rfl, F, N⟩
  refine first_then F (fun m s' => ∃ h tk fl fv, s' = { s₁ with heap := h, toks := tk } ∧ BytesAre fv (rs.map byteArr) ∧ Fr s₁.heap L h (fun y => if y = Str.ofString "frames" then some (.ref fl) else m y) ∧
    News s₁.heap L h ((fl, LCg.lst fv) :: (L + 1 + 1 + 1 + 1, oT) :: (L + 1 + 1 + 1, oL) :: (L + 1, oW) :: big)) ?_ ?_
  · k_dflt (refine assign_comp_step F (by rfl) (by with_unfolding_all rfl) (by rfl) (by decide) (by rfl) (by decide) (by rfl) (by rfl) (by rfl) ?_)
    (iterate 17 walk1)
    rename Fr s₁.heap L _ _ => F₁
    rename News s₁.heap L _ _ => N₁
    rename IsRange _ _ _ _ _ _ _ _ => hr
    have hsize : Builtin.Range.rangeSize 0 (lineB.size : Int) (W : Int) = ((5 : Nat) : Int) := by
      rw [hszL]
      exact rangeSize_rows (by omega)
    refine ⟨_, 0, _, _, _, _, _, 5, _, rfl, rfl, F₁, N₁, hr, small_ok hsize (by omega) (by omega) (by omega) (by omega) (by omega), hsize, by rw [sizeLine_eq]; decide, fun g => ?_⟩
    clear hr
    refine comp_run (fun i ys n' => BytesAre ys ((rs.take i).map byteArr) ∧ n' = (L + 1 + 1 + 1 + 1, oT) :: (L + 1 + 1 + 1, oL) :: (L + 1, oW) :: big) ?_ ?_ _ ⟨BytesAre.nil, rfl⟩
    · rintro i ys n' v I oI C oC D m₂ h9 tk9 E' hi ⟨hB, rfl⟩ ⟨ti, rfl⟩ hC hx F₁₂ N₁₂ off ne
      clear F₁ N₁
      have hi5 : i < rs.length := by omega
      obtain ⟨r, hr⟩ : ∃ r, rs[i]? = some r := ⟨_, List.getElem?_eq_getElem hi5⟩
      (iterate 11 walk1)
      refine sl_bytes (s := ⟨_, _, _, _, _⟩) F₁₂ N₁₂ (by omega) fun h10 t10 k10 F₁₃ N₁₃ => ?_
      rw [picked_row hlineB hWs hr]
      refine LCg.CompEnd.intro F₁₃ N₁₃ ((L + 1 + 1 + 1 + 1, oT) :: (L + 1 + 1 + 1, oL) :: (L + 1, oW) :: big) (fun p hp => hp) off trivial ⟨?_, rfl⟩
      rw [List.take_add_one, hr, List.map_append]
      exact hB.snoc
    · rintro lv n' ⟨hB, rfl⟩
      rw [List.take_of_length_le (by omega)] at hB
      clear F₁ N₁
      unfold LCg.FinA
      intro ll h9 tk9 F₁₂ N₁₂ o2
      exact ⟨by trivial, _, _, ll, lv, rfl, hB, F₁₂, N₁₂⟩
  clear F N
  rintro _ ⟨h8, tk8, fl, fv, rfl, hfv, F, N⟩
  refine first_then F (fun m s' => ∃ h tk ml mv, s' = { s₁ with heap := h, toks := tk } ∧ BytesAre mv ((rs.map List.reverse).map byteArr) ∧ Fr s₁.heap L h (fun y => if y = Str.ofString "mirrors" then some (.ref ml) else m y) ∧
    News s₁.heap L h ((ml, LCg.lst mv) :: (fl, LCg.lst fv) :: big)) ?_ ?_
  · k_dflt (refine assign_comp_step F (by rfl) (by with_unfolding_all rfl) (by rfl) (by decide) (by rfl) (by decide) (by rfl) (by rfl) (by rfl) ?_)
    (iterate 17 walk1)
    rename Fr s₁.heap L _ _ => F₁
    rename News s₁.heap L _ _ => N₁
    rename IsRange _ _ _ _ _ _ _ _ => hr
    have hsize : Builtin.Range.rangeSize 0 (turnB.size : Int) (W : Int) = ((5 : Nat) : Int) := by
      rw [hszT]
      exact rangeSize_rows (by omega)
    refine ⟨_, 0, _, _, _, _, _, 5, _, rfl, rfl, F₁, N₁, hr, small_ok hsize (by omega) (by omega) (by omega) (by omega) (by omega), hsize, by rw [sizeLine_eq]; decide, fun g => ?_⟩
    clear hr
    refine comp_run (fun i ys n' => BytesAre ys (((rs.map List.reverse).take i).map byteArr) ∧ n' = (fl, LCg.lst fv) :: (L + 1 + 1 + 1 + 1, oT) :: (L + 1 + 1 + 1, oL) :: (L + 1, oW) :: big) ?_ ?_ _ ⟨BytesAre.nil, rfl⟩
    · rintro i ys n' v I oI C oC D m₂ h9 tk9 E' hi ⟨hB, rfl⟩ ⟨ti, rfl⟩ hC hx F₁₂ N₁₂ off ne
      clear F₁ N₁
      have hi5 : i < (rs.map List.reverse).length := by rw [List.length_map]; omega
      obtain ⟨r, hr⟩ : ∃ r, (rs.map List.reverse)[i]? = some r := ⟨_, List.getElem?_eq_getElem hi5⟩
      (iterate 11 walk1)
      refine sl_bytes (s := ⟨_, _, _, _, _⟩) F₁₂ N₁₂ (by omega) fun h10 t10 k10 F₁₃ N₁₃ => ?_
      rw [picked_row hturnB hWs2 hr]
      refine LCg.CompEnd.intro F₁₃ N₁₃ ((fl, LCg.lst fv) :: (L + 1 + 1 + 1 + 1, oT) :: (L + 1 + 1 + 1, oL) :: (L + 1, oW) :: big) (fun p hp => hp) off trivial ⟨?_, rfl⟩
      rw [List.take_add_one, hr, List.map_append]
      exact hB.snoc
    · rintro lv n' ⟨hB, rfl⟩
      rw [List.take_of_length_le (by rw [List.length_map]; omega)] at hB
      clear F₁ N₁
      unfold LCg.FinA
      intro ll h9 tk9 F₁₂ N₁₂ o2
      refine ⟨by trivial, _, _, ll, lv, rfl, hB, F₁₂, fun p hp => N₁₂ p ?_⟩
      simp only [List.mem_cons] at hp ⊢
      rcases hp with h | h | h <;> simp only [h, true_or, or_true]
  clear F N
  rintro _ ⟨h9, tk9, ml, mv, rfl, hmv, F, N⟩
  refine first_then F (fun m s' => ∃ h tk pl pv pos, s' = { s₁ with heap := h, toks := tk } ∧ FracAre pv (rs.map hdF) pos ∧ Fr s₁.heap L h (fun y => if y = Str.ofString "plain" then some (.ref pl) else m y) ∧
    News s₁.heap L h ((pl, LCg.lst pv) :: (ml, LCg.lst mv) :: (fl, LCg.lst fv) :: (pos ++ big))) ?_ ?_
  · k_dflt (refine LCg.Assign_ListComp_U (F₀ := F) (by rfl) (by with_unfolding_all rfl) (by rfl) (by decide) (by rfl) (by decide) (by rfl) (by rfl) (by rfl) ?_)
    walk1
    k_dflt (refine LCg.CompSrc.ledger (its := rv.toArray) (by rfl) F N (.tail _ (.tail _ hbx)) (by rw [List.size_toArray, hrvl, sizeLine_eq]; decide) ?_)
    intro g
    refine comp_run (fun i ys n' => ∃ pos, FracAre ys ((rs.take i).map hdF) pos ∧ n' = (ml, LCg.lst mv) :: (fl, LCg.lst fv) :: (pos ++ big)) ?_ ?_ _ ⟨[], FracAre.nil, rfl⟩
    · rintro i ys n' v I oI C oC D m₂ h9 tk9 E' hi ⟨pos, hP, rfl⟩ hv hC hx F₁₂ N₁₂ off ne
      clear F N
      have hi5 : i < rs.length := by rw [hlen5, ← hrvl]; simpa using hi
      obtain ⟨r, hr⟩ : ∃ r, rs[i]? = some r := ⟨_, List.getElem?_eq_getElem hi5⟩
      obtain ⟨ra, rw', rk, hra, hints, hmem⟩ := hR.at' i r hr
      have hv' : rv[i]? = some v := by simpa using hv
      obtain rfl : Value.ref ra = v := Option.some.inj (hra.symm.trans hv')
      have hgr := hG r (List.mem_of_getElem? hr)
      have hml : (ra, listOf rw'.toArray rk) ∈ big := hbos _ hmem
      (iterate 11 walk1)
      k_dflt (refine' above_call K0 F₁₂ KX N₁₂ T ?hk (.tail _ (.tail _ (.tail _ (.tail _ (.tail _ (List.mem_append_right _ hml)))))) hints hgr.2 ?_; (case hk => exact rfl))
      intro X1 tx ux h10 tk10 F₁₃ N₁₃ off1
      clear F₁₂ N₁₂
      (iterate 2 walk1)
      have N₁₄ : News s₁.heap L h10 ((I, oI) :: (C, oC) :: (D, LCg.lst ys) :: (ml, LCg.lst mv) :: (fl, LCg.lst fv) :: (pos ++ big)) := fun p hp => N₁₃ p (.tail _ hp)
      clear N₁₃ off1
      (iterate 14 walk1)
      refine sl_from (s := ⟨_, _, _, _, _⟩) F₁₃ N₁₄ (News.isList N₁₄ (.tail _ (.tail _ (.tail _ (.tail _ (.tail _ (List.mem_append_right _ hml))))))) hints (by decide) (by rw [hgr.1]; omega) ?_
      intro D1 ws1 h11 F₁₅ N₁₅ lt1 hI1
      clear F₁₃ N₁₄ lt1
      (iterate 2 walk1)
      k_dflt (refine' above_call K0 F₁₅ KX N₁₅ T ?hk (.head _) hI1 ?hb ?_; (case hk => exact rfl); (case hb => exact fun z hz => hgr.2 z (List.mem_of_mem_drop hz)))
      intro X2 tx2 ux2 h12 tk12 F₁₆ N₁₆ off2
      clear F₁₅ N₁₅ off2
      (iterate 4 walk1)
      rename Fr s₁.heap L _ _ => F₁₇
      rename News s₁.heap L _ _ => N₁₇
      rename_i TT h13 l8
      try k_unfold
      try dsimp only
      have hne : r ≠ [] := fun e => by have := hgr.1; rw [e] at this; simp at this; omega
      have key : ∀ {p q : Int} {t u : Tok}, p = (hdF r).1 → q = (hdF r).2 → FracAre (ys ++ [.ref TT]) ((rs.take (i + 1)).map hdF) (pos ++ [(TT, tupO [.int p t, .int q u])]) := by
        intro p q t u e1 e2
        subst e1 e2
        rw [List.take_add_one, hr, List.map_append]
        exact hP.snoc
      exact frac_end F₁₇ N₁₇ off l8.2.2.1 l8.2.2.2.1 l8.2.2.2.2.1 hbx fun _ => ⟨_, key (contF_P r) (contF_Q hne), rfl⟩
    · rintro lv n' ⟨pos, hP, rfl⟩
      rw [List.take_of_length_le (by rw [List.size_toArray, hrvl, hlen5]; exact Nat.le_refl _)] at hP
      clear F N
      unfold LCg.FinA
      intro ll h9 tk9 F₁₂ N₁₂ o2
      exact ⟨by trivial, _, _, ll, lv, pos, rfl, hP, F₁₂, N₁₂⟩
  clear F N
  rintro _ ⟨h10, tk10, pl, pv, pos, rfl, hpv, F, N⟩
  refine wpC_execs_cons (wpC_of ?_)
  (iterate 13 walk1)
  k_dflt (refine' tells_call (nk := kv.length) (nr := fv.length) (nf := pv.length) K0 F KX N T ?hk hK (rf_of hfv hpv) ?hsub (dirs_ne hW2) ?hdz (rows_sz hG hW4) (rows_good hG hW2) ?_; (case hk => exact rfl); (case hdz => rw [List.length_map, List.length_range]; omega))
  case hsub =>
    intro q hq
    simp only [List.mem_cons, List.mem_append] at hq
    rcases hq with h | h | h | h | h
    · rw [h]; exact .tail _ (.tail _ (.tail _ (List.mem_append_right _ hbk)))
    · rw [h]; exact .tail _ (.tail _ (.head _))
    · rw [h]; exact .head _
    · exact .tail _ (.tail _ (.tail _ (List.mem_append_right _ (hbkos _ h))))
    · exact .tail _ (.tail _ (.tail _ (List.mem_append_left _ h)))
  intro h11 tk11 F₁ N₁
  replace N₁ : News s₁.heap L h11 ((ml, LCg.lst mv) :: big) := fun p hp => N₁ p (by
    simp only [List.mem_cons, List.mem_append] at hp ⊢
    rcases hp with h | h <;> simp only [h, true_or, or_true])
  clear F N
  (iterate 11 walk1)
  k_dflt (refine LCg.ListComp_U (F₀ := F₁) (by rfl) (by decide) (by rfl) (by decide) (by rfl) ?_)
  walk1
  k_dflt (refine LCg.CompSrc.ledger (its := rv.toArray) (by rfl) F₁ N₁ (.tail _ hbx) (by rw [List.size_toArray, hrvl, sizeLine_eq]; decide) ?_)
  intro g
  refine comp_run (fun i ys n' => ∃ pos, FracAre ys (((rs.take i).map List.reverse).map hdF) pos ∧ n' = (ml, LCg.lst mv) :: (pos ++ big)) ?_ ?_ _ ⟨[], FracAre.nil, rfl⟩
  · rintro i ys n' v I oI C oC D m₂ h9 tk9 E' hi ⟨pos, hP, rfl⟩ hv hC hx F₁₂ N₁₂ off ne
    clear F₁ N₁
    have hi5 : i < rs.length := by rw [hlen5, ← hrvl]; simpa using hi
    obtain ⟨r, hr⟩ : ∃ r, rs[i]? = some r := ⟨_, List.getElem?_eq_getElem hi5⟩
    obtain ⟨ra, rw', rk, hra, hints, hmem⟩ := hR.at' i r hr
    have hv' : rv[i]? = some v := by simpa using hv
    obtain rfl : Value.ref ra = v := Option.some.inj (hra.symm.trans hv')
    have hgr := hG r (List.mem_of_getElem? hr)
    have hml : (ra, listOf rw'.toArray rk) ∈ big := hbos _ hmem
    (iterate 8 (first | (k_unfold; (try dsimp only)) | walk1))
    k_dflt (refine' above_call K0 F₁₂ KX N₁₂ T ?hk (.tail _ (.tail _ (.tail _ (.tail _ (List.mem_append_right _ hml))))) hints hgr.2 ?_; (case hk => exact rfl))
    intro X1 tx ux h10 tk10 F₁₃ N₁₃ off1
    clear F₁₂ N₁₂
    try k_unfold
    try dsimp only
    have key : ∀ {p q : Int} {t u : Tok}, (p, q) = hdF r.reverse → FracAre (ys ++ [.ref X1]) (((rs.take (i + 1)).map List.reverse).map hdF) (pos ++ [(X1, tupO [.int p t, .int q u])]) := by
      intro p q t u e
      rw [List.take_add_one, hr, List.map_append, List.map_append, Option.toList_some, List.map_singleton, List.map_singleton, ← e]
      exact hP.snoc
    exact frac_end2 F₁₃ N₁₃ off (Ne.symm (off1 _ (.head _))) (Ne.symm (off1 _ (.tail _ (.head _)))) (Ne.symm (off1 _ (.tail _ (.tail _ (.head _))))) hbx fun _ => ⟨_, key (contF_mirror r), rfl⟩
  · rintro lv n' ⟨pos, hP, rfl⟩
    rw [List.take_of_length_le (by rw [List.size_toArray, hrvl, hlen5]; exact Nat.le_refl _)] at hP
    clear F₁ N₁
    unfold LCg.FinE
    intro ll h9 tk9 F₁₂ N₁₂ o2
    dsimp only
    (iterate 2 walk1)
    k_dflt (refine' tells_call (nk := kv.length) (nr := mv.length) (nf := lv.length) K0 F₁₂ KX N₁₂ T ?hk hK (rf_of hmv hP) ?hsub (dirs_ne hW2) ?hdz (rows_sz (good_rev hG) hW4) (rows_good (good_rev hG) hW2) ?_; (case hk => exact rfl); (case hdz => rw [List.length_map, List.length_range]; omega))
    case hsub =>
      intro q hq
      simp only [List.mem_cons, List.mem_append] at hq
      rcases hq with h | h | h | h | h
      · rw [h]; exact .tail _ (.tail _ (List.mem_append_right _ hbk))
      · rw [h]; exact .tail _ (.head _)
      · rw [h]; exact .head _
      · exact .tail _ (.tail _ (List.mem_append_right _ (hbkos _ h)))
      · exact .tail _ (.tail _ (List.mem_append_left _ h))
    intro h12 tk12 F₁₃ N₁₃
    clear F₁₂ N₁₂ o2
    k_end
    wrow_close
end Mine
end

open PySem PySem.W PyProof.Rows
theorem PySem.Challenge.cw_pg0018_01_holds : PySem.Challenge.rw_pg0018_01.Holds := by
  exact Mine.holds
