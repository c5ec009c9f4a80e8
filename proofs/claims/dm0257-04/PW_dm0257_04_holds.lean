import PyProof.Rows.All
import Wide.All
import OpenK.AllK
import Wide.FinOn
import PySem.Challenge.RW_dm0257_04
open PySem PySem.W PyProof.Rows PySem.Calls PySem.Spec
set_option Elab.async false
set_option maxRecDepth 100000
set_option maxHeartbeats 8000000
set_option linter.unusedVariables false
set_option linter.unusedSimpArgs false
set_option genSizeOf false
set_option genInjectivity false
namespace Mine
/-! a logic for the runs that have the claim's caller on their stack -/
def CalB (l : List (Code × Pos)) : Prop := ∃ x ∈ l, x.1.isCaller = true
def Cal (Γ : PySem.Ctx) : Prop := Γ.code.isCaller = true ∨ CalB Γ.below
def wpC {α : Type} (M : Model) (A : Around) (t : Sem α) (Q : α → Shared → Prop) (E : Value → Shared → Prop) (s : Shared) : Prop :=
  ∀ (Γ : PySem.Ctx) p, Γ.In A → Cal Γ → Sem.wp M Γ t (fun a _ s' => Q a s') (fun e _ s' => E e s') p s
def codeC (M : Model) (A : Around) (c : Code) (R : Result → Shared → Prop) (s : Shared) : Prop :=
  ∀ (Γ : PySem.Ctx) p, Γ.code = c → Γ.Below A → CalB Γ.below → wpCode M Γ R p s
section
variable {α β : Type} {M : Model} {A : Around} {E : Value → Shared → Prop} {s : Shared} {env : Env}
theorem wpC_of {t : Sem α} {Q : α → Shared → Prop} (h : wpAny M A t Q E s) : wpC M A t Q E s := fun Γ p hΓ _ => h Γ p hΓ
theorem wpC_mono {t : Sem α} {Q Q' : α → Shared → Prop} {E' : Value → Shared → Prop} (h : wpC M A t Q E s) (hQ : ∀ a s, Q a s → Q' a s) (hE : ∀ e s, E e s → E' e s) : wpC M A t Q' E' s :=
  fun Γ p hΓ hC => Sem.wp_mono M Γ t (fun a _ s => hQ a s) (fun e _ s => hE e s) p s (h Γ p hΓ hC)
theorem codeC_mono {c : Code} {R R' : Result → Shared → Prop} (h : codeC M A c R s) (hR : ∀ r s, R r s → R' r s) : codeC M A c R' s :=
  fun Γ p hc hΓ hC => wpCode_mono hR (h Γ p hc hΓ hC)
theorem wpC_bind {m : Sem α} {f : α → Sem β} {Q : β → Shared → Prop} (h : wpC M A m (fun a s' => wpC M A (f a) Q E s') E s) : wpC M A (m >>= f) Q E s := fun Γ p hΓ hC => by
  rw [Sem.wp_bind']
  exact Sem.wp_mono M Γ m (fun a p' s' h' => h' Γ p' hΓ hC) (fun _ _ _ h' => h') p s (h Γ p hΓ hC)
theorem wpC_pure {a : α} {Q : α → Shared → Prop} (h : Q a s) : wpC M A (pure a) Q E s := fun _ _ _ _ => h
theorem wpC_onRaise {m : Sem α} {k : Value → Sem Unit} {Q : α → Shared → Prop} (h : wpC M A m Q (fun e s' => wpC M A (k e) (fun _ s'' => E e s'') E s') s) : wpC M A (m.onRaise k) Q E s := fun Γ p hΓ hC => by
  rw [Sem.wp_onRaise]
  exact Sem.wp_mono M Γ m (fun _ _ _ h' => h') (fun e p' s' h' => h' Γ p' hΓ hC) p s (h Γ p hΓ hC)
theorem wpC_attempt {m : Sem α} {Q : Except Value α → Shared → Prop} (h : wpC M A m (fun a => Q (.ok a)) (fun e => Q (.error e)) s) : wpC M A m.attempt Q E s := fun Γ p hΓ hC => by rw [Sem.wp_attempt]; exact h Γ p hΓ hC
theorem wpC_holding {vs : List Value} {m : Sem α} {Q : α → Shared → Prop} (h : wpC M A m Q E s) : wpC M A (holding vs m) Q E s := fun Γ p hΓ hC => by rw [Sem.wp_holding]; exact h Γ p hΓ hC
theorem cal_enter {Γ : PySem.Ctx} {c : Code} {h : Option Value} {p : Pos} (hC : Cal Γ) : CalB (Γ.enter c h p).below :=
  hC.elim (fun q => ⟨_, .head _, q⟩) fun ⟨x, hx, q⟩ => ⟨x, .tail _ hx, q⟩
theorem wpC_run {c : Code} {h : Option Value} {Q : Flow → Shared → Prop} (hc : codeC M (A.mark h) c (fun r s' => match r with | .ok f => Q f s' | .error e => E e s') s) (hnb : h ≠ some byPass) : wpC M A (run c h) Q E s :=
  fun Γ p hΓ hC => by rw [Sem.wp_run]; exact hc _ p rfl (hΓ.enter c h p hnb) (cal_enter hC)
theorem wpC_runValue {c : Code} {Q : Value → Shared → Prop} (hc : codeC M A c (fun r s' => match r with | .ok (.ret v) => Q v s' | .ok _ => False | .error e => E e s') s) : wpC M A (runValue c) Q E s :=
  fun Γ p hΓ hC => by rw [Sem.wp_runValue]; exact hc _ p rfl (hΓ.enter c none p (by intro x; cases x)) (cal_enter hC)
theorem wpC_call {f : Value} {pos : List Value} {kw : List (Str × Value)} {Q : Value → Shared → Prop} (hc : codeC M A (.call f ⟨pos, kw⟩) (fun r s' => match r with | .ok (.ret v) => Q v s' | .ok _ => False | .error e => E e s') s) : wpC M A (call f pos kw) Q E s := wpC_runValue hc
theorem codeC_of_tree {c : Code} {R : Result → Shared → Prop} (h : wpC M (A.under c) (M.den c) (fun fin s' => match fin with | .done f => R (.ok f) s' | .again c' => c'.quiet = true ∧ codeC M A c' R s') (fun e s' => R (.error e) s') s) : codeC M A c R s := fun Γ p hc hΓ hC => by
  rw [wpCode_iff_wp, hc]
  refine Sem.wp_mono M Γ _ (fun fin p' s' h' => ?_) (fun _ _ _ h' => h') p s (h Γ p (hc ▸ hΓ.in) (.inr hC))
  cases fin with
  | done f => exact h'
  | again c' => exact ⟨h'.1, h'.2 (Γ.goto c') p' rfl (hΓ.goto c') hC⟩
theorem codeC_loop {c : Code} {R : Result → Shared → Prop} (hq : c.quiet = true) (I : Nat → Shared → Prop)
    (turn : ∀ n s, I n s → wpC M (A.under c) (M.den c) (fun fin s' => match fin with | .done f => R (.ok f) s' | .again c' => c' = c ∧ ∃ m, m < n ∧ I m s') (fun e s' => R (.error e) s') s) (n : Nat) (h : I n s) : codeC M A c R s := by
  induction n using Nat.strongRecOn generalizing s with
  | ind n ih =>
    refine codeC_of_tree (wpC_mono (turn n s h) (fun fin s' hf => ?_) fun _ _ h' => h')
    cases fin with
    | done f => exact hf
    | again c' => obtain ⟨rfl, m, hm, hI⟩ := hf; exact ⟨hq, ih m hm hI⟩
theorem wpC_execs_cons {st : Stmt} {rest : List Stmt} {Q : Flow → Shared → Prop} (h : wpC M A (exec st env) (fun f s' => match f with | .next => wpC M A (execs rest env) Q E s' | f => Q f s') E s) : wpC M A (execs (st :: rest) env) Q E s := fun Γ p hΓ hC => by
  rw [execs_cons, Sem.wp_bind']
  refine Sem.wp_mono M Γ _ (fun f p' s' h' => ?_) (fun _ _ _ h' => h') _ _ (h Γ p hΓ hC)
  cases f <;> first | exact h' Γ p' hΓ hC | exact h'
/-- a while whose turns raise nothing -/
theorem wpC_While {test : Expr} {body : List Stmt} {pos : Pos} {Q : Flow → Shared → Prop} (h : codeC M A (.whileLoop test body [] env) (fun r s' => match r with | .ok f => Q f s' | .error e => False) s) : wpC M A (exec (.While test body [] pos) env) Q E s := by
  rw [exec_While]
  refine wpC_bind (wpC_of (wpAny_standAt ?_))
  unfold runOwn
  refine wpC_onRaise (wpC_run (codeC_mono h fun r s' q => ?_) (by intro x; cases x))
  cases r with
  | ok f => exact q
  | error e => exact q.elim
end
section
variable {prog : Program} {w : World} {A : Around} {R : Result → Shared → Prop} {s : Shared}
theorem codeC_whileLoop {test : Expr} {body : List Stmt} {env : Env} (I : Nat → Shared → Prop)
    (turn : ∀ n s, I n s → wpC (model prog w) A (isTrue test env (eval test env)) (fun b s₂ =>
        if b then wpC (model prog w) A (execs body env) (fun f s₃ => match f with
            | .next | .cont => ∃ m, m < n ∧ I m s₃
            | .brk => R (.ok .next) s₃
            | .ret v => R (.ok (.ret v)) s₃) (fun _ _ => False) s₂
        else R (.ok .next) s₂) (fun _ _ => False) s)
    (n : Nat) (h : I n s) : codeC (model prog w) A (.whileLoop test body [] env) R s := by
  refine codeC_loop rfl I (fun n s hI => ?_) n h
  show wpC _ A ((whileTurn test body [] env).onRaise (fun x => do noteFrame x env; theTreesLotGoes x)) _ _ s
  refine wpC_onRaise (wpC_mono (E := fun _ _ => False) ?_ (fun _ _ q => q) fun _ _ q => q.elim)
  simp only [whileTurn]
  refine wpC_bind (wpC_mono (turn n s hI) (fun b s₂ h₂ => ?_) fun _ _ h' => h')
  cases b with
  | false => exact wpC_bind (wpC_of (wpAny_execs_nil (wpC_pure h₂)))
  | true =>
    refine wpC_bind (wpC_mono h₂ (fun f s₃ h₃ => ?_) fun _ _ h' => h')
    cases f with
    | next => exact wpC_pure ⟨rfl, h₃⟩
    | cont => exact wpC_pure ⟨rfl, h₃⟩
    | brk => exact wpC_pure h₃
    | ret v => exact wpC_pure h₃
end

/-- what is asked of a law's call, in a run under the claim's caller alone -/
abbrev WalkC (q : Program) (loose : List Str) (XP : (Str → Option Value) → Heap → Prop) (YP : World → Heap → Prop) (r : RowW) (d : DefRec) (kwd : List (Str × PySem.Expr)) : Prop :=
  ∀ (w : World) (s₀ s₁ : Shared) (mg mb : Str → Option Value), Ground q loose r.records XP w s₀ mg mb s₁.heap → YP w s₁.heap → ∀ (a : Addr) (o : Obj) (pm cd doc dV kV : Value), s₁.heap.get? a = some o →
    o.data = .func { docDef d.name d.params d.body d.scope pm cd doc with defaults := dV, kwdefaults := kV } → s₁.heap.CodeRec cd d.name → Dflts mg s₁.heap d.params kwd dV kV → mg d.name = some (.ref a) → s₁.gens = #[] →
    ∀ (args : List WData) (vals : List Value) (as : List Addr), r.claim.pre args = true → WData.layableAll args = true → ReadsAllW r.records (classAt s₀.heap) s₁.heap vals args as → WellAll w.params s₁.heap vals args → (∀ a ∈ as, (a == sysModules) = false) →
      wpC (model r.prog w) callerA (call (.ref a) vals) (fun v s' => GoodWG r.claim (classAt s₀.heap) (ExcName.means s₀.heap) args s₁ (.ok (.ret v)) s')
        (fun e s' => GoodWG r.claim (classAt s₀.heap) (ExcName.means s₀.heap) args s₁ (.error e) s') s₁
theorem ends_C {prog : Program} {w : World} {t : Sem Fin} {s : Shared} {R : Result → Shared → Prop} (hreg : s.asleep)
    (h : wpC (model prog w) callerA t (fun fin s' => ∃ f, fin = .done f ∧ (R (.ok f) s' ∧ leftWithCleanup s'.gens = false)) (fun e s' => R (.error e) s' ∧ leftWithCleanup s'.gens = false) s) :
    ∃ n r s' s'', runN (denote table) prog w n s ⟨t, .builtin "claim.caller" {}, default, []⟩ = .halted (outcomeOf r) s' ∧
      schedN (denote table) prog w n (.single s ⟨t, .builtin "claim.caller" {}, default, []⟩) = .halted (outcomeOf r) s' ∧ s'.forget = s''.forget ∧ R r s'' := by
  refine Classical.byContradiction fun hng => ?_
  obtain ⟨n, r, s₁, s₂, hs, hn, hfo, hR⟩ := wp_halts_full (M := model prog w) (R := R) hreg (Sem.wp_mono _ _ t (fun fin p' s' q => by obtain ⟨f, rfl, hf⟩ := q; exact hf) (fun _ _ _ q => q) default s (h _ default caller_in (.inl rfl)))
  refine hng ?_
  clear hng
  exact ⟨n, r, s₂, s₁, hn, hs, hfo, hR⟩
/-- how a call ends -/
def EndC (r : OpenRow) (s s₁ : Shared) (args : List WData) (vs : List Value) (res : Result) (s' : Shared) : Prop :=
  r.toRowW.claim.Ends s args vs s₁ res s' ∧ s'.os = s.os ∧ (r.writes = true → namesKept r.toRowW.claim.prog r.keeps s.heap s'.heap ∧ ∀ x ∈ r.toRowW.claim.records, ∀ a, classAt s.heap x.1 = some a → recordClass s'.heap a x.1 (x.2.map (·.1)) = true)
theorem PySem.W.holds_open {r : OpenRow} {q : Program} {loose : List Str} {Xt : Shared → Bool} {XP : (Str → Option Value) → Heap → Prop} {α : Type} {Yf : Shared → α} {Ya : World → α} {YP : World → Heap → Prop} {d : DefRec} {kwd : List (Str × PySem.Expr)} {N : Nat}
    (left : LeftO r.prog q loose Xt Yf Ya N) (hY : ∀ w s, Yf s = Ya w → YP w s.heap) (hYk : ∀ w h h', YP w h → (∀ b o, h.get? b = some o → h'.get? b = some o) → YP w h')
    (hX : ∀ s, Xt s = true → XP (s.heap.nsMap mainGlobals) s.heap) (hXk : ∀ mg h h', XP mg h → (∀ b o, h.get? b = some o → h'.get? b = some o) → XP mg h')
    (hdef : defOf q r.name = some (d, kwd)) (hp : r.prog.theDef r.name = some (d.params, d.body, d.scope)) (hk : kwWritten? d.params.kwonlyargs d.params.kw_defaults = some kwd) (hRf : ∀ s, Xt s = true → RecFacts r.records s.heap) (hwr : (!r.writes || r.records.isEmpty) = true)
    (k1 : r.wellSaid = true) (ok : (chainsOk q && opensWell r.prog && (frees r.toRowW && r.within.isEmpty)) = true) (hb : r.prog.bare) (hw : r.toRowW.promised)
    (call : WalkC q loose XP YP r.toRowW d kwd) : r.Holds := by
  refine Classical.byContradiction fun hng => ?_
  obtain ⟨ok, k5⟩ := Bool.and_eq_true_iff.mp ok
  obtain ⟨hch, o1⟩ := Bool.and_eq_true_iff.mp ok
  obtain ⟨k5, k6⟩ := Bool.and_eq_true_iff.mp k5
  obtain ⟨hsame, hu, ha, hap, hm⟩ := frees_parts k5
  refine hng ?_
  clear hng
  refine ⟨k1, hw, ⟨hb, o1, by show r.toRowW.makers.map _ = []; rw [hm]; rfl⟩, hw.witness, fun w => ⟨(left.behind hX hch w).1, fun s' hs' => ?_⟩⟩
  refine Classical.byContradiction fun hng => ?_
  obtain ⟨s₀, hf, hg0, s, hT, hz, hgens, hg, G00, y⟩ := (left.behind (XP := fun mg h => XP mg h ∧ RecFacts r.records h) (fun s hs => ⟨hX s hs, hRf s hs⟩) hch w).2 s' hs'
  refine hng ?_
  clear hng
  have G0 : Ground q loose [] XP w s (s.heap.nsMap mainGlobals) (s.heap.nsMap builtinsNs) s.heap := ⟨G00.T, G00.B, G00.D, G00.TE, G00.TD, G00.W, G00.X.1, G00.cls, G00.has, G00.apart, G00.once, G00.K⟩
  have RF := G00.X.2
  refine ⟨s₀, hf, hg0, s, hT, fun n hn => ?_, RF.1, RF.2.1, ?_⟩
  · obtain rfl : n = r.name := by split at hn <;> simp_all
    exact pinned_of_view hg G0 hdef hp hk
  have hgens : s.gens = #[] := Array.eq_empty_of_size_eq_zero (beq_iff_eq.mp hgens)
  have G : Ground q loose r.records XP w s _ _ s.heap := RF.ground G0
  intro args hpre hlay ord hord
  refine Classical.byContradiction fun hng => ?_
  obtain ⟨⟨vs, s₁⟩, hlaid⟩ := Option.isSome_iff_exists.mp (layAllW_isSome (P := w.params) (ord := ord) G.has args r.args s (pre_splitW hpre).1)
  have keeps := layAllW_keeps _ _ _ hlaid
  have hal := layAllW_rest _ _ _ hlaid
  obtain ⟨as, hrd, hin, hold⟩ := reads_layAllW hord _ _ _ hlaid hlay s₁.heap (fun _ _ e => e)
  have L : Laid r.records w s s₁ args vs as := ⟨⟨ord, hord, hlaid⟩, hrd, hin, hold, keeps, hal.1.trans hgens, hal.2.2.1⟩
  have G₁ := G.keeps hXk keeps
  obtain ⟨a, o, pm, cd, doc, dV, kV, h1, h2, h3, h4, h5⟩ := G₁.fn hdef
  have h := call w s s₁ _ _ G₁ (hYk _ _ _ (hY w s y) keeps) a o pm cd doc dV kV h2 h3 h4 h5 (defOf_name hdef ▸ h1) L.gens args vs as hpre hlay L.reads L.well (L.low G.low)
  have hi := ident_freeW hu ha hap
  have hwi : r.toRowW.claim.within = [] := List.isEmpty_iff.mp k6
  have key : wpC (model r.prog w) callerA (do match ← nsGet mainNs r.name with
      | some f => do ret (← PySem.call f vs)
      | none => unsupported "claim.caller:no-such-global") (fun fin s' => ∃ f, fin = .done f ∧ (EndC r s s₁ args vs (.ok f) s' ∧ leftWithCleanup s'.gens = false))
      (fun e s' => EndC r s s₁ args vs (.error e) s' ∧ leftWithCleanup s'.gens = false) s₁ := by
    refine wpC_bind (wpC_of (wpAny_nsGet G₁.T.g ?_))
    rw [h1]
    refine wpC_bind (wpC_mono h (fun v s' g => wpC_pure ⟨_, rfl, ?_⟩) fun e s' g => ?_)
    all_goals
      have z := g.laid (c := r.toRowW.claim) hsame hwi hi L
      exact ⟨⟨z.1, z.2.1, fun q => ⟨namesKept_of hT hg r.keeps keeps g.2.1.old, noTable hwr q⟩⟩, leftWithCleanup_false_of_bare z.2.2⟩
  obtain ⟨k, res, s', s'', hrun, hsched, hfo, hcase, hos, hkp⟩ := ends_C (R := EndC r s s₁ args vs) (Shared.asleep_of_life hal.2.2.2 hz) key
  obtain ⟨eh, _, _, eo, _⟩ := Shared.forget_eq hfo
  refine hng ?_
  clear hng
  have hcase := hcase.congr eh
  rw [← eh] at hkp
  rw [← eo] at hos
  have hlife : s'.heap.life = s.heap.life := (runN_life _ _ _ hrun).trans hal.2.2.2
  refine ⟨vs, s₁, hlaid, k, _, s', hsched, ?_, (fun _ i x hx => by rw [hgens] at hx; simp at hx), hkp, by rw [hlife], Shared.rest_eq hos⟩
  rcases hcase with ⟨v, rfl, d1, d2, d3, d4, d5⟩ | ⟨e, ob, cls, rfl, d1, d2, d3, d4, d5⟩
  · exact .inl ⟨v, rfl, d1, d2, d3, fun b o y _ => d4 b o y, d5⟩
  · exact .inr ⟨e, ob, cls, rfl, d1, d2, d3, d4, fun b o y _ => d5 b o y⟩

open_top hd04 for PySem.Challenge.rw_dm0257_04
/-- plain data of the abstract states -/
inductive D where
  | none
  | bool (b : Bool)
  | int (i : Int)
  | str (x : Str)
  | tup (ds : List D)
  | lst (k : Nat)
  | ro (ns : List Int)
  | rng (a b c : Int)
  | val (v : Value)
abbrev Lg := List (Addr × Obj)
abbrev tupO (vs : List Value) (n : Nat) : Obj := { cls := .type "tuple", data := .seq vs.toArray n }
abbrev rngO (a b c : Int) (t u v : Tok) : Obj := { cls := .type "range", dict := none, data := .fields #[.int a t, .int b u, .int c v], slots := #[] }
/-- what stays the same through a law's whole call -/
structure Gl where
  prog : Program
  w : World
  K : Frag
  p : Program
  loose : List Str
  mean : ExcName → Option Value
  mg : Str → Option Value
  mb : Str → Option Value
  base : Heap
  os : OsState
/-- a world: the ledger and where the lists lie -/
structure Wd where
  N : Lg
  ρ : List Addr
mutual
def Rep (B : Heap) (W : Wd) (v : Value) : D → Prop
  | .none => v = .none
  | .bool b => v = .bool b
  | .int i => ∃ t, v = .int i t
  | .str x => ∃ t, v = .str x t
  | .tup ds => ∃ a vs n, v = .ref a ∧ (a, tupO vs n) ∈ W.N ∧ Reps B W vs ds
  | .lst k => ∃ a, v = .ref a ∧ W.ρ[k]? = some a
  | .ro ns => ∃ a vs, v = .ref a ∧ B.IsList a (List.toArray vs) ∧ IntsAre vs ns
  | .rng a b c => ∃ r t u x, v = .ref r ∧ (r, rngO a b c t u x) ∈ W.N
  | .val u => v = u
def Reps (B : Heap) (W : Wd) (vs : List Value) : List D → Prop
  | [] => vs = []
  | d :: ds => ∃ v r, vs = v :: r ∧ Rep B W v d ∧ Reps B W r ds
end
structure Wd.Le (W W' : Wd) : Prop where
  rho : ∀ (k : Nat) (a : Addr), W.ρ[k]? = some a → W'.ρ[k]? = some a
  keep : ∀ p ∈ W.N, (p.1 ∉ W.ρ ∨ p.2.cls ≠ .type "list") → p ∈ W'.N
  new : ∀ a ∈ W'.ρ, a ∈ W.ρ ∨ ∀ p ∈ W.N, p.1 ≠ a
theorem Wd.Le.refl (W : Wd) : W.Le W := ⟨fun _ _ h => h, fun _ h _ => h, fun _ h => .inl h⟩
theorem Wd.Le.trans {W₁ W₂ W₃ : Wd} (h₁ : W₁.Le W₂) (h₂ : W₂.Le W₃) : W₁.Le W₃ := by
  have key : ∀ p ∈ W₁.N, (p.1 ∉ W₁.ρ ∨ p.2.cls ≠ .type "list") → (p ∈ W₂.N ∧ (p.1 ∉ W₂.ρ ∨ p.2.cls ≠ .type "list")) := fun p hp hq =>
    ⟨h₁.keep p hp hq, hq.imp (fun q hm => (h₁.new _ hm).elim q fun h => h p hp rfl) id⟩
  refine ⟨fun k a h => h₂.rho k a (h₁.rho k a h), fun p hp hq => h₂.keep p (key p hp hq).1 (key p hp hq).2, fun a ha => ?_⟩
  rcases h₂.new a ha with h | h
  · exact h₁.new a h
  · by_cases hm : a ∈ W₁.ρ
    · exact .inl hm
    · exact .inr fun p hp he => h p (h₁.keep p hp (.inl (he ▸ hm))) he
theorem tup_ne_list : Value.type "tuple" ≠ Value.type "list" := by decide
theorem rng_ne_list : Value.type "range" ≠ Value.type "list" := by decide
def Held (o : Obj) : Prop := (o.cls = .type "tuple" ∨ o.cls = .type "range") ∧ ∀ es n, o.data ≠ .dict es n
theorem notHeld {o : Obj} (h1 : o.cls ≠ .type "tuple") (h2 : o.cls ≠ .type "range") : ¬ Held o := fun h => h.1.elim h1 h2
/-- less than Le: what Rep asks -/
structure Wd.Sub (W W' : Wd) : Prop where
  rho : ∀ (k : Nat) (a : Addr), W.ρ[k]? = some a → W'.ρ[k]? = some a
  keep : ∀ p ∈ W.N, Held p.2 → p ∈ W'.N
theorem Wd.Le.sub {W W' : Wd} (h : W.Le W') : W.Sub W' := ⟨h.rho, fun p hp q => h.keep p hp (.inr (q.1.elim (fun e => e ▸ tup_ne_list) fun e => e ▸ rng_ne_list))⟩
mutual
theorem Rep.sub {B : Heap} {W W' : Wd} (hl : W.Sub W') : ∀ (d : D) {v : Value}, Rep B W v d → Rep B W' v d
  | .none, _, h => h
  | .bool _, _, h => h
  | .int _, _, h => h
  | .str _, _, h => h
  | .tup ds, _, h => let ⟨a, vs, n, e, hm, hr⟩ := h; ⟨a, vs, n, e, hl.keep _ hm ⟨.inl rfl, fun _ _ q => nomatch q⟩, Reps.sub hl ds hr⟩
  | .lst _, _, h => let ⟨a, e, hk⟩ := h; ⟨a, e, hl.rho _ _ hk⟩
  | .ro _, _, h => h
  | .rng _ _ _, _, h => let ⟨r, t, u, x, e, hm⟩ := h; ⟨r, t, u, x, e, hl.keep _ hm ⟨.inr rfl, fun _ _ q => nomatch q⟩⟩
  | .val _, _, h => h
theorem Reps.sub {B : Heap} {W W' : Wd} (hl : W.Sub W') : ∀ (ds : List D) {vs : List Value}, Reps B W vs ds → Reps B W' vs ds
  | [], _, h => h
  | d :: ds, _, h => let ⟨v, r, e, h1, h2⟩ := h; ⟨v, r, e, Rep.sub hl d h1, Reps.sub hl ds h2⟩
end
theorem Rep.mono {B : Heap} {W W' : Wd} {d : D} {v : Value} (h : Rep B W v d) (hl : W.Le W') : Rep B W' v d := Rep.sub hl.sub d h
theorem Reps.mono {B : Heap} {W W' : Wd} {ds : List D} {vs : List Value} (h : Reps B W vs ds) (hl : W.Le W') : Reps B W' vs ds := Reps.sub hl.sub ds h
section
variable {B : Heap} {W : Wd}
theorem Rep.oi {i : Int} {t : Tok} : Rep B W (.int i t) (.int i) := ⟨t, rfl⟩
theorem Rep.os {x : Str} {t : Tok} : Rep B W (.str x t) (.str x) := ⟨t, rfl⟩
theorem Rep.ob {b : Bool} : Rep B W (.bool b) (.bool b) := rfl
theorem Reps.length {ds : List D} : ∀ {vs : List Value}, Reps B W vs ds → vs.length = ds.length := by
  induction ds with
  | nil => rintro _ rfl; rfl
  | cons d ds ih =>
    rintro _ hj1
    refine Classical.byContradiction fun hng => ?_
    obtain ⟨v, r, rfl, _, h⟩ := hj1
    refine hng ?_
    clear hng
    exact congrArg (· + 1) (ih h)
theorem Reps.append {ds es : List D} {ws : List Value} (k : Reps B W ws es) : ∀ {vs : List Value}, Reps B W vs ds → Reps B W (vs ++ ws) (ds ++ es) := by
  induction ds with
  | nil => rintro _ rfl; exact k
  | cons d ds ih =>
    rintro _ hj1
    refine Classical.byContradiction fun hng => ?_
    obtain ⟨v, r, rfl, h1, h⟩ := hj1
    refine hng ?_
    clear hng
    exact ⟨v, _, rfl, h1, ih h⟩
theorem Reps.get {ds : List D} : ∀ {vs : List Value}, Reps B W vs ds → ∀ {k : Nat} {d : D}, ds[k]? = some d → ∃ v, vs[k]? = some v ∧ Rep B W v d := by
  induction ds with
  | nil => intro vs _ k d h; cases h
  | cons d ds ih =>
    rintro _ hj1 k d' e
    refine Classical.byContradiction fun hng => ?_
    obtain ⟨v, r, rfl, h1, h⟩ := hj1
    refine hng ?_
    clear hng
    cases k with
    | zero =>
      cases e
      exact ⟨v, rfl, h1⟩
    | succ k => exact ih h e
theorem Reps.take {ds : List D} : ∀ {vs : List Value} (k : Nat), Reps B W vs ds → Reps B W (vs.take k) (ds.take k) := by
  induction ds with
  | nil =>
    rintro _ k rfl
    rw [List.take_nil, List.take_nil]
    rfl
  | cons d ds ih =>
    rintro _ k hj2
    refine Classical.byContradiction fun hng => ?_
    obtain ⟨v, r, rfl, h1, h⟩ := hj2
    refine hng ?_
    clear hng
    cases k with
    | zero => rfl
    | succ k => exact ⟨v, _, rfl, h1, ih k h⟩
theorem Reps.set {ds : List D} {u : Value} {d' : D} (hu : Rep B W u d') : ∀ {vs : List Value} (k : Nat), Reps B W vs ds → Reps B W (vs.set k u) (ds.set k d') := by
  induction ds with
  | nil => rintro _ k rfl; rfl
  | cons d ds ih =>
    rintro _ k hj2
    refine Classical.byContradiction fun hng => ?_
    obtain ⟨v, r, rfl, h1, h⟩ := hj2
    refine hng ?_
    clear hng
    cases k with
    | zero => exact ⟨u, r, rfl, hu, h⟩
    | succ k => exact ⟨v, _, rfl, h1, ih k h⟩
theorem Reps.ofInts {vs : List Value} {ns : List Int} (h : IntsAre vs ns) : Reps B W vs (ns.map D.int) := by
  induction h with
  | nil => rfl
  | cons n t r ih => exact ⟨_, _, rfl, ⟨t, rfl⟩, ih⟩
theorem Reps.one {vs : List Value} {d : D} (h : Reps B W vs [d]) : ∃ v, vs = [v] ∧ Rep B W v d := by
  refine Classical.byContradiction fun hng => ?_
  obtain ⟨v, _, rfl, h1, rfl⟩ := h
  refine hng ?_
  clear hng
  exact ⟨v, rfl, h1⟩
theorem Reps.two {vs : List Value} {d e : D} (h : Reps B W vs [d, e]) : ∃ v u, vs = [v, u] ∧ Rep B W v d ∧ Rep B W u e := by
  refine Classical.byContradiction fun hng => ?_
  obtain ⟨v, _, rfl, h1, u, _, rfl, h2, rfl⟩ := h
  refine hng ?_
  clear hng
  exact ⟨v, u, rfl, h1, h2⟩
end
/-- an abstract state: the locals, the lists, and whether a frame below was noted -/
structure St where
  env : List (Str × D)
  ls : List (List D)
  tn : Bool
/-- one activation of a def -/
structure Ac where
  A₀ : Around
  outer : List Env
  g₀ : Heap
  nm : Str
  sc : Scope
  L : Addr
  fa : Addr
  cd : Value
  hm : Option Value
  room : Nat
  cp : Option (Addr × Str × D)
abbrev Ac.env (c : Ac) : Env := envOf c.nm c.sc c.L c.fa c.cd
abbrev Ac.A (c : Ac) : Around := (c.A₀.deeper c.env).mark c.hm
abbrev Ac.fs (c : Ac) : List Addr := c.outer.filterMap (·.frame)
/-- the names of a comprehension at work -/
def CpOk (B : Heap) (cp : Option (Addr × Str × D)) (W : Wd) : Prop :=
  ∀ C x d, cp = some (C, x, d) → ∃ o es n v, (C, o) ∈ W.N ∧ C ∉ W.ρ ∧ o.data = .dict es n ∧ StrKeys es ∧ nsFind es x = some v ∧ Rep B W v d
theorem CpOk.no {B : Heap} {W : Wd} : CpOk B none W := fun _ _ _ e => by cases e
theorem stay_out {W W' : Wd} {p : Addr × Obj} (hl : W.Le W') (hp : p ∈ W.N) (h : p.1 ∉ W.ρ) : p ∈ W'.N ∧ p.1 ∉ W'.ρ := ⟨hl.keep _ hp (.inl h), fun q => (hl.new _ q).elim h fun z => z _ hp rfl⟩
theorem CpOk.mono {B : Heap} {cp : Option (Addr × Str × D)} {W W' : Wd} (h : CpOk B cp W) (hl : W.Le W') : CpOk B cp W' := by
  intro C x d e
  refine Classical.byContradiction fun hng => ?_
  obtain ⟨o, es, n, v, h1, h2, h3, h4, h5, h6⟩ := h C x d e
  refine hng ?_
  clear hng
  exact ⟨o, es, n, v, (stay_out hl h1 h2).1, (stay_out hl h1 h2).2, h3, h4, h5, h6.mono hl⟩
/-- the ground below -/
structure Gnd (G : Gl) (c : Ac) (tn : Bool) (h₀ : Heap) : Prop where
  turn : KtsTurn c.fs c.g₀ h₀
  same : tn = false → h₀ = c.g₀
  below : Below c.A₀ G.base c.outer h₀
  kin : G.K.In h₀
  top : Top G.p G.loose G.mean G.mg G.mb h₀
  kb : G.K.In G.base
  tb : Top G.p G.loose G.mean G.mg G.mb G.base
  dicts : KtsDicts c.fs h₀
  fn : c.sc.kind = .function
  dep : c.A₀.depth + 1 + c.room < recursionLimit
  unt : c.A₀.units + 3 + 8 * c.room + 80 < cLine
def LocOk (B : Heap) (W : Wd) (env : List (Str × D)) (m : Str → Option Value) : Prop := ∀ x d, env.lookup x = some d → ∃ v, m x = some v ∧ Rep B W v d
def ListAt (B : Heap) (W : Wd) (k : Nat) (ds : List D) : Prop := ∃ a vs n, W.ρ[k]? = some a ∧ (a, listOf (List.toArray vs) n) ∈ W.N ∧ Reps B W vs ds
/-- the world of a state -/
structure Wok (G : Gl) (c : Ac) (W : Wd) (st : St) (m : Str → Option Value) : Prop where
  cpo : CpOk G.base c.cp W
  loc : LocOk G.base W st.env m
  len : W.ρ.length = st.ls.length
  nodup : W.ρ.Nodup
  lists : ∀ (k : Nat) ds, st.ls[k]? = some ds → ListAt G.base W k ds
structure Core (G : Gl) (c : Ac) (W : Wd) (st : St) (h₀ : Heap) (m : Str → Option Value) : Prop where
  gnd : Gnd G c st.tn h₀
  wok : Wok G c W st m
structure Rel (G : Gl) (c : Ac) (W : Wd) (st : St) (h₀ : Heap) (m : Str → Option Value) (s : Shared) : Prop where
  gnd : Gnd G c st.tn h₀
  wok : Wok G c W st m
  fr : Fr h₀ c.L s.heap m
  news : News h₀ c.L s.heap W.N
  gens : s.gens = #[]
  os : s.os = G.os
/-- an exception of class cls on its way, in the frame c -/
def Thr (G : Gl) (c : Ac) (W : Wd) (st : St) (cls : String) (fl : Bool) (e : Value) (s' : Shared) : Prop :=
  ∃ ea h₀ m vs, e = .ref ea ∧ s'.gens = #[] ∧ s'.os = G.os ∧ Core G c W st h₀ m ∧
    ((fl = false ∧ ∃ h, Fr h₀ c.L h m ∧ News h₀ c.L h W.N ∧ Heap.MadeExcOf h s'.heap ea (.type cls) vs) ∨
     (fl = true ∧ ∃ g t, Fr h₀ c.L g m ∧ RaisedS G.base g (c.env :: c.outer) ea (.type cls) t vs W.N s'.heap ∧ g.UpToSlots s'.heap))
abbrev XPost := String → Bool → St → Prop
def XP (G : Gl) (c : Ac) (W : Wd) (X : XPost) (e : Value) (s' : Shared) : Prop :=
  ∃ W' st' cls fl, W.Le W' ∧ Thr G c W' st' cls fl e s' ∧ X cls fl st'
def QP {α β : Type} (R : Heap → Wd → α → β → Prop) (G : Gl) (c : Ac) (W : Wd) (P : β → St → Prop) (a : α) (s' : Shared) : Prop :=
  ∃ W' st' b h₀ m, W.Le W' ∧ Rel G c W' st' h₀ m s' ∧ R G.base W' a b ∧ P b st'
/-- the abstract wp -/
def AW {α β : Type} (R : Heap → Wd → α → β → Prop) (G : Gl) (c : Ac) (t : Sem α) (st : St) (P : β → St → Prop) (X : XPost) : Prop :=
  ∀ W s h₀ m, Rel G c W st h₀ m s → wpAny (model G.prog G.w) c.A t (QP R G c W P) (XP G c W X) s
inductive AF where
  | next | brk | cont
  | ret (d : D)
def RepF (B : Heap) (W : Wd) (f : Flow) : AF → Prop
  | .next => f = .next
  | .brk => f = .brk
  | .cont => f = .cont
  | .ret d => ∃ v, f = .ret v ∧ Rep B W v d
def RepB (_ : Heap) (_ : Wd) (a b : Bool) : Prop := a = b
def RepU (_ : Heap) (_ : Wd) (_ _ : Unit) : Prop := True
abbrev AE := @AW Value D Rep
abbrev AS := @AW Flow AF RepF
abbrev AB := @AW Bool Bool RepB
abbrev AU := @AW Unit Unit RepU
abbrev AL := @AW (List Value) (List D) Reps
def NoX : XPost := fun _ _ _ => False
theorem xp_no {G : Gl} {c : Ac} {W : Wd} {e : Value} {s : Shared} (h : XP G c W NoX e s) : False := by
  refine Classical.byContradiction fun hng => ?_
  obtain ⟨_, _, _, _, _, _, h⟩ := h
  refine hng ?_
  clear hng
  exact h
theorem XP.le {G : Gl} {c : Ac} {W W' : Wd} {X : XPost} {e : Value} {s : Shared} (h : XP G c W' X e s) (hl : W.Le W') : XP G c W X e s := by
  refine Classical.byContradiction fun hng => ?_
  obtain ⟨W₂, st, cls, fl, h1, h2, h3⟩ := h
  refine hng ?_
  clear hng
  exact ⟨W₂, st, cls, fl, hl.trans h1, h2, h3⟩
section
variable {α β : Type} {R : Heap → Wd → α → β → Prop} {G : Gl} {c : Ac} {W W' : Wd} {P : β → St → Prop} {X : XPost} {s : Shared} {st : St} {h₀ : Heap} {m : Str → Option Value} {t : Sem α}
theorem QP.le {a : α} (h : QP R G c W' P a s) (hl : W.Le W') : QP R G c W P a s := by
  refine Classical.byContradiction fun hng => ?_
  obtain ⟨W₂, st, b, h₀, m, h1, h2, h3⟩ := h
  refine hng ?_
  clear hng
  exact ⟨W₂, st, b, h₀, m, hl.trans h1, h2, h3⟩
/-- a wp brought down to an elder world -/
theorem wp_le (h : wpAny (model G.prog G.w) c.A t (QP R G c W' P) (XP G c W' X) s) (hl : W.Le W') : wpAny (model G.prog G.w) c.A t (QP R G c W P) (XP G c W X) s :=
  wpAny_mono h (fun _ _ q => q.le hl) fun _ _ x => x.le hl
/-- the one bind: behind a step, from the world that it leaves -/
theorem AW.step (h : AW R G c t st P X) {W₀ : Wd} (hl : W₀.Le W) (hr : Rel G c W st h₀ m s) {Q : α → Shared → Prop} {E : Value → Shared → Prop}
    (hE : ∀ e s', XP G c W₀ X e s' → E e s')
    (hQ : ∀ W' st' b h₀' m' a s', W₀.Le W' → W.Le W' → Rel G c W' st' h₀' m' s' → R G.base W' a b → P b st' → Q a s') :
    wpAny (model G.prog G.w) c.A t Q E s := by
  refine wpAny_mono (h W s h₀ m hr) (fun a s' hq => ?_) fun e s' hx => hE e s' (hx.le hl)
  refine Classical.byContradiction fun hng => ?_
  obtain ⟨W', st', b, h₀', m', l, r, rp, p⟩ := hq
  refine hng ?_
  clear hng
  exact hQ W' st' b h₀' m' a s' (hl.trans l) l r rp p
theorem QP.mp {P' : β → St → Prop} {a : α} (h : QP R G c W P a s) (hP : ∀ b st', P b st' → P' b st') : QP R G c W P' a s := by
  refine Classical.byContradiction fun hng => ?_
  obtain ⟨W', st', b, h₀', m', l, r, rp, p⟩ := h
  refine hng ?_
  clear hng
  exact ⟨W', st', b, h₀', m', l, r, rp, hP _ _ p⟩
theorem AW.mp {P' : β → St → Prop} (h : AW R G c t st P X) (hP : ∀ b st', P b st' → P' b st') : AW R G c t st P' X :=
  fun W s h₀ m hr => wpAny_mono (h W s h₀ m hr) (fun _ _ q => q.mp hP) fun _ _ x => x
/-- fewer locals -/
theorem AW.less {env : List (Str × D)} (h : AW R G c t ⟨env, st.ls, st.tn⟩ P X) (he : ∀ x d, env.lookup x = some d → st.env.lookup x = some d) : AW R G c t st P X :=
  fun W s h₀ m hr => h W s h₀ m ⟨hr.gnd, ⟨hr.wok.cpo, fun x d e => hr.wok.loc x d (he x d e), hr.wok.len, hr.wok.nodup, hr.wok.lists⟩, hr.fr, hr.news, hr.gens, hr.os⟩
/-- the heap grown, the tokens turned -/
theorem Rel.rest (h : Rel G c W st h₀ m s) {h' : Heap} (hf : Fr h₀ c.L h' m) (hn : News h₀ c.L h' W.N) (k : Nat) : Rel G c W st h₀ m { s with heap := h', toks := k } :=
  ⟨h.gnd, h.wok, hf, hn, h.gens, h.os⟩
theorem Rel.here (h : Rel G c W st h₀ m s) (k : Nat) {a : α} {b : β} (hr : R G.base W a b) (hp : P b st) : QP R G c W P a { s with toks := k } :=
  ⟨W, st, b, h₀, m, .refl W, h.rest h.fr h.news k, hr, hp⟩
theorem Rel.here0 (h : Rel G c W st h₀ m s) {a : α} {b : β} (hr : R G.base W a b) (hp : P b st) : QP R G c W P a s := ⟨W, st, b, h₀, m, .refl W, h, hr, hp⟩
end
/-- the locals as they are set -/
def setE (x : Str) (d : D) : List (Str × D) → List (Str × D)
  | [] => [(x, d)]
  | (y, e) :: r => match x == y with
    | true => (x, d) :: r
    | false => (y, e) :: setE x d r
theorem setE_lookup {x y : Str} {d e : D} {env : List (Str × D)} (h : (setE x d env).lookup y = some e) : (y = x ∧ e = d) ∨ (y ≠ x ∧ env.lookup y = some e) := by
  induction env with
  | nil =>
    by_cases hy : y = x
    · subst hy
      rw [setE, List.lookup_cons, beq_self_eq_true] at h
      exact .inl ⟨rfl, (Option.some.inj h).symm⟩
    · rw [setE, List.lookup_cons, beq_false_of_ne hy] at h
      cases h
  | cons p r ih =>
    obtain ⟨z, e'⟩ := p
    rw [setE] at h
    by_cases hz : x = z
    · subst hz
      rw [beq_self_eq_true] at h
      by_cases hy : y = x
      · subst hy
        simp only [List.lookup_cons, beq_self_eq_true] at h
        exact .inl ⟨rfl, (Option.some.inj h).symm⟩
      · simp only [List.lookup_cons, beq_false_of_ne hy] at h
        exact .inr ⟨hy, by rw [List.lookup_cons, beq_false_of_ne hy]; exact h⟩
    · rw [beq_false_of_ne hz] at h
      by_cases hy : y = z
      · subst hy
        simp only [List.lookup_cons, beq_self_eq_true] at h
        exact .inr ⟨fun q => hz q.symm, by rw [List.lookup_cons, beq_self_eq_true]; exact h⟩
      · simp only [List.lookup_cons, beq_false_of_ne hy] at h
        rcases ih h with q | q
        · exact .inl q
        · exact .inr ⟨q.1, by rw [List.lookup_cons, beq_false_of_ne hy]; exact q.2⟩
abbrev St.put (st : St) (x : Str) (d : D) : St := ⟨setE x d st.env, st.ls, st.tn⟩

/-! steps over values that are at hand -/
def A1 {α β : Type} (R : Heap → Wd → α → β → Prop) (G : Gl) (c : Ac) (f : Value → Sem α) (d : D) (st : St) (P : β → St → Prop) (X : XPost) : Prop :=
  ∀ W s h₀ m v, Rel G c W st h₀ m s → Rep G.base W v d → wpAny (model G.prog G.w) c.A (f v) (QP R G c W P) (XP G c W X) s
def A2 (G : Gl) (c : Ac) (f : Value → Value → Sem Value) (d e : D) (st : St) (P : D → St → Prop) (X : XPost) : Prop :=
  ∀ W s h₀ m v u, Rel G c W st h₀ m s → Rep G.base W v d → Rep G.base W u e → wpAny (model G.prog G.w) c.A (f v u) (QP Rep G c W P) (XP G c W X) s
def AN {α β : Type} (R : Heap → Wd → α → β → Prop) (G : Gl) (c : Ac) (f : List Value → Sem α) (ds : List D) (st : St) (P : β → St → Prop) (X : XPost) : Prop :=
  ∀ W s h₀ m vs, Rel G c W st h₀ m s → Reps G.base W vs ds → wpAny (model G.prog G.w) c.A (f vs) (QP R G c W P) (XP G c W X) s
abbrev AT := A1 RepB (f := truthy)
abbrev EVN := @AN Value D Rep
abbrev callV (f : Value) : List Value → Sem Value := fun vs => call f vs
abbrev KP := D → St → Prop
abbrev KB := Bool → St → Prop
section
variable {G : Gl} {c : Ac} {st : St} {X : XPost} {P : KP}
theorem A2.mp {f : Value → Value → Sem Value} {d e : D} {P' : KP} (h : A2 G c f d e st P X) (hP : ∀ b st', P b st' → P' b st') : A2 G c f d e st P' X :=
  fun W s h₀ m v u hr hv hu => wpAny_mono (h W s h₀ m v u hr hv hu) (fun _ _ q => q.mp hP) fun _ _ x => x
theorem AT.mp {d : D} {P P' : KB} (h : AT G c d st P X) (hP : ∀ b st', P b st' → P' b st') : AT G c d st P' X :=
  fun W s h₀ m v hr hv => wpAny_mono (h W s h₀ m v hr hv) (fun _ _ q => q.mp hP) fun _ _ x => x
/-! names and constants -/
theorem ae_name {x : Str} {pos : Pos} {d : D} (he : st.env.lookup x = some d) (hp : P d st) (hl : c.env.kindOf x = some .local) (hd : (x == ("__debug__" : Str)) = false) : AE G c (eval (.Name x pos) c.env) st P X := by
  intro W s h₀ m h
  refine Classical.byContradiction fun hng => ?_
  obtain ⟨v, hv, hr⟩ := h.wok.loc x d he
  refine hng ?_
  clear hng
  exact ld h.fr hv (h.here0 hr hp) h.gnd.fn hl hd
theorem ae_global {x : Str} {pos : Pos} {v : Value} {d : D} (e : nsIn G.K mainGlobals x = some (some v)) (hr : G.K.In G.base → ∀ W, Rep G.base W v d) (hp : P d st)
    (hx : c.env.kindOf x = some .globalImplicit) (hd : (x == ("__debug__" : Str)) = false) : AE G c (eval (.Name x pos) c.env) st P X :=
  fun W s h₀ m h => name_K h.fr h.gnd.kin (topRead_of h.gnd.top) e (h.here0 (hr h.gnd.kb W) hp) h.gnd.fn hx hd
theorem ae_int {i : Int} {k : Nat} {pos : Pos} {env : Env} (hp : P (.int i) st) : AE G c (eval (.Constant (.int i) k pos) env) st P X :=
  fun _ s _ _ h => wpAny_Constant_int (h.here _ Rep.oi hp)
theorem ae_str {x : Str} {k : Nat} {pos : Pos} {env : Env} (hp : P (.str x) st) : AE G c (eval (.Constant (.str x) k pos) env) st P X :=
  fun _ s _ _ h => Calls.Constant_str (h.here _ Rep.os hp)
theorem ae_bool {b : Bool} {k : Nat} {pos : Pos} {env : Env} (hp : P (.bool b) st) : AE G c (eval (.Constant (.bool b) k pos) env) st P X :=
  fun _ _ _ _ h => Constant_bool (h.here0 Rep.ob hp)
/-! operators -/
theorem ae_binop {l r : Expr} {op : Operator} {pos : Pos} {env : Env} (h : AE G c (eval l env) st (fun d st₁ => AE G c (eval r env) st₁ (fun e st₂ => A2 G c (binaryOp op) d e st₂ P X) X) X) :
    AE G c (eval (.BinOp l op r pos) env) st P X := by
  intro W s h₀ m hr
  refine wpAny_BinOp (h.step (.refl W) hr (fun _ _ x => x) fun W₁ st₁ d _ _ v s₁ l₁ _ r₁ p₁ h₁ => ?_)
  refine h₁.step l₁ r₁ (fun _ _ x => x) fun W₂ st₂ e _ _ u s₂ l₂ k₂ r₂ p₂ h₂ => ?_
  exact wp_le (h₂ W₂ s₂ _ _ v u r₂ (p₁.mono k₂) p₂) l₂
theorem ae_cmp {l r : Expr} {op : CmpOp} {pos : Pos} {env : Env} (h : AE G c (eval l env) st (fun d st₁ => AE G c (eval r env) st₁ (fun e st₂ => A2 G c (compareOp op) d e st₂ P X) X) X)
    (hm : behindInMarks op r = false) : AE G c (eval (.Compare l [op] [r] pos) env) st P X := by
  intro W s h₀ m hr
  refine wpAny_Compare1 (h.step (.refl W) hr (fun _ _ x => x) fun W₁ st₁ d _ _ v s₁ l₁ _ r₁ p₁ h₁ => ?_) hm
  refine h₁.step l₁ r₁ (fun _ _ x => x) fun W₂ st₂ e _ _ u s₂ l₂ k₂ r₂ p₂ h₂ => ?_
  exact wp_le (h₂ W₂ s₂ _ _ v u r₂ (p₁.mono k₂) p₂) l₂
theorem ae_sub {v i : Expr} {pos : Pos} {env : Env} (h : AE G c (eval v env) st (fun d st₁ => AE G c (eval i env) st₁ (fun e st₂ => A2 G c (subscriptTail v i) d e st₂ P X) X) X) : AE G c (eval (.Subscript v i pos) env) st P X := by
  intro W s h₀ m hr
  refine Subscript_ (h.step (.refl W) hr (fun _ _ x => x) fun W₁ st₁ d _ _ v s₁ l₁ _ r₁ p₁ h₁ => ?_)
  refine h₁.step l₁ r₁ (fun _ _ x => x) fun W₂ st₂ e _ _ u s₂ l₂ k₂ r₂ p₂ h₂ => ?_
  exact wp_le (h₂ W₂ s₂ _ _ v u r₂ (p₁.mono k₂) p₂) l₂
theorem ae_neg1 {i : Int} {k : Nat} {p pos : Pos} {env : Env} (hp : P (.int (-i)) st) : AE G c (eval (.UnaryOp .USub (.Constant (.int i) k p) pos) env) st P X :=
  fun _ s _ _ h => UnaryOp_ (wpAny_Constant_int (PyProof.Rows.neg_int ((h.rest h.fr h.news (s.toks + 1)).here _ Rep.oi hp)))
/-- a test that forks -/
theorem ab_fork {α β : Type} {R : Heap → Wd → α → β → Prop} {t : Sem Bool} {W : Wd} {s : Shared} {h₀ : Heap} {m : Str → Option Value} {Q : Bool → Shared → Prop} {P' : β → St → Prop} {A B : Sem α}
    (h : AB G c t st (fun q st₁ => (q = true → AW R G c A st₁ P' X) ∧ (q = false → AW R G c B st₁ P' X)) X) (hr : Rel G c W st h₀ m s)
    (hA : ∀ s₁, wpAny (model G.prog G.w) c.A A (QP R G c W P') (XP G c W X) s₁ → Q true s₁) (hB : ∀ s₁, wpAny (model G.prog G.w) c.A B (QP R G c W P') (XP G c W X) s₁ → Q false s₁) :
    wpAny (model G.prog G.w) c.A t Q (XP G c W X) s := by
  refine h.step (.refl W) hr (fun _ _ x => x) fun W₁ st₁ d _ _ v s₁ l₁ _ r₁ p₁ h₁ => ?_
  obtain rfl : v = d := p₁
  cases v with
  | true => exact hA _ (wp_le (h₁.1 rfl W₁ s₁ _ _ r₁) l₁)
  | false => exact hB _ (wp_le (h₁.2 rfl W₁ s₁ _ _ r₁) l₁)
theorem ae_ifexp {t a b : Expr} {pos : Pos} {env : Env} (h : AB G c (isTrue t env (eval t env)) st (fun q st₁ => (q = true → AE G c (eval a env) st₁ P X) ∧ (q = false → AE G c (eval b env) st₁ P X)) X) :
    AE G c (eval (.IfExp t a b pos) env) st P X := fun W s h₀ m hr => IfExp_ (ab_fork h hr (fun _ q => q) fun _ q => q)
/-- and, or: the value is the last one looked at -/
theorem andor {a : Expr} {B : Sem Value} {env : Env} {stop : Bool} {W : Wd} {s : Shared} {h₀ : Heap} {m : Str → Option Value} {Q : Value → Bool → Shared → Prop}
    (h : AE G c (eval a env) st (fun d st₁ => AT G c d st₁ (fun q st₂ => (q = !stop → AE G c B st₂ P X) ∧ (q = stop → P d st₂)) X) X) (hr : Rel G c W st h₀ m s)
    (hgo : ∀ v s₁, wpAny (model G.prog G.w) c.A B (QP Rep G c W P) (XP G c W X) s₁ → Q v (!stop) s₁) (hst : ∀ v s₁, QP Rep G c W P v s₁ → Q v stop s₁) :
    wpAny (model G.prog G.w) c.A (eval a env) (fun v s₁ => wpAny (model G.prog G.w) c.A (truthy v) (Q v) (XP G c W X) s₁) (XP G c W X) s := by
  refine h.step (.refl W) hr (fun _ _ x => x) fun W₁ st₁ d _ _ v s₁ l₁ _ r₁ p₁ h₁ => ?_
  refine wpAny_mono (h₁ W₁ s₁ _ _ v r₁ p₁) (fun q s₂ hq => ?_) fun _ _ x => x.le l₁
  refine Classical.byContradiction fun hng => ?_
  obtain ⟨W₂, st₂, q', _, _, l₂, r₂, e, hh⟩ := hq
  refine hng ?_
  clear hng
  obtain rfl : q = q' := e
  by_cases hq : q = stop
  · subst hq
    exact hst v s₂ ⟨W₂, st₂, d, _, _, l₁.trans l₂, r₂, p₁.mono l₂, hh.2 rfl⟩
  · obtain rfl : q = !stop := by cases q <;> cases stop <;> simp_all
    exact hgo v s₂ (wp_le (hh.1 rfl W₂ s₂ _ _ r₂) (l₁.trans l₂))
theorem ae_and {a b : Expr} {r : List Expr} {pos : Pos} {env : Env} (h : AE G c (eval a env) st (fun d st₁ => AT G c d st₁ (fun q st₂ => (q = true → AE G c (eval (.BoolOp .And (b :: r) pos) env) st₂ P X) ∧ (q = false → P d st₂)) X) X) :
    AE G c (eval (.BoolOp .And (a :: b :: r) pos) env) st P X := fun W s h₀ m hr => BoolOp_and (andor (stop := false) h hr (fun _ _ q => q) fun _ _ q => q)
theorem ae_or {a b : Expr} {r : List Expr} {pos : Pos} {env : Env} (h : AE G c (eval a env) st (fun d st₁ => AT G c d st₁ (fun q st₂ => (q = false → AE G c (eval (.BoolOp .Or (b :: r) pos) env) st₂ P X) ∧ (q = true → P d st₂)) X) X) :
    AE G c (eval (.BoolOp .Or (a :: b :: r) pos) env) st P X := fun W s h₀ m hr => BoolOp_or (andor (stop := true) h hr (fun _ _ q => q) fun _ _ q => q)
theorem ae_bool1 {op : BoolOp} {a : Expr} {pos : Pos} {env : Env} (h : AE G c (eval a env) st P X) : AE G c (eval (.BoolOp op [a] pos) env) st P X :=
  fun W s h₀ m hr => BoolOp_one (h W s h₀ m hr)
end
section
variable {G : Gl} {c : Ac} {st : St} {X : XPost} {P : KB}
/-- a value's truth behind a step -/
theorem tru_step {t : Sem Value} (h : AE G c t st (fun d st₁ => AT G c d st₁ P X) X) {W : Wd} {s : Shared} {h₀ : Heap} {m : Str → Option Value} (hr : Rel G c W st h₀ m s) :
    wpAny (model G.prog G.w) c.A t (fun v s₁ => wpAny (model G.prog G.w) c.A (truthy v) (QP RepB G c W P) (XP G c W X) s₁) (XP G c W X) s :=
  h.step (.refl W) hr (fun _ _ x => x) fun W₁ st₁ d _ _ v s₁ l₁ _ R₁ p₁ h₁ => wp_le (h₁ W₁ s₁ _ _ v R₁ p₁) l₁
theorem ab_plain {e : Expr} {env : Env} {whole : Sem Value} (h : AE G c whole st (fun d st₁ => AT G c d st₁ P X) X) (he : isTrue e env whole = (do let v ← whole; standAt e.pos; holding [v] (truthy v))) :
    AB G c (isTrue e env whole) st P X := fun W s h₀ m hr => isTrue_plain (tru_step h hr) he
theorem cmp_step {op : CmpOp} {d e : D} {W₀ W : Wd} {s : Shared} {h₀ : Heap} {m : Str → Option Value} {v u : Value} (h : A2 G c (compareOp op) d e st (fun b st₃ => AT G c b st₃ P X) X) (hl : W₀.Le W) (hr : Rel G c W st h₀ m s) (hv : Rep G.base W v d) (hu : Rep G.base W u e) :
    wpAny (model G.prog G.w) c.A (compareOp op v u) (fun v s₁ => wpAny (model G.prog G.w) c.A (truthy v) (QP RepB G c W₀ P) (XP G c W₀ X) s₁) (XP G c W₀ X) s := by
  refine wpAny_mono (h W s _ _ v u hr hv hu) (fun b s₃ hq => ?_) fun _ _ x => x.le hl
  refine Classical.byContradiction fun hng => ?_
  obtain ⟨W₃, st₃, b', _, _, l₃, R₃, p₃, h₃⟩ := hq
  refine hng ?_
  clear hng
  exact wp_le (h₃ W₃ s₃ _ _ b R₃ p₃) (hl.trans l₃)
theorem ab_cmp {l r : Expr} {op : CmpOp} {pos : Pos} {env : Env} {whole : Sem Value} (h : AE G c (eval l env) st (fun d st₁ => AE G c (eval r env) st₁ (fun e st₂ => A2 G c (compareOp op) d e st₂ (fun b st₃ => AT G c b st₃ P X) X) X) X)
    (hm : behindInMarks op r = false) : AB G c (isTrue (.Compare l [op] [r] pos) env whole) st P X := by
  intro W s h₀ m hr
  refine wpAny_isTrue_Compare1 (h.step (.refl W) hr (fun _ _ x => x) fun W₁ st₁ d _ _ v s₁ l₁ _ r₁ p₁ h₁ => ?_) hm
  exact h₁.step l₁ r₁ (fun _ _ x => x) fun W₂ st₂ e _ _ u s₂ l₂ k₂ r₂ p₂ h₂ => cmp_step h₂ l₂ r₂ (p₁.mono k₂) p₂
theorem ab_chain2 {l r₁ r₂ : Expr} {op₁ op₂ : CmpOp} {pos : Pos} {env : Env} {whole : Sem Value}
    (h : AE G c (eval l env) st (fun d st₁ => AE G c (eval r₁ env) st₁ (fun e st₂ => A2 G c (compareOp op₁) d e st₂ (fun b st₃ => AT G c b st₃ (fun q st₄ =>
      (q = true → AE G c (eval r₂ env) st₄ (fun f st₅ => A2 G c (compareOp op₂) e f st₅ (fun b' st₆ => AT G c b' st₆ P X) X) X) ∧ (q = false → P false st₄)) X) X) X) X)
    (hm : lastMarks [op₁, op₂] [r₁, r₂] = false) : AB G c (isTrue (.Compare l [op₁, op₂] [r₁, r₂] pos) env whole) st P X := by
  intro W s h₀ m hr
  refine isTrue_chain (h.step (.refl W) hr (fun _ _ x => x) fun W₁ st₁ d _ _ v s₁ l₁ _ R₁ p₁ h₁ => ?_) hm
  refine test_link (h₁.step l₁ R₁ (fun _ _ x => x) fun W₂ st₂ e _ _ u s₂ l₂ k₂ R₂ p₂ h₂ => ?_)
  refine wpAny_mono (cmp_step h₂ (.refl W₂) R₂ (p₁.mono k₂) p₂) (fun b s₃ hb => wpAny_mono hb (fun q s₄ hq => ?_) fun _ _ x => x.le l₂) fun _ _ x => x.le l₂
  refine Classical.byContradiction fun hng => ?_
  obtain ⟨W₄, st₄, q', _, _, l₄, R₄, e₄, h₄⟩ := hq
  refine hng ?_
  clear hng
  obtain rfl : q = q' := e₄
  cases q with
  | false => exact ⟨W₄, st₄, false, _, _, l₂.trans l₄, R₄, rfl, h₄.2 rfl⟩
  | true => exact test_last ((h₄.1 rfl).step (l₂.trans l₄) R₄ (fun _ _ x => x) fun W₅ st₅ f _ _ z s₅ l₅ k₅ R₅ p₅ h₅ => cmp_step h₅ l₅ R₅ ((p₂.mono l₄).mono k₅) p₅)
theorem ab_not {e : Expr} {pos : Pos} {env : Env} {whole : Sem Value} (h : AB G c (isTrue e env (eval e env)) st (fun b st₁ => P (!b) st₁) X) : AB G c (isTrue (.UnaryOp .Not e pos) env whole) st P X := by
  intro W s h₀ m hr
  refine isTrue_not (wpAny_mono (h W s h₀ m hr) (fun b s₁ hq => ?_) fun _ _ x => x)
  refine Classical.byContradiction fun hng => ?_
  obtain ⟨W₁, st₁, b', _, _, l₁, R₁, e₁, h₁⟩ := hq
  refine hng ?_
  clear hng
  obtain rfl : b = b' := e₁
  exact ⟨W₁, st₁, _, _, _, l₁, R₁, rfl, h₁⟩
theorem ab_stop {e : Expr} {env : Env} {B : Sem Bool} {stop : Bool} {W : Wd} {s : Shared} {h₀ : Heap} {m : Str → Option Value} {Q : Bool → Shared → Prop}
    (h : AB G c (isTrue e env (eval e env)) st (fun b st₁ => (b = !stop → AB G c B st₁ P X) ∧ (b = stop → P stop st₁)) X) (hr : Rel G c W st h₀ m s)
    (hgo : ∀ s₁, wpAny (model G.prog G.w) c.A B (QP RepB G c W P) (XP G c W X) s₁ → Q (!stop) s₁) (hst : ∀ s₁, QP RepB G c W P stop s₁ → Q stop s₁) :
    wpAny (model G.prog G.w) c.A (isTrue e env (eval e env)) Q (XP G c W X) s := by
  refine wpAny_mono (h W s h₀ m hr) (fun b s₁ hq => ?_) fun _ _ x => x
  refine Classical.byContradiction fun hng => ?_
  obtain ⟨W₁, st₁, b', _, _, l₁, R₁, e₁, h₁⟩ := hq
  refine hng ?_
  clear hng
  obtain rfl : b = b' := e₁
  by_cases hq : b = stop
  · subst hq
    exact hst s₁ ⟨W₁, st₁, _, _, _, l₁, R₁, rfl, h₁.2 rfl⟩
  · obtain rfl : b = !stop := by cases b <;> cases stop <;> simp_all
    exact hgo s₁ (wp_le (h₁.1 rfl W₁ s₁ _ _ R₁) l₁)
theorem ab_and {e : Expr} {r : List Expr} {pos : Pos} {env : Env} {whole : Sem Value} (h : AB G c (isTrue e env (eval e env)) st (fun b st₁ => (b = true → AB G c (isTrue (.BoolOp .And r pos) env whole) st₁ P X) ∧ (b = false → P false st₁)) X) :
    AB G c (isTrue (.BoolOp .And (e :: r) pos) env whole) st P X := fun W s h₀ m hr => isTrue_and (ab_stop (stop := false) h hr (fun _ q => q) fun _ q => q)
theorem ab_or {e : Expr} {r : List Expr} {pos : Pos} {env : Env} {whole : Sem Value} (h : AB G c (isTrue e env (eval e env)) st (fun b st₁ => (b = false → AB G c (isTrue (.BoolOp .Or r pos) env whole) st₁ P X) ∧ (b = true → P true st₁)) X) :
    AB G c (isTrue (.BoolOp .Or (e :: r) pos) env whole) st P X := fun W s h₀ m hr => isTrue_or (ab_stop (stop := true) h hr (fun _ q => q) fun _ q => q)
theorem ab_and_nil {pos : Pos} {env : Env} {whole : Sem Value} (h : P true st) : AB G c (isTrue (.BoolOp .And [] pos) env whole) st P X :=
  fun _ _ _ _ hr => isTrue_and_nil (hr.here0 rfl h)
theorem ab_or_nil {pos : Pos} {env : Env} {whole : Sem Value} (h : P false st) : AB G c (isTrue (.BoolOp .Or [] pos) env whole) st P X :=
  fun _ _ _ _ hr => isTrue_or_nil (hr.here0 rfl h)
/-! truth -/
theorem at_bool {b : Bool} (h : P b st) : AT G c (.bool b) st P X := by
  rintro W s h₀ m _ hr rfl
  exact wpAny_truthy_bool (hr.here0 rfl h)
theorem at_int {i : Int} (h : P (i != 0) st) : AT G c (.int i) st P X := by
  rintro W s h₀ m _ hr ⟨_, rfl⟩
  exact PyProof.Rows.truthy_int (hr.here0 rfl h)
theorem at_str {x : Str} (h : P ((x.length : Int) != 0) st) (hf : (x.length : Int) < 2 ^ 63) : AT G c (.str x) st P X := by
  rintro W s h₀ m _ hr ⟨_, rfl⟩
  exact PySem.P.truthy_str (by lia) (hr.here _ rfl h)
end
section
variable {G : Gl} {c : Ac} {st : St} {X : XPost} {P : KP}
/-! ints -/
theorem ev_add {a b : Int} (h : P (.int (a + b)) st) : A2 G c (binaryOp .Add) (.int a) (.int b) st P X := by
  rintro W s h₀ m _ _ hr ⟨_, rfl⟩ ⟨_, rfl⟩
  exact PyProof.Rows.add_int (hr.here _ Rep.oi h)
theorem ev_sub {a b : Int} (h : P (.int (a - b)) st) : A2 G c (binaryOp .Sub) (.int a) (.int b) st P X := by
  rintro W s h₀ m _ _ hr ⟨_, rfl⟩ ⟨_, rfl⟩
  exact PyProof.Rows.sub_int (hr.here _ Rep.oi h)
theorem ev_mul {a b : Int} (h : P (.int (a * b)) st) (hm : IntMulOk a b) : A2 G c (binaryOp .Mult) (.int a) (.int b) st P X := by
  rintro W s h₀ m _ _ hr ⟨_, rfl⟩ ⟨_, rfl⟩
  exact PyProof.Rows.mul_int (hr.here _ Rep.oi h) hm
theorem ev_mod {a b : Int} (hb : 0 < b) (h : P (.int (a % b)) st) : A2 G c (binaryOp .Mod) (.int a) (.int b) st P X := by
  rintro W s h₀ m _ _ hr ⟨_, rfl⟩ ⟨_, rfl⟩
  refine PyProof.Rows.mod_int (Int.ne_of_gt hb) ?_
  rw [Int.fmod_eq_emod_of_nonneg _ (Int.le_of_lt hb)]
  exact hr.here _ Rep.oi h
theorem ev_div {a b : Int} (hb : 0 < b) (hq : b < 1073741824) (h : P (.int (a / b)) st) : A2 G c (binaryOp .FloorDiv) (.int a) (.int b) st P X := by
  rintro W s h₀ m _ _ hr ⟨_, rfl⟩ ⟨_, rfl⟩
  refine PyProof.Rows.floordiv_int (Int.ne_of_gt hb) ?_ (.inl (PyProof.noPylong_small (by lia)))
  rw [Int.fdiv_eq_ediv_of_nonneg _ (Int.le_of_lt hb)]
  exact hr.here _ Rep.oi h
theorem ev_lt {a b : Int} (h : P (.bool (decide (a < b))) st) : A2 G c (compareOp .Lt) (.int a) (.int b) st P X := by
  rintro W s h₀ m _ _ hr ⟨_, rfl⟩ ⟨_, rfl⟩
  exact PyProof.Rows.lt_int (hr.here0 Rep.ob h)
theorem ev_le {a b : Int} (h : P (.bool (decide (a ≤ b))) st) : A2 G c (compareOp .LtE) (.int a) (.int b) st P X := by
  rintro W s h₀ m _ _ hr ⟨_, rfl⟩ ⟨_, rfl⟩
  exact PyProof.Rows.le_int (hr.here0 Rep.ob h)
theorem ev_gt {a b : Int} (h : P (.bool (decide (b < a))) st) : A2 G c (compareOp .Gt) (.int a) (.int b) st P X := by
  rintro W s h₀ m _ _ hr ⟨_, rfl⟩ ⟨_, rfl⟩
  exact PyProof.Rows.gt_int (hr.here0 Rep.ob h)
theorem ev_ge {a b : Int} (h : P (.bool (decide (b ≤ a))) st) : A2 G c (compareOp .GtE) (.int a) (.int b) st P X := by
  rintro W s h₀ m _ _ hr ⟨_, rfl⟩ ⟨_, rfl⟩
  exact PyProof.Rows.ge_int (hr.here0 Rep.ob h)
theorem ev_eq {a b : Int} (h : P (.bool (decide (a = b))) st) : A2 G c (compareOp .Eq) (.int a) (.int b) st P X := by
  rintro W s h₀ m _ _ hr ⟨_, rfl⟩ ⟨_, rfl⟩
  exact PyProof.Rows.eq_int (hr.here0 Rep.ob h)
theorem bne_dec {α : Type} [DecidableEq α] (a b : α) : (a != b) = decide (a ≠ b) := by by_cases q : a = b <;> simp [q]
theorem ev_ne {a b : Int} (h : P (.bool (decide (a ≠ b))) st) : A2 G c (compareOp .NotEq) (.int a) (.int b) st P X := by
  rintro W s h₀ m _ _ hr ⟨_, rfl⟩ ⟨_, rfl⟩
  exact PyProof.Rows.ne_int (hr.here0 (b := .bool (decide (a ≠ b))) (congrArg _ (bne_dec a b)) h)
theorem ev_addB {a : Int} {b : Bool} (h : P (.int (a + if b = true then 1 else 0)) st) : A2 G c (binaryOp .Add) (.int a) (.bool b) st P X := by
  rintro W s h₀ m _ _ hr ⟨_, rfl⟩ rfl
  exact add_int_bool (hr.here _ Rep.oi h)
theorem ev_iadd {a b : Int} (h : P (.int (a + b)) st) : A2 G c (inplaceOp .Add) (.int a) (.int b) st P X := by
  rintro W s h₀ m _ _ hr ⟨_, rfl⟩ ⟨_, rfl⟩
  exact PyProof.Rows.iadd_int (hr.here _ Rep.oi h)
theorem ev_isub {a b : Int} (h : P (.int (a - b)) st) : A2 G c (inplaceOp .Sub) (.int a) (.int b) st P X := by
  rintro W s h₀ m _ _ hr ⟨_, rfl⟩ ⟨_, rfl⟩
  exact PyProof.Rows.isub_int (hr.here _ Rep.oi h)
theorem ev_iaddB {a : Int} {b : Bool} (h : P (.int (a + if b = true then 1 else 0)) st) : A2 G c (inplaceOp .Add) (.int a) (.bool b) st P X := by
  rintro W s h₀ m _ _ hr ⟨_, rfl⟩ rfl
  exact iadd_int_bool (hr.here _ Rep.oi h)
theorem ev_pow {a b : Int} (hn : 0 ≤ b) (hz : (Builtin.Int.intBits a : Int) * b ≤ 2 ^ 27) (h : P (.int (a ^ b.toNat)) st) : A2 G c (binaryOp .Pow) (.int a) (.int b) st P X := by
  rintro W s h₀ m _ _ hr ⟨_, rfl⟩ ⟨_, rfl⟩
  exact PyProof.Rows.pow_int hn hz (hr.here _ Rep.oi h)
theorem ev_shr5 {a : Int} (h : P (.int (a / 32)) st) : A2 G c (binaryOp .RShift) (.int a) (.int 5) st P X := by
  rintro W s h₀ m _ _ hr ⟨_, rfl⟩ ⟨_, rfl⟩
  refine PyProof.Rows.rshift_int (by decide) ?_
  rw [Int.fdiv_eq_ediv_of_nonneg _ (by decide)]
  exact hr.here _ Rep.oi h
/-! bools, texts -/
theorem ev_eqB {a b : Bool} (h : P (.bool (a == b)) st) : A2 G c (compareOp .Eq) (.bool a) (.bool b) st P X := by
  rintro W s h₀ m _ _ hr rfl rfl
  exact eq_bool (hr.here0 Rep.ob h)
theorem ev_eqS {a b : Str} (h : P (.bool (decide (a = b))) st) : A2 G c (compareOp .Eq) (.str a) (.str b) st P X := by
  rintro W s h₀ m _ _ hr ⟨_, rfl⟩ ⟨_, rfl⟩
  exact PyProof.Rows.eq_str (hr.here0 Rep.ob h)
theorem ev_neS {a b : Str} (h : P (.bool (decide (a ≠ b))) st) : A2 G c (compareOp .NotEq) (.str a) (.str b) st P X := by
  rintro W s h₀ m _ _ hr ⟨_, rfl⟩ ⟨_, rfl⟩
  exact PyProof.Rows.ne_str (hr.here0 (b := .bool (decide (a ≠ b))) (congrArg _ (bne_dec a b)) h)
theorem ev_inS {x y : Str} (h : P (.bool (Txt.contains x y)) st) : A2 G c (compareOp .In) (.str y) (.str x) st P X := by
  rintro W s h₀ m _ _ hr ⟨_, rfl⟩ ⟨_, rfl⟩
  exact PySem.P.in_str (hr.here0 Rep.ob h)
end

abbrev KF := AF → St → Prop
def seqK (k : St → Prop) (P : KF) : KF
  | .next, st => k st
  | .brk, st => P .brk st
  | .cont, st => P .cont st
  | .ret d, st => P (.ret d) st
section
variable {G : Gl} {c : Ac} {st : St} {X : XPost}
theorem au_store {x : Str} {d : D} {P : Unit → St → Prop} (h : P () (st.put x d)) (hl : c.env.kindOf x = some .local) : A1 RepU G c (storeName c.env x) d st P X := by
  intro W s h₀ m v hr hv
  refine stN hr.fr hr.news (fun h' F N => ?_) hr.gnd.fn hl
  refine ⟨W, st.put x d, (), h₀, _, .refl W, ⟨hr.gnd, ⟨hr.wok.cpo, fun y e he => ?_, hr.wok.len, hr.wok.nodup, hr.wok.lists⟩, F, N, hr.gens, hr.os⟩, trivial, h⟩
  rcases setE_lookup he with ⟨rfl, rfl⟩ | ⟨hy, hq⟩
  · exact ⟨v, if_pos rfl, hv⟩
  · refine Classical.byContradiction fun hng => ?_
    obtain ⟨u, hu, hr'⟩ := hr.wok.loc y e hq
    refine hng ?_
    clear hng
    exact ⟨u, by rw [if_neg hy]; exact hu, hr'⟩
variable {P : KF}
theorem rep_done {W₀ W : Wd} {s : Shared} {h₀ : Heap} {m : Str → Option Value} {af : AF} {f : Flow} (l : W₀.Le W) (r : Rel G c W st h₀ m s) (rf : RepF G.base W f af) (h : P af st) : QP RepF G c W₀ P f s := ⟨W, st, af, h₀, m, l, r, rf, h⟩
theorem as_nil {env : Env} (h : P .next st) : AS G c (execs [] env) st P X := fun _ _ _ _ hr => wpAny_execs_nil (hr.here0 (b := .next) rfl h)
theorem as_cons {a : Stmt} {r : List Stmt} {env : Env} (h : AS G c (exec a env) st (seqK (fun st₁ => AS G c (execs r env) st₁ P X) P) X) : AS G c (execs (a :: r) env) st P X := by
  intro W s h₀ m hr
  refine wpAny_execs_cons (h.step (.refl W) hr (fun _ _ x => x) fun W₁ st₁ d _ _ v s₁ l₁ _ r₁ p₁ h₁ => ?_)
  cases d with
  | next => cases p₁; exact wp_le (h₁ W₁ s₁ _ _ r₁) l₁
  | brk => cases p₁; exact rep_done (af := .brk) l₁ r₁ rfl h₁
  | cont => cases p₁; exact rep_done (af := .cont) l₁ r₁ rfl h₁
  | ret q => obtain ⟨v, rfl, hv⟩ := p₁; exact rep_done (af := .ret q) l₁ r₁ ⟨v, rfl, hv⟩ h₁
theorem as_pass {pos : Pos} {env : Env} (h : P .next st) : AS G c (exec (.Pass pos) env) st P X := fun _ _ _ _ hr => wpAny_Pass (hr.here0 (b := .next) rfl h)
theorem as_break {pos : Pos} {env : Env} (h : P .brk st) : AS G c (exec (.Break pos) env) st P X := fun _ _ _ _ hr => wpAny_Break (hr.here0 (b := .brk) rfl h)
theorem as_return {e : Expr} {pos : Pos} {env : Env} (h : AE G c (eval e env) st (fun d st₁ => P (.ret d) st₁) X) : AS G c (exec (.Return (some e) pos) env) st P X :=
  fun W s h₀ m hr => wpAny_Return_some (h.step (.refl W) hr (fun _ _ x => x) fun W₁ st₁ d _ _ v s₁ l₁ _ r₁ p₁ h₁ => rep_done (af := .ret d) l₁ r₁ ⟨v, rfl, p₁⟩ h₁)
theorem as_if {t : Expr} {a b : List Stmt} {pos : Pos} {env : Env} (h : AB G c (isTrue t env (eval t env)) st (fun q st₁ => (q = true → AS G c (execs a env) st₁ P X) ∧ (q = false → AS G c (execs b env) st₁ P X)) X) :
    AS G c (exec (.If t a b pos) env) st P X := fun W s h₀ m hr => wpAny_If (ab_fork h hr (fun _ q => q) fun _ q => q)
theorem as_assert {t : Expr} {msg : Option Expr} {pos : Pos} {env : Env} (h : AB G c (isTrue t env (eval t env)) st (fun q st₁ => q = true ∧ P .next st₁) X) : AS G c (exec (.Assert t msg pos) env) st P X := by
  intro W s h₀ m hr
  rw [arm_exec_Assert]
  refine wpAny_bind (wpAny_standAt (wpAny_bind (h.step (.refl W) hr (fun _ _ x => x) fun W₁ st₁ d _ _ v s₁ l₁ _ r₁ p₁ h₁ => ?_)))
  obtain rfl : v = d := p₁
  obtain ⟨rfl, h₁⟩ := h₁
  exact wpAny_pure (rep_done (af := .next) l₁ r₁ rfl h₁)
/-- a store behind a step -/
theorem store_step {x : Str} {d : D} {v : Value} {W₀ W : Wd} {s : Shared} {h₀ : Heap} {m : Str → Option Value} (hl : c.env.kindOf x = some .local) (h : P .next (st.put x d)) (l : W₀.Le W) (hr : Rel G c W st h₀ m s) (hv : Rep G.base W v d) :
    wpAny (model G.prog G.w) c.A (storeName c.env x v) (fun _ => QP RepF G c W₀ P .next) (XP G c W₀ X) s := by
  refine wpAny_mono (au_store (X := X) (P := fun _ st₂ => P .next st₂) h hl W s _ _ v hr hv) (fun _ s₂ q => ?_) fun _ _ x => x.le l
  refine Classical.byContradiction fun hng => ?_
  obtain ⟨W₂, st₂, _, _, _, l₂, r₂, _, h₂⟩ := q
  refine hng ?_
  clear hng
  exact rep_done (af := .next) (l.trans l₂) r₂ rfl h₂
theorem as_assign {x : Str} {p' pos : Pos} {e : Expr} (h : AE G c (eval e c.env) st (fun d st₁ => P .next (st₁.put x d)) X)
    (hl : c.env.kindOf x = some .local) (hs : swapsWith e (some (.Name x p')) pos.line c.env = pure false) : AS G c (exec (.Assign [.Name x p'] e pos) c.env) st P X :=
  fun W s h₀ m hr => wpAny_Assign_Name (h.step (.refl W) hr (fun _ _ x => x) fun W₁ st₁ d _ _ v s₁ l₁ _ r₁ p₁ h₁ => store_step hl h₁ l₁ r₁ p₁) hs
theorem as_aug {x : Str} {p' pos : Pos} {op : Operator} {e : Expr} {d₀ : D} (he : st.env.lookup x = some d₀) (h : AE G c (eval e c.env) st (fun d st₁ => A2 G c (inplaceOp op) d₀ d st₁ (fun d' st₂ => P .next (st₂.put x d')) X) X)
    (hl : c.env.kindOf x = some .local) : AS G c (exec (.AugAssign (.Name x p') op e pos) c.env) st P X := by
  intro W s h₀ m hr
  refine Classical.byContradiction fun hng => ?_
  obtain ⟨v₀, hv₀, hr₀⟩ := hr.wok.loc x d₀ he
  refine hng ?_
  clear hng
  refine wpAny_AugAssign_Name (ldn hr.fr hv₀ ?_ hr.gnd.fn hl)
  refine h.step (.refl W) hr (fun _ _ x => x) fun W₁ st₁ d _ _ v s₁ l₁ _ r₁ p₁ h₁ => ?_
  refine wpAny_mono (h₁ W₁ s₁ _ _ v₀ v r₁ (hr₀.mono l₁) p₁) (fun v₂ s₂ q => ?_) fun _ _ x => x.le l₁
  refine Classical.byContradiction fun hng => ?_
  obtain ⟨W₂, st₂, d₂, _, _, l₂, r₂, p₂, h₂⟩ := q
  refine hng ?_
  clear hng
  exact store_step hl h₂ (l₁.trans l₂) r₂ p₂
/-- an expression as a statement: what comes back is None -/
theorem as_expr {e : Expr} {pos : Pos} (h : AE G c (eval e c.env) st (fun d st₁ => d = .none ∧ P .next st₁) X)
    (hi : interactive c.env = false) (hs : swapsWith e none pos.line c.env = pure false) : AS G c (exec (.Expr e pos) c.env) st P X := by
  intro W s h₀ m hr
  refine wpAny_Expr (h.step (.refl W) hr (fun _ _ x => x) fun W₁ st₁ d _ _ v s₁ l₁ _ r₁ p₁ h₁ => ?_) hi hs
  obtain ⟨rfl, h₁⟩ := h₁
  obtain rfl : v = .none := p₁
  exact rep_done (af := .next) l₁ r₁ rfl h₁
end
section
variable {G : Gl} {c : Ac} {st : St} {X : XPost} {P : List D → St → Prop}
/-! arguments -/
theorem al_nil {pos : Pos} {env : Env} (h : P [] st) : AL G c (spliced (backTo pos (starEach [] env))) st P X := fun _ _ _ _ hr => spliced_none (hr.here0 (b := []) rfl h)
theorem al_cons {e : Expr} {r : List Expr} {pos : Pos} {env : Env} (h : AE G c (eval e env) st (fun d st₁ => AL G c (spliced (backTo pos (starEach r env))) st₁ (fun ds st₂ => P (d :: ds) st₂) X) X)
    (he : starEach (e :: r) env = (false, eval e env) :: starEach r env) : AL G c (spliced (backTo pos (starEach (e :: r) env))) st P X := by
  intro W s h₀ m hr
  refine spliced_more (h.step (.refl W) hr (fun _ _ x => x) fun W₁ st₁ d _ _ v s₁ l₁ _ r₁ p₁ h₁ => ?_) he
  refine h₁.step l₁ r₁ (fun _ _ x => x) fun W₂ st₂ ds _ _ vs s₂ l₂ k₂ r₂ p₂ h₂ => ?_
  exact ⟨W₂, st₂, d :: ds, _, _, l₂, r₂, ⟨v, vs, rfl, p₁.mono k₂, p₂⟩, h₂⟩
end
section
variable {G : Gl} {c : Ac} {st : St} {X : XPost} {P : KP}
/-- arguments, then the call -/
theorem args_step {f : List Value → Sem Value} {t : Sem (List Value)} (h : AL G c t st (fun ds st₁ => EVN G c f ds st₁ P X) X) {W : Wd} {s : Shared} {h₀ : Heap} {m : Str → Option Value} (hr : Rel G c W st h₀ m s) {Q : List Value → Shared → Prop}
    (hQ : ∀ W₁ st₁ h₁ m₁ vs s₁, W.Le W₁ → Rel G c W₁ st₁ h₁ m₁ s₁ → wpAny (model G.prog G.w) c.A (f vs) (QP Rep G c W P) (XP G c W X) s₁ → Q vs s₁) : wpAny (model G.prog G.w) c.A t Q (XP G c W X) s :=
  h.step (.refl W) hr (fun _ _ x => x) fun W₁ st₁ ds h₁' m₁ vs s₁ l₁ _ r₁ p₁ h₁ => hQ W₁ st₁ h₁' m₁ vs s₁ l₁ r₁ (wp_le (h₁ W₁ s₁ _ _ vs r₁ p₁) l₁)
/-! calls by a global name -/
theorem ae_callK {x : Str} {f : Addr} {e : Expr} {r : List Expr} {np pos : Pos} (hx : nsIn G.K mainGlobals x = some (some (.ref f))) (hk : keepIn G.K (.ref f) = true)
    (h : AL G c (spliced (backTo pos (starEach (e :: r) c.env))) st (fun ds st₁ => EVN G c (callV (.ref f)) ds st₁ P X) X)
    (hkd : c.env.kindOf x = some .globalImplicit) (hd : (x == ("__debug__" : Str)) = false)
    (he : starEach (e :: r) c.env = (false, eval e c.env) :: starEach r c.env) (hplain : (backTo pos (starEach r c.env)).any (·.1) = false) :
    AE G c (eval (.Call (.Name x np) (e :: r) [] pos) c.env) st P X := fun W s h₀ m hr =>
  Call_ (name_K hr.fr hr.gnd.kin (topRead_of hr.gnd.top) hx (callWith_K hr.gnd.kin hk (args_step h hr fun _ _ _ _ _ _ _ r₁ q => ⟨r₁.gnd.kin.keeps r₁.fr.keep, q⟩) he hplain) hr.gnd.fn hkd hd) rfl
theorem ae_callB {x : Str} {id : String} {e : Expr} {r : List Expr} {np pos : Pos} (hx : nsIn G.K mainGlobals x = some none) (hv : bootBuiltins x = some (.builtin id))
    (h : AL G c (spliced (backTo pos (starEach (e :: r) c.env))) st (fun ds st₁ => EVN G c (callV (.builtin id)) ds st₁ P X) X)
    (hn : x ≠ "__name__") (hkd : c.env.kindOf x = some .globalImplicit) (hd : (x == ("__debug__" : Str)) = false)
    (he : starEach (e :: r) c.env = (false, eval e c.env) :: starEach r c.env) (hplain : (backTo pos (starEach r c.env)).any (·.1) = false) :
    AE G c (eval (.Call (.Name x np) (e :: r) [] pos) c.env) st P X := fun W s h₀ m hr =>
  Call_ (name_B hr.fr hr.gnd.kin (topRead_of hr.gnd.top) hx hv hn (callWith_method1 (args_step h hr fun _ _ _ _ _ _ _ _ q => q) he hplain) hr.gnd.fn hkd hd) rfl
theorem ae_callT {x : Str} {T : String} {e : Expr} {r : List Expr} {np pos : Pos} (hx : nsIn G.K mainGlobals x = some none) (hv : bootBuiltins x = some (.type T))
    (h : AL G c (spliced (backTo pos (starEach (e :: r) c.env))) st (fun ds st₁ => EVN G c (callV (.type T)) ds st₁ P X) X)
    (hn : x ≠ "__name__") (hkd : c.env.kindOf x = some .globalImplicit) (hd : (x == ("__debug__" : Str)) = false)
    (he : starEach (e :: r) c.env = (false, eval e c.env) :: starEach r c.env) (hplain : (backTo pos (starEach r c.env)).any (·.1) = false) :
    AE G c (eval (.Call (.Name x np) (e :: r) [] pos) c.env) st P X := fun W s h₀ m hr =>
  Call_ (name_B hr.fr hr.gnd.kin (topRead_of hr.gnd.top) hx hv hn (PyProof.Rows.callWith_type1 (args_step h hr fun _ _ _ _ _ _ _ _ q => q) he hplain) hr.gnd.fn hkd hd) rfl
end
/-! a def of the text, called -/
theorem zip_lookup {B : Heap} {W : Wd} {xs : List Str} : ∀ {vs : List Value} {ds : List D}, xs.Nodup → Reps B W vs ds → ds.length = xs.length → ∀ x d, (xs.zip ds).lookup x = some d → ∃ v, (xs.zip vs).reverse.lookup x = some v ∧ Rep B W v d := by
  induction xs with
  | nil => intro vs ds _ _ _ x d h; cases h
  | cons y ys ih =>
    intro vs ds hn hr hl x d h
    cases ds with
    | nil => cases hl
    | cons d₀ ds =>
      refine Classical.byContradiction fun hng => ?_
      obtain ⟨v, r, rfl, h1, h2⟩ := hr
      refine hng ?_
      clear hng
      rw [List.nodup_cons] at hn
      rw [List.zip_cons_cons, List.lookup_cons] at h
      rw [List.zip_cons_cons, List.reverse_cons, List.lookup_append]
      by_cases hx : x = y
      · subst hx
        rw [beq_self_eq_true] at h
        cases h
        have : (ys.zip r).reverse.lookup x = none := by
          rw [List.lookup_eq_none_iff]
          rintro ⟨a, b⟩ hp
          rw [bne_iff_ne]
          rintro rfl
          exact hn.1 (List.of_mem_zip (List.mem_reverse.mp hp)).1
        rw [this]
        exact ⟨v, by rw [Option.none_or, List.lookup_cons, beq_self_eq_true], h1⟩
      · rw [beq_false_of_ne hx] at h
        refine Classical.byContradiction fun hng => ?_
        obtain ⟨u, e1, e2⟩ := ih hn.2 h2 (Nat.succ.inj hl) x d h
        refine hng ?_
        clear hng
        exact ⟨u, by rw [e1]; rfl, e2⟩
def retK (P : KP) (st : St) : KF
  | .ret d, st' => P d ⟨st.env, st'.ls, st'.tn || st.tn⟩
  | _, st' => P .none ⟨st.env, st'.ls, st'.tn || st.tn⟩
/-- the caller's state again -/
theorem Wok.back {G : Gl} {c c' : Ac} {W W' : Wd} {st st' : St} {m m' : Str → Option Value} (hr : Wok G c W st m) (l : W.Le W') (r : Wok G c' W' st' m') (tn : Bool) : Wok G c W' ⟨st.env, st'.ls, tn⟩ m :=
  ⟨hr.cpo.mono l, fun x d e => let ⟨u, h1, h2⟩ := hr.loc x d e; ⟨u, h1, h2.mono l⟩, r.len, r.nodup, r.lists⟩

theorem ev_def {G : Gl} {c : Ac} {st : St} {X : XPost} {P : KP} {f : Addr} {name qual : Str} {params : Arguments} {body : List Stmt} {scope : Scope} {dV kV doc pm cdv ct oc : Value} {an od : Option Addr} {osl : Array (Option Value)} {xs : List Str} {ds : List D} {r : Nat}
    (ho : G.K.lookup f = some ⟨oc, od, .func (fnOf name qual params body scope dV kV doc pm an cdv ct), osl⟩) (hcd : codeIn G.K cdv qual = true)
    (hbind : ∀ vs : List Value, vs.length = xs.length → bindArgs (fnOf name qual params body scope dV kV doc pm an cdv ct) ⟨vs, []⟩ = pure (xs.zip vs))
    (hlen : ds.length = xs.length) (hnd : xs.Nodup) (hloc : ∀ y ∈ xs, scope.names.lookup y = some .local) (hroom : r + 1 ≤ c.room)
    (hsc : scope.isCoroutine = false ∧ scope.isGenerator = false ∧ scope.kind = .function) (hcell : ∀ x ∈ scope.names, x.2 ≠ .cell)
    (h : ∀ A₀ outer g₀ L, A₀.handled = c.A.handled → AS G ⟨A₀, outer, g₀, qual, scope, L, f, cdv, none, r, none⟩ (execs body (envOf qual scope L f cdv)) ⟨xs.zip ds, st.ls, false⟩
      (retK P st) (fun cls _ st' => st'.tn = false ∧ X cls true ⟨st.env, st'.ls, st.tn⟩)) :
    EVN G c (callV (.ref f)) ds st P X := by
  intro W s h₀ m vs hr hvs
  refine Classical.byContradiction fun hng => ?_
  obtain ⟨hco, hgen, hk⟩ := hsc
  refine hng ?_
  clear hng
  have hA : c.A.frames = some (c.env :: c.outer) := Around.frames_deeper hr.gnd.below.stack
  have hvl : vs.length = xs.length := hvs.length.trans hlen
  have hdep := hr.gnd.dep
  have hunt := hr.gnd.unt
  refine wpAny_call (code_defS (A₀ := c.A₀) (A := c.A) (cn := c.nm) (cs := c.sc) (a := c.fa) (ccd := c.cd) hr.gnd.below hr.fr hr.gnd.kin hr.news hr.gnd.top hr.gnd.kb hr.gnd.tb hr.gnd.dicts hr.gnd.turn hA ho hcd (show c.A₀.depth + 1 < recursionLimit by lia)
    (BindsTo.of_eq (hbind vs hvl)) (fun y hy => hloc _ (List.of_mem_zip hy).1) (fun g L' h₁ FG F' N' B' X' T' D' => ?_) hr.gnd.fn hco hgen hk hcell)
  have gnd : Gnd G ⟨c.A, c.env :: c.outer, g, qual, scope, L', f, cdv, none, r, none⟩ false g :=
    ⟨KtsTurn.refl, fun _ => rfl, B', X', T', hr.gnd.kb, hr.gnd.tb, D', hk, show c.A₀.depth + 1 + 1 + r < recursionLimit by lia, show c.A₀.units + 3 + 3 + 8 * r + 80 < cLine by lia⟩
  refine wpAny_mono (h c.A (c.env :: c.outer) g L' rfl W _ g _ ⟨gnd, ⟨CpOk.no, zip_lookup hnd hvs hlen, hr.wok.len, hr.wok.nodup, hr.wok.lists⟩, F', N', hr.gens, hr.os⟩) (fun fl s' hq => ?_) fun e s' hx => ?_
  · refine Classical.byContradiction fun hng => ?_
    obtain ⟨W', st', af, g', m', l, rel, rf, hp⟩ := hq
    refine hng ?_
    clear hng
    have mk : ∀ (v : Value) (d : D), Rep G.base W' v d → P d ⟨st.env, st'.ls, st'.tn || st.tn⟩ → LeaveS ((c.env :: c.outer).filterMap (·.frame)) c.A₀ G.base c.outer G.K G.p G.loose G.mean G.mg G.mb c.g₀ h₀ c.L m g
        (fun r s' => match r with | .ok (.ret v) => QP Rep G c W P v s' | .ok _ => False | .error e => XP G c W X e s') v s' := by
      intro v d hv hp
      cases htn : st'.tn with
      | false =>
        obtain rfl : g' = g := rel.gnd.same htn
        rw [htn] at hp
        exact leaveS_l rel.fr rel.news fun F₂ N₂ => ⟨W', ⟨st.env, st'.ls, st.tn⟩, d, h₀, m, l, ⟨hr.gnd, hr.wok.back l rel.wok _, F₂, N₂, rel.gens, rel.os⟩, hv, hp⟩
      | true =>
        rw [htn] at hp
        exact leaveS_r rel.fr rel.news rel.gnd.turn fun h₀' T₂ F₂ N₂ B₂ K₂ P₂ D₂ =>
          ⟨W', ⟨st.env, st'.ls, true⟩, d, h₀', m, l, ⟨⟨T₂, fun q => (nomatch (q : true = false)), B₂, K₂, P₂, hr.gnd.kb, hr.gnd.tb, D₂, hr.gnd.fn, hr.gnd.dep, hr.gnd.unt⟩, hr.wok.back l rel.wok _, F₂, N₂, rel.gens, rel.os⟩, hv, hp⟩
    cases af with
    | next => cases rf; exact mk _ .none rfl hp
    | brk => cases rf; exact mk _ .none rfl hp
    | cont => cases rf; exact mk _ .none rfl hp
    | ret q => obtain ⟨v, rfl, hv⟩ := rf; exact mk _ q hv hp
  · refine Classical.byContradiction fun hng => ?_
    obtain ⟨W', st', cls, fl, l, ⟨ea, g', m', ws, rfl, hgn, hos, co, hth⟩, htn, hX⟩ := hx
    refine hng ?_
    clear hng
    obtain rfl : g' = g := co.gnd.same htn
    have core : Core G c W' ⟨st.env, st'.ls, st.tn⟩ h₀ m := ⟨hr.gnd, hr.wok.back l co.wok _⟩
    rcases hth with ⟨_, h₂, F₂, N₂, hmade⟩ | ⟨_, g₂, t, F₂, R₂, up₂⟩
    · exact leave_raiseS B' hmade F₂ N₂ (fun h' t R _ up => ⟨W', _, cls, true, l, ⟨ea, h₀, m, ws, rfl, hgn, hos, core, .inr ⟨rfl, g', t, FG, R, up⟩⟩, hX⟩) hk
    · exact leave_onS B' F₂ R₂ up₂ (fun h' R _ up => ⟨W', _, cls, true, l, ⟨ea, h₀, m, ws, rfl, hgn, hos, core, .inr ⟨rfl, g', t, FG, R, up⟩⟩, hX⟩)
/-! worlds that grow -/
abbrev newW (W : Wd) (a : Addr) (o : Obj) : Wd := ⟨(a, o) :: W.N, W.ρ⟩
abbrev newL (W : Wd) (a : Addr) (o : Obj) : Wd := ⟨(a, o) :: W.N, W.ρ ++ [a]⟩
abbrev setW (W : Wd) (a : Addr) (o : Obj) : Wd := ⟨(a, o) :: W.N.filter (fun p => p.1 != a), W.ρ⟩
section
variable {G : Gl} {c : Ac} {st : St} {W : Wd} {h₀ : Heap} {m : Str → Option Value} {s : Shared}
theorem get_lt {α : Type} {l : List α} {k : Nat} {x : α} (h : l[k]? = some x) : k < l.length := by
  rcases Nat.lt_or_ge k l.length with q | q
  · exact q
  · rw [List.getElem?_eq_none q] at h; cases h
theorem get_app {α : Type} {l r : List α} {k : Nat} {x : α} (h : l[k]? = some x) : (l ++ r)[k]? = some x := by
  rw [List.getElem?_append_left (get_lt h)]
  exact h
theorem get_last {α : Type} {l : List α} {x : α} : (l ++ [x])[l.length]? = some x := by simp
theorem Wok.at (h : Wok G c W st m) {a : Addr} (ha : a ∈ W.ρ) : ∃ (k : Nat) (ds : List D) (vs : List Value) (n : Nat), st.ls[k]? = some ds ∧ W.ρ[k]? = some a ∧ (a, listOf vs.toArray n) ∈ W.N ∧ Reps G.base W vs ds := by
  refine Classical.byContradiction fun hng => ?_
  obtain ⟨k, hk, rfl⟩ := List.mem_iff_getElem.mp ha
  have hl : k < st.ls.length := h.len ▸ hk
  obtain ⟨a, vs, n, h1, h2, h3⟩ := h.lists k _ (List.getElem?_eq_getElem hl)
  refine hng ?_
  clear hng
  have e := h1
  rw [List.getElem?_eq_getElem hk] at h1
  cases h1
  exact ⟨k, _, vs, n, List.getElem?_eq_getElem hl, e, h2, h3⟩
theorem Wok.atK (h : Wok G c W st m) {k : Nat} {a : Addr} (ha : W.ρ[k]? = some a) : ∃ (ds : List D) (vs : List Value) (n : Nat), st.ls[k]? = some ds ∧ (a, listOf vs.toArray n) ∈ W.N ∧ Reps G.base W vs ds := by
  refine Classical.byContradiction fun hng => ?_
  obtain ⟨j, ds, vs, n, h1, h2, h3⟩ := h.at (List.mem_of_getElem? ha)
  refine hng ?_
  clear hng
  obtain rfl : j = k := (List.getElem?_inj (get_lt h2) h.nodup).mp (h2.trans ha.symm)
  exact ⟨ds, vs, n, h1, h3⟩
theorem Rel.lt (h : Rel G c W st h₀ m s) {p : Addr × Obj} (hp : p ∈ W.N) : p.1 < s.heap.objs.size := Heap.lt_size (h.news p hp).1
theorem newW_le {a : Addr} {o : Obj} : W.Le (newW W a o) := ⟨fun _ _ h => h, fun _ h _ => .tail _ h, fun _ h => .inl h⟩
theorem newL_le {a : Addr} {o : Obj} (hf : ∀ p ∈ W.N, p.1 ≠ a) : W.Le (newL W a o) :=
  ⟨fun k b h => get_app h, fun _ h _ => .tail _ h, fun b h => (List.mem_append.mp h).elim .inl fun q => .inr (List.mem_singleton.mp q ▸ hf)⟩
theorem LocOk.mono {B : Heap} {W' : Wd} {env : List (Str × D)} (h : LocOk B W env m) (l : W.Le W') : LocOk B W' env m := fun x d e => let ⟨u, h1, h2⟩ := h x d e; ⟨u, h1, h2.mono l⟩
theorem ListAt.mono {B : Heap} {W' : Wd} {k : Nat} {ds : List D} (h : ListAt B W k ds) (l : W.Le W') (hN : ∀ p ∈ W.N, W.ρ[k]? = some p.1 → p ∈ W'.N) : ListAt B W' k ds := by
  refine Classical.byContradiction fun hng => ?_
  obtain ⟨a, vs, n, h1, h2, h3⟩ := h
  refine hng ?_
  clear hng
  exact ⟨a, vs, n, l.rho _ _ h1, hN _ h2 h1, h3.mono l⟩
/-- a new object that is no list -/
theorem Rel.newObj (h : Rel G c W st h₀ m s) {a : Addr} {o : Obj} {h' : Heap} (k : Nat) (F : Fr h₀ c.L h' m) (N : News h₀ c.L h' ((a, o) :: W.N)) :
    Rel G c (newW W a o) st h₀ m { s with heap := h', toks := k } :=
  ⟨h.gnd, ⟨h.wok.cpo.mono newW_le, h.wok.loc.mono newW_le, h.wok.len, h.wok.nodup, fun i ds e => (h.wok.lists i ds e).mono newW_le fun _ q _ => .tail _ q⟩, F, N, h.gens, h.os⟩
theorem Rel.newList (h : Rel G c W st h₀ m s) {a : Addr} {vs : List Value} {ds : List D} {n : Nat} {h' : Heap} (k : Nat) (ha : ∀ p ∈ W.N, p.1 ≠ a) (hv : Reps G.base W vs ds) (F : Fr h₀ c.L h' m) (N : News h₀ c.L h' ((a, listOf vs.toArray n) :: W.N)) :
    Rel G c (newL W a (listOf vs.toArray n)) ⟨st.env, st.ls ++ [ds], st.tn⟩ h₀ m { s with heap := h', toks := k } := by
  have le : W.Le (newL W a (listOf vs.toArray n)) := newL_le ha
  have hna : a ∉ W.ρ := fun q => by
    refine Classical.byContradiction fun hng => ?_
    obtain ⟨_, _, _, _, _, _, hm, _⟩ := h.wok.at q
    refine hng ?_
    clear hng
    exact ha _ hm rfl
  refine ⟨h.gnd, ⟨h.wok.cpo.mono le, h.wok.loc.mono le, by simp [h.wok.len], ?_, fun i es e => ?_⟩, F, N, h.gens, h.os⟩
  · rw [List.nodup_append]
    refine ⟨h.wok.nodup, List.nodup_cons.mpr ⟨List.not_mem_nil, List.nodup_nil⟩, fun x hx y hy => ?_⟩
    rw [List.mem_singleton.mp hy]
    rintro rfl
    exact hna hx
  · rcases Nat.lt_or_ge i st.ls.length with q | q
    · rw [List.getElem?_append_left q] at e
      exact (h.wok.lists i es e).mono le fun _ q _ => .tail _ q
    · have hi : i = st.ls.length := Nat.le_antisymm (Nat.le_of_lt_succ (by have := get_lt e; rwa [List.length_append] at this)) q
      subst hi
      rw [get_last] at e
      cases e
      exact ⟨a, vs, n, by show (W.ρ ++ [a])[st.ls.length]? = some a; rw [← h.wok.len]; exact get_last, .head _, hv.mono le⟩
theorem Rel.fresh (h : Rel G c W st h₀ m s) : (∀ p ∈ W.N, p.1 ≠ s.heap.objs.size) ∧ s.heap.objs.size ∉ W.ρ ∧ h₀.get? s.heap.objs.size = none ∧ s.heap.objs.size ≠ c.L := by
  refine ⟨fun p hp => Nat.ne_of_lt (h.lt hp), fun q => ?_, ?_, fun q => ?_⟩
  · refine Classical.byContradiction fun hng => ?_
    obtain ⟨_, _, _, _, _, _, hm, _⟩ := h.wok.at q
    refine hng ?_
    clear hng
    exact Nat.lt_irrefl _ (h.lt hm)
  · cases hq : h₀.get? s.heap.objs.size with
    | none => rfl
    | some o => exact absurd (Heap.lt_size (h.fr.keep _ _ hq)) (Nat.lt_irrefl _)
  · have := h.fr.ns.lt
    rw [← q] at this
    exact Nat.lt_irrefl _ this
variable {X : XPost} {P : KP}
/-- a list made -/
theorem Rel.madeL (h : Rel G c W st h₀ m s) {a : Addr} {vs : List Value} {ds : List D} {n : Nat} {h' : Heap} {k : Nat} (ha : ∀ p ∈ W.N, p.1 ≠ a) (hv : Reps G.base W vs ds) (F : Fr h₀ c.L h' m) (N : News h₀ c.L h' ((a, listOf vs.toArray n) :: W.N))
    (hp : P (.lst st.ls.length) ⟨st.env, st.ls ++ [ds], st.tn⟩) : QP Rep G c W P (.ref a) { s with heap := h', toks := k } :=
  ⟨newL W a _, _, .lst st.ls.length, h₀, m, newL_le ha, h.newList k ha hv F N, ⟨a, rfl, by show (W.ρ ++ [a])[st.ls.length]? = some a; rw [← h.wok.len]; exact get_last⟩, hp⟩
/-- a list set -/
theorem Rel.setList (h : Rel G c W st h₀ m s) {i : Nat} {a : Addr} {vs' : List Value} {ds' : List D} {n' : Nat} {h' : Heap} (k : Nat) (hρ : W.ρ[i]? = some a) (hv : Reps G.base W vs' ds') (hs : Heap.SameBut a s.heap h') (ho : h'.get? a = some (listOf vs'.toArray n')) :
    Rel G c (setW W a (listOf vs'.toArray n')) ⟨st.env, st.ls.set i ds', st.tn⟩ h₀ m { s with heap := h', toks := k } ∧ W.Le (setW W a (listOf vs'.toArray n')) := by
  refine Classical.byContradiction fun hng => ?_
  obtain ⟨_, vs₀, n₀, _, hm₀, _⟩ := h.wok.atK hρ
  refine hng ?_
  clear hng
  have hold := h.news _ hm₀
  have oth : ∀ p ∈ W.N, p.1 ≠ a → p ∈ (setW W a (listOf vs'.toArray n')).N := fun p hp hq => .tail _ (List.mem_filter.mpr ⟨hp, bne_iff_ne.mpr hq⟩)
  have le : W.Le (setW W a (listOf vs'.toArray n')) := ⟨fun _ _ q => q, fun p hp hq => oth p hp fun e => hq.elim (fun q => q (e ▸ List.mem_of_getElem? hρ)) fun q => by
    have := (h.news p hp).1
    rw [e, hold.1] at this
    exact q (by rw [← Option.some.inj this]), fun b q => .inl q⟩
  refine ⟨⟨h.gnd, ⟨h.wok.cpo.mono le, h.wok.loc.mono le, by simp [h.wok.len], h.wok.nodup, fun j es e => ?_⟩, h.fr.change hs hold.2.1 hold.2.2, fun p hp => ?_, h.gens, h.os⟩, le⟩
  · by_cases hj : i = j
    · subst hj
      rw [List.getElem?_set_self (by have := get_lt e; rwa [List.length_set] at this)] at e
      cases e
      exact ⟨a, vs', n', hρ, .head _, hv.mono le⟩
    · rw [List.getElem?_set_ne hj] at e
      exact (h.wok.lists j es e).mono le fun p hp e' => oth p hp fun q => hj ((List.getElem?_inj (get_lt hρ) h.wok.nodup).mp (hρ.trans (q ▸ e').symm))
  · rcases List.mem_cons.mp hp with rfl | hp
    · exact ⟨ho, hold.2⟩
    · obtain ⟨hp1, hp2⟩ := List.mem_filter.mp hp
      have z := h.news p hp1
      exact ⟨(hs.2 _ (bne_iff_ne.mp hp2)).trans z.1, z.2⟩
/-! making lists and tuples -/
theorem ev_newL {ds : List D} (h : P (.lst st.ls.length) ⟨st.env, st.ls ++ [ds], st.tn⟩) (hz : ds.length ≤ sizeLine) : EVN G c newList ds st P X := fun W s h₀ m vs hr hv =>
  newList_K hr.fr hr.news (fun l h' F N hlt => hr.madeL (k := s.toks) (fun p hp => Nat.ne_of_lt (hlt p hp)) hv F N h) (by rw [hv.length]; exact hz)
theorem ev_newTuple {ds : List D} (h : P (.tup ds) st) (hz : ds.length ≤ sizeLine) : EVN G c newTuple ds st P X := fun W s h₀ m vs hr hv =>
  newTuple_N hr.fr hr.news (fun h' F N => ⟨newW W _ _, st, .tup ds, h₀, m, newW_le, hr.newObj s.toks F N, ⟨_, vs, 0, rfl, .head _, hv.mono newW_le⟩, h⟩) (by rw [hv.length]; exact hz)
theorem ae_list {es : List Expr} {pos : Pos} {env : Env} (h : AL G c (spliced (backTo pos (starEach es env))) st (fun ds st₁ => EVN G c newList ds st₁ P X) X) : AE G c (eval (.List es pos) env) st P X :=
  fun W s h₀ m hr => List_ (args_step h hr fun _ _ _ _ _ _ _ _ q => q)
theorem ae_tuple {es : List Expr} {k : Nat} {pos : Pos} {env : Env} (h : AL G c (spliced (backTo pos (starEach es env))) st (fun ds st₁ => EVN G c newTuple ds st₁ P X) X) : AE G c (eval (.Tuple es k pos) env) st P X :=
  fun W s h₀ m hr => Tuple_ (args_step h hr fun _ _ _ _ _ _ _ _ q => q)
end

/-! what a text of the program asks, reckoned from the text itself -/
structure Lf (p : Prop) : Prop where
  go : p
inductive GV where
  | fn (f : Addr)
  | int (i : Int)
  | ro (ns : List Int)
  | blt (id : String)
  | typ (t : String)
def GOk (G : Gl) (x : Str) : GV → Prop
  | .fn f => nsIn G.K mainGlobals x = some (some (.ref f)) ∧ keepIn G.K (.ref f) = true
  | .int i => ∃ t, nsIn G.K mainGlobals x = some (some (.int i t))
  | .ro ns => ∃ a vs n, nsIn G.K mainGlobals x = some (some (.ref a)) ∧ G.K.lookup a = some (listOf (List.toArray vs) n) ∧ IntsAre vs ns
  | .blt id => nsIn G.K mainGlobals x = some none ∧ bootBuiltins x = some (.builtin id) ∧ x ≠ "__name__"
  | .typ t => nsIn G.K mainGlobals x = some none ∧ bootBuiltins x = some (.type t) ∧ x ≠ "__name__"
def TabOk (G : Gl) (T : List (Str × GV)) : Prop := ∀ p ∈ T, GOk G p.1 p.2
theorem lookup_mem {α : Type} {T : List (Str × α)} {x : Str} {g : α} (h : T.lookup x = some g) : (x, g) ∈ T := by
  induction T with
  | nil => cases h
  | cons p r ih =>
    obtain ⟨y, e⟩ := p
    rw [List.lookup_cons] at h
    by_cases q : x = y
    · subst q
      rw [beq_self_eq_true] at h
      cases h
      exact .head _
    · rw [beq_false_of_ne q] at h
      exact .tail _ (ih h)
/-- an expression as it is looked at -/
inductive Vw : Expr → Type
  | name (x : Str) (p : Pos) : Vw (.Name x p)
  | int (i : Int) (k : Nat) (p : Pos) : Vw (.Constant (.int i) k p)
  | str (x : Str) (k : Nat) (p : Pos) : Vw (.Constant (.str x) k p)
  | bool (b : Bool) (k : Nat) (p : Pos) : Vw (.Constant (.bool b) k p)
  | bin (l : Expr) (op : Operator) (r : Expr) (p : Pos) : Vw (.BinOp l op r p)
  | neg (i : Int) (k : Nat) (p q : Pos) : Vw (.UnaryOp .USub (.Constant (.int i) k p) q)
  | not (e : Expr) (p : Pos) : Vw (.UnaryOp .Not e p)
  | cmp (l : Expr) (op : CmpOp) (r : Expr) (p : Pos) : Vw (.Compare l [op] [r] p)
  | cmp2 (l : Expr) (o₁ o₂ : CmpOp) (r₁ r₂ : Expr) (p : Pos) : Vw (.Compare l [o₁, o₂] [r₁, r₂] p)
  | bop (op : BoolOp) (es : List Expr) (p : Pos) : Vw (.BoolOp op es p)
  | ifx (t a b : Expr) (p : Pos) : Vw (.IfExp t a b p)
  | slc (v : Expr) (lo hi : Option Expr) (p q : Pos) : Vw (.Subscript v (.Slice lo hi none p) q)
  | sub (v i : Expr) (p : Pos) : Vw (.Subscript v i p)
  | lst (es : List Expr) (p : Pos) : Vw (.List es p)
  | tup (es : List Expr) (k : Nat) (p : Pos) : Vw (.Tuple es k p)
  | call (x : Str) (np : Pos) (a : Expr) (as : List Expr) (p : Pos) : Vw (.Call (.Name x np) (a :: as) [] p)
  | other (e : Expr) : Vw e
noncomputable def vw : (e : Expr) → Vw e
  | .Name x p => .name x p
  | .Constant (.int i) k p => .int i k p
  | .Constant (.str x) k p => .str x k p
  | .Constant (.bool b) k p => .bool b k p
  | .BinOp l op r p => .bin l op r p
  | .UnaryOp .USub (.Constant (.int i) k p) q => .neg i k p q
  | .UnaryOp .Not e p => .not e p
  | .Compare l [op] [r] p => .cmp l op r p
  | .Compare l [o₁, o₂] [r₁, r₂] p => .cmp2 l o₁ o₂ r₁ r₂ p
  | .BoolOp op es p => .bop op es p
  | .IfExp t a b p => .ifx t a b p
  | .Subscript v (.Slice lo hi none p) q => .slc v lo hi p q
  | .Subscript v i p => .sub v i p
  | .List es p => .lst es p
  | .Tuple es k p => .tup es k p
  | .Call (.Name x np) (a :: as) [] p => .call x np a as p
  | e => .other e
noncomputable def Vw.known {e : Expr} : Vw e → Bool
  | .other _ => false
  | _ => true
noncomputable def known (e : Expr) : Bool := (vw e).known
noncomputable def Vw.noTup {e : Expr} : Vw e → Bool
  | .tup _ _ _ | .other _ => false
  | _ => true
structure Fine (e : Expr) : Prop where
  star : ∀ r env, starEach (e :: r) env = (false, eval e env) :: starEach r env
  inm : ∀ op, behindInMarks op e = false
  swp : ∀ t l env, swapsWith e t l env = pure false
  fold : ∀ env x, foldedSetIterable e env x = pure x
theorem Vw.fine {e : Expr} (w : Vw e) (h : w.known = true) : Fine e := by
  cases w <;> first | exact ⟨fun _ _ => rfl, fun _ => rfl, fun _ _ _ => rfl, fun _ _ => rfl⟩ | cases h
def ifT (b : Bool) (A : Prop) : Prop := match b with
  | true => A
  | false => False
theorem of_ifT {b : Bool} {A : Prop} (h : ifT b A) : b = true ∧ A := by
  cases b with
  | true => exact ⟨rfl, h⟩
  | false => exact h.elim
def optP {α : Type} (o : Option α) (k : α → Prop) : Prop := match o with
  | some a => k a
  | none => False
theorem of_optP {α : Type} {o : Option α} {k : α → Prop} (h : optP o k) : ∃ a, o = some a ∧ k a := by
  cases o with
  | some a => exact ⟨a, rfl, h⟩
  | none => exact h.elim
section
variable (G : Gl) (c : Ac) (X : XPost) (T : List (Str × GV))
def gII (op : Operator) (a b : Int) (st : St) (P : KP) : Prop :=
  match op with
  | .Add => P (.int (a + b)) st
  | .Sub => P (.int (a - b)) st
  | .Mult => IntMulOk a b ∧ P (.int (a * b)) st
  | .Mod => if 0 < b then P (.int (a % b)) st else False
  | .FloorDiv => if 0 < b ∧ b < 1073741824 then P (.int (a / b)) st else False
  | op => Lf (A2 G c (binaryOp op) (.int a) (.int b) st P X)
def gOp (op : Operator) (d e : D) (st : St) (P : KP) : Prop :=
  match d with
  | .int a => (match e with
    | .int b => gII G c X op a b st P
    | .bool b => (match op with
      | .Add => P (.int (a + if b = true then 1 else 0)) st
      | op => Lf (A2 G c (binaryOp op) (.int a) (.bool b) st P X))
    | e => Lf (A2 G c (binaryOp op) (.int a) e st P X))
  | d => Lf (A2 G c (binaryOp op) d e st P X)
def gIop (op : Operator) (d e : D) (st : St) (P : KP) : Prop :=
  match d with
  | .int a => (match e with
    | .int b => (match op with
      | .Add => P (.int (a + b)) st
      | .Sub => P (.int (a - b)) st
      | op => Lf (A2 G c (inplaceOp op) (.int a) (.int b) st P X))
    | .bool b => (match op with
      | .Add => P (.int (a + if b = true then 1 else 0)) st
      | op => Lf (A2 G c (inplaceOp op) (.int a) (.bool b) st P X))
    | e => Lf (A2 G c (inplaceOp op) (.int a) e st P X))
  | d => Lf (A2 G c (inplaceOp op) d e st P X)
def gCmp (op : CmpOp) (d e : D) (st : St) (P : KP) : Prop :=
  match d with
  | .int a => (match e with
    | .int b => (match op with
      | .Lt => P (.bool (decide (a < b))) st
      | .LtE => P (.bool (decide (a ≤ b))) st
      | .Gt => P (.bool (decide (b < a))) st
      | .GtE => P (.bool (decide (b ≤ a))) st
      | .Eq => P (.bool (decide (a = b))) st
      | .NotEq => P (.bool (decide (a ≠ b))) st
      | op => Lf (A2 G c (compareOp op) (.int a) (.int b) st P X))
    | e => Lf (A2 G c (compareOp op) (.int a) e st P X))
  | .str a => (match e with
    | .str b => (match op with
      | .Eq => P (.bool (decide (a = b))) st
      | .NotEq => P (.bool (decide (a ≠ b))) st
      | .In => P (.bool (Txt.contains b a)) st
      | op => Lf (A2 G c (compareOp op) (.str a) (.str b) st P X))
    | e => Lf (A2 G c (compareOp op) (.str a) e st P X))
  | .bool a => (match e with
    | .bool b => (match op with
      | .Eq => P (.bool (a == b)) st
      | op => Lf (A2 G c (compareOp op) (.bool a) (.bool b) st P X))
    | e => Lf (A2 G c (compareOp op) (.bool a) e st P X))
  | d => Lf (A2 G c (compareOp op) d e st P X)
def gTru (d : D) (st : St) (P : KB) : Prop :=
  match d with
  | .bool b => P b st
  | .int i => P (i != 0) st
  | d => Lf (AT G c d st P X)
abbrev EvT := Expr → St → KP → Prop
abbrev EvB := Expr → St → KB → Prop
def gL (ev : EvT) : List Expr → St → (List D → St → Prop) → Prop
  | [], st, P => P [] st
  | e :: r, st, P => ev e st fun d st₁ => gL ev r st₁ fun ds st₂ => P (d :: ds) st₂
def gPart (ev : EvT) : Option Expr → St → KP → Prop
  | none, st, P => P .none st
  | some e, st, P => ev e st P
def gGlob (P : KP) (st : St) : GV → Prop
  | .int i => P (.int i) st
  | .ro ns => P (.ro ns) st
  | .fn f => P (.val (.ref f)) st
  | _ => False
def gNameK (x : Str) (st : St) (P : KP) : NameKind → Prop
  | .local => optP (st.env.lookup x) fun d => P d st
  | .globalImplicit => optP (T.lookup x) (gGlob P st)
  | _ => False
def gName (x : Str) (st : St) (P : KP) : Prop := ifT (!(x == ("__debug__" : Str))) (optP (c.env.kindOf x) (gNameK T x st P))
noncomputable def isLoc (c : Ac) (x : Str) : Bool := match c.env.kindOf x with
  | some .local => true
  | _ => false
noncomputable def isGlob (c : Ac) (x : Str) : Bool := match c.env.kindOf x with
  | some .globalImplicit => true
  | _ => false
noncomputable def calleeOf : GV → Option Value
  | .fn f => some (.ref f)
  | .blt id => some (.builtin id)
  | .typ t => some (.type t)
  | _ => none
def gCall (ev : EvT) (x : Str) (as : List Expr) (st : St) (P : KP) : Prop :=
  ifT (!(x == ("__debug__" : Str)) && (isGlob c x && as.all known)) (optP (T.lookup x) fun g => optP (calleeOf g) fun f => gL ev as st fun ds st₁ => Lf (EVN G c (callV f) ds st₁ P X))
/-- a slice of three parts at hand -/
def SL (v : Expr) (d l u : D) (st : St) (P : KP) : Prop :=
  ∀ W s h₀ m a b e lo hi p, Rel G c W st h₀ m s → Rep G.base W a d → Rep G.base W b l → Rep G.base W e u →
    wpAny (model G.prog G.w) c.A (subscriptTail v (.Slice lo hi none p) a (.ref s.heap.objs.size)) (QP Rep G c W P) (XP G c W X) { s with heap := s.heap.push { cls := .type "slice", data := .fields #[b, e, .none] } }
/-- an expression, one step -/
def gEs (ev : EvT) (eb : EvB) : (e : Expr) → Vw e → St → KP → Prop
  | _, .name x _, st, P => gName c T x st P
  | _, .int i _ _, st, P => P (.int i) st
  | _, .str x _ _, st, P => P (.str x) st
  | _, .bool b _ _, st, P => P (.bool b) st
  | _, .bin l op r _, st, P => ev l st fun d st₁ => ev r st₁ fun e st₂ => gOp G c X op d e st₂ P
  | _, .neg i _ _ _, st, P => P (.int (-i)) st
  | _, .not t p, st, P => Lf (AE G c (eval (.UnaryOp .Not t p) c.env) st P X)
  | _, .cmp l op r _, st, P => ifT (known r) (ev l st fun d st₁ => ev r st₁ fun e st₂ => gCmp G c X op d e st₂ P)
  | _, .cmp2 l o₁ o₂ r₁ r₂ p, st, P => Lf (AE G c (eval (.Compare l [o₁, o₂] [r₁, r₂] p) c.env) st P X)
  | _, .bop .And (a :: b :: r) p, st, P => ev a st fun d st₁ => gTru G c X d st₁ fun q st₂ => (q = true → ev (.BoolOp .And (b :: r) p) st₂ P) ∧ (q = false → P d st₂)
  | _, .bop .Or (a :: b :: r) p, st, P => ev a st fun d st₁ => gTru G c X d st₁ fun q st₂ => (q = false → ev (.BoolOp .Or (b :: r) p) st₂ P) ∧ (q = true → P d st₂)
  | _, .bop _ [a] _, st, P => ev a st P
  | _, .bop _ [] _, st, P => False
  | _, .ifx t a b _, st, P => eb t st fun q st₁ => (q = true → ev a st₁ P) ∧ (q = false → ev b st₁ P)
  | _, .slc v lo hi _ _, st, P => ev v st fun d st₁ => gPart ev lo st₁ fun l st₂ => gPart ev hi st₂ fun u st₃ => Lf (SL G c X v d l u st₃ P)
  | _, .sub v i _, st, P => ev v st fun d st₁ => ev i st₁ fun e st₂ => Lf (A2 G c (subscriptTail v i) d e st₂ P X)
  | _, .lst es _, st, P => ifT (es.all known) (gL ev es st fun ds st₁ => if ds.length ≤ 1000 then P (.lst st₁.ls.length) ⟨st₁.env, st₁.ls ++ [ds], st₁.tn⟩ else False)
  | _, .tup es _ _, st, P => ifT (es.all known) (gL ev es st fun ds st₁ => if ds.length ≤ 1000 then P (.tup ds) st₁ else False)
  | _, .call x _ a as _, st, P => gCall G c X T ev x (a :: as) st P
  | _, .other e, st, P => Lf (AE G c (eval e c.env) st P X)
/-- a test, one step -/
def gBs (ev : EvT) (eb : EvB) : (e : Expr) → Vw e → St → KB → Prop
  | _, .not t _, st, P => eb t st fun b st₁ => P (!b) st₁
  | _, .bop .And (t :: r) p, st, P => eb t st fun b st₁ => (b = true → eb (.BoolOp .And r p) st₁ P) ∧ (b = false → P false st₁)
  | _, .bop .Or (t :: r) p, st, P => eb t st fun b st₁ => (b = false → eb (.BoolOp .Or r p) st₁ P) ∧ (b = true → P true st₁)
  | _, .bop .And [] _, st, P => P true st
  | _, .bop .Or [] _, st, P => P false st
  | _, .cmp l op r _, st, P => ifT (known r) (ev l st fun d st₁ => ev r st₁ fun e st₂ => gCmp G c X op d e st₂ fun b st₃ => gTru G c X b st₃ P)
  | _, .cmp2 l o₁ o₂ r₁ r₂ _, st, P => ifT (known r₂) (ev l st fun d st₁ => ev r₁ st₁ fun e st₂ => gCmp G c X o₁ d e st₂ fun b st₃ => gTru G c X b st₃ fun q st₄ =>
        (q = true → ev r₂ st₄ fun f st₅ => gCmp G c X o₂ e f st₅ fun b' st₆ => gTru G c X b' st₆ P) ∧ (q = false → P false st₄))
  | _, .ifx t a b p, st, P => Lf (AB G c (isTrue (.IfExp t a b p) c.env (eval (.IfExp t a b p) c.env)) st P X)
  | _, .neg i k p q, st, P => False
  | _, .other e, st, P => Lf (AB G c (isTrue e c.env (eval e c.env)) st P X)
  | t, _, st, P => ev t st fun d st₁ => gTru G c X d st₁ P
mutual
def gE : Nat → EvT
  | 0, e, st, P => Lf (AE G c (eval e c.env) st P X)
  | n + 1, e, st, P => gEs G c X T (gE n) (gB n) e (vw e) st P
def gB : Nat → EvB
  | 0, e, st, P => Lf (AB G c (isTrue e c.env (eval e c.env)) st P X)
  | n + 1, e, st, P => gBs G c X (gE n) (gB n) e (vw e) st P
end
end

theorem of_ite {p : Prop} [Decidable p] {A : Prop} (h : if p then A else False) : p ∧ A := by
  by_cases q : p
  · rw [if_pos q] at h
    exact ⟨q, h⟩
  · rw [if_neg q] at h
    exact h.elim
section
variable {G : Gl} {c : Ac} {X : XPost} {T : List (Str × GV)} {st : St} {P : KP}
theorem gII_ok {op : Operator} {a b : Int} (h : gII G c X op a b st P) : A2 G c (binaryOp op) (.int a) (.int b) st P X := by
  cases op with
  | Add => exact ev_add h
  | Sub => exact ev_sub h
  | Mult => exact ev_mul h.2 h.1
  | Mod => exact ev_mod (of_ite h).1 (of_ite h).2
  | FloorDiv => exact ev_div (of_ite h).1.1 (of_ite h).1.2 (of_ite h).2
  | _ => exact h.go
theorem gOp_ok {op : Operator} {d e : D} (h : gOp G c X op d e st P) : A2 G c (binaryOp op) d e st P X := by
  cases d with
  | int a => cases e with
    | int b => exact gII_ok h
    | bool b => cases op with
      | Add => exact ev_addB h
      | _ => exact h.go
    | _ => exact h.go
  | _ => exact h.go
theorem gIop_ok {op : Operator} {d e : D} (h : gIop G c X op d e st P) : A2 G c (inplaceOp op) d e st P X := by
  cases d with
  | int a => cases e with
    | int b => cases op with
      | Add => exact ev_iadd h
      | Sub => exact ev_isub h
      | _ => exact h.go
    | bool b => cases op with
      | Add => exact ev_iaddB h
      | _ => exact h.go
    | _ => exact h.go
  | _ => exact h.go
theorem gCmp_ok {op : CmpOp} {d e : D} (h : gCmp G c X op d e st P) : A2 G c (compareOp op) d e st P X := by
  cases d with
  | int a => cases e with
    | int b => cases op with
      | Lt => exact ev_lt h
      | LtE => exact ev_le h
      | Gt => exact ev_gt h
      | GtE => exact ev_ge h
      | Eq => exact ev_eq h
      | NotEq => exact ev_ne h
      | _ => exact h.go
    | _ => exact h.go
  | str a => cases e with
    | str b => cases op with
      | Eq => exact ev_eqS h
      | NotEq => exact ev_neS h
      | In => exact ev_inS h
      | _ => exact h.go
    | _ => exact h.go
  | bool a => cases e with
    | bool b => cases op with
      | Eq => exact ev_eqB h
      | _ => exact h.go
    | _ => exact h.go
  | _ => exact h.go
theorem gTru_ok {d : D} {P : KB} (h : gTru G c X d st P) : AT G c d st P X := by
  cases d with
  | bool b => exact at_bool h
  | int i => exact at_int h
  | _ => exact h.go
def EvOk (G : Gl) (c : Ac) (X : XPost) (ev : EvT) : Prop := ∀ e st P, ev e st P → AE G c (eval e c.env) st P X
def EbOk (G : Gl) (c : Ac) (X : XPost) (eb : EvB) : Prop := ∀ e st P, eb e st P → AB G c (isTrue e c.env (eval e c.env)) st P X
variable {ev : EvT} {eb : EvB}
theorem all_cons {e : Expr} {es : List Expr} (h : (e :: es).all known = true) : Fine e ∧ es.all known = true := by
  rw [List.all_cons, Bool.and_eq_true] at h
  exact ⟨(vw e).fine h.1, h.2⟩
theorem gL_ok (hev : EvOk G c X ev) {pos : Pos} : ∀ (es : List Expr) (st : St) (P : List D → St → Prop), es.all known = true → gL ev es st P → AL G c (spliced (backTo pos (starEach es c.env))) st P X := by
  intro es
  induction es with
  | nil => exact fun st P _ h => al_nil h
  | cons e r ih => exact fun st P hs h => al_cons ((hev e st _ h).mp fun d st₁ h₁ => ih st₁ _ (all_cons hs).2 h₁) ((all_cons hs).1.star _ _)
theorem plain_any {r : List Expr} {pos : Pos} {env : Env} (h : r.all known = true) : (backTo pos (starEach r env)).any (·.1) = false := by
  induction r with
  | nil => rfl
  | cons e r ih =>
    rw [(all_cons h).1.star]
    exact ih (all_cons h).2
theorem ap_none {env : Env} (h : P .none st) : AE G c (evalPart none env) st P X := fun _ _ _ _ hr => wpAny_pure (hr.here0 (b := .none) rfl h)
theorem gPart_ok (hev : EvOk G c X ev) {o : Option Expr} (h : gPart ev o st P) : AE G c (evalPart o c.env) st P X := by
  cases o with
  | none => exact ap_none h
  | some e => exact hev e st P h
theorem ae_slice {v : Expr} {lo hi : Option Expr} {p pos : Pos} {env : Env} (h : AE G c (eval v env) st (fun d st₁ => AE G c (evalPart lo env) st₁ (fun l st₂ => AE G c (evalPart hi env) st₂ (fun u st₃ => SL G c X v d l u st₃ P) X) X) X) :
    AE G c (eval (.Subscript v (.Slice lo hi none p) pos) env) st P X := by
  intro W s h₀ m hr
  refine Subscript_ (h.step (.refl W) hr (fun _ _ x => x) fun W₁ st₁ d _ _ a s₁ l₁ _ r₁ p₁ h₁ => ?_)
  refine wpAny_Slice (h₁.step l₁ r₁ (fun _ _ x => x) fun W₂ st₂ l _ _ b s₂ l₂ k₂ r₂ p₂ h₂ => ?_)
  refine h₂.step l₂ r₂ (fun _ _ x => x) fun W₃ st₃ u _ _ e s₃ l₃ k₃ r₃ p₃ h₃ => ?_
  rw [evalPart_none]
  exact wpAny_pure (wp_le (h₃ W₃ s₃ _ _ a b e lo hi p r₃ ((p₁.mono k₂).mono k₃) (p₂.mono k₃) p₃) l₃)
theorem not_dbg {b : Bool} (h : (!b) = true) : b = false := by cases b <;> first | rfl | cases h
theorem of_isLoc {x : Str} (h : isLoc c x = true) : c.env.kindOf x = some .local := by
  unfold isLoc at h
  cases hk : c.env.kindOf x with
  | none => rw [hk] at h; cases h
  | some k => rw [hk] at h; cases k <;> first | rfl | cases h
theorem of_isGlob {x : Str} (h : isGlob c x = true) : c.env.kindOf x = some .globalImplicit := by
  unfold isGlob at h
  cases hk : c.env.kindOf x with
  | none => rw [hk] at h; cases h
  | some k => rw [hk] at h; cases k <;> first | rfl | cases h
theorem gName_ok (hT : TabOk G T) {x : Str} {p : Pos} (h : gName c T x st P) : AE G c (eval (.Name x p) c.env) st P X := by
  refine Classical.byContradiction fun hng => ?_
  obtain ⟨hd, h⟩ := of_ifT h
  obtain ⟨k, hk, h⟩ := of_optP h
  refine hng ?_
  clear hng
  have hd := not_dbg hd
  cases k with
  | «local» =>
    refine Classical.byContradiction fun hng => ?_
    obtain ⟨d, he, h⟩ := of_optP h
    refine hng ?_
    clear hng
    exact ae_name he h hk hd
  | globalImplicit =>
    refine Classical.byContradiction fun hng => ?_
    obtain ⟨g, he, h⟩ := of_optP h
    refine hng ?_
    clear hng
    have ok := hT _ (lookup_mem he)
    cases g with
    | int i => obtain ⟨t, e⟩ := ok; exact ae_global e (fun _ _ => Rep.oi) h hk hd
    | ro ns => obtain ⟨a, vs, n, e, e2, hi⟩ := ok; exact ae_global (d := .ro ns) e (fun kb _ => ⟨a, vs, rfl, ⟨_, kb _ _ e2, rfl, n, rfl⟩, hi⟩) h hk hd
    | fn f => exact ae_global (d := .val (.ref f)) ok.1 (fun _ _ => rfl) h hk hd
    | _ => exact h.elim
  | _ => exact h.elim
theorem gCall_ok (hT : TabOk G T) (hev : EvOk G c X ev) {x : Str} {np p : Pos} {a : Expr} {as : List Expr} (h : gCall G c X T ev x (a :: as) st P) : AE G c (eval (.Call (.Name x np) (a :: as) [] p) c.env) st P X := by
  refine Classical.byContradiction fun hng => ?_
  obtain ⟨hd, h⟩ := of_ifT h
  obtain ⟨g, he, h⟩ := of_optP h
  obtain ⟨f, hf, h⟩ := of_optP h
  refine hng ?_
  clear hng
  rw [Bool.and_eq_true, Bool.and_eq_true] at hd
  have ok := hT _ (lookup_mem he)
  have hk := of_isGlob hd.2.1
  have ha := hd.2.2
  have st1 := (all_cons ha).1.star as c.env
  have pl := plain_any (pos := p) (env := c.env) (all_cons ha).2
  have hL := (gL_ok hev (pos := p) _ _ _ ha h).mp fun _ _ q => q.go
  have hd := not_dbg hd.1
  cases g with
  | fn f => cases hf; exact ae_callK ok.1 ok.2 hL hk hd st1 pl
  | blt id => cases hf; exact ae_callB ok.1 ok.2.1 hL ok.2.2 hk hd st1 pl
  | typ t => cases hf; exact ae_callT ok.1 ok.2.1 hL ok.2.2 hk hd st1 pl
  | _ => cases hf
theorem short {n : Nat} (h : n ≤ 1000) : n ≤ sizeLine := Nat.le_trans h (Nat.le_of_ble_eq_true rfl)
theorem gEs_ok (hT : TabOk G T) (hev : EvOk G c X ev) (heb : EbOk G c X eb) {e : Expr} (w : Vw e) (st : St) (P : KP) (h : gEs G c X T ev eb e w st P) : AE G c (eval e c.env) st P X := by
  cases w with
  | name x p => exact gName_ok hT h
  | int i k p => exact ae_int h
  | str x k p => exact ae_str h
  | bool b k p => exact ae_bool h
  | bin l op r p => exact ae_binop ((hev _ _ _ h).mp fun _ _ q => (hev _ _ _ q).mp fun _ _ q => gOp_ok q)
  | neg i k p q => exact ae_neg1 h
  | not t p => exact h.go
  | cmp l op r p =>
    obtain ⟨hr, h⟩ := of_ifT h
    exact ae_cmp ((hev _ _ _ h).mp fun _ _ q => (hev _ _ _ q).mp fun _ _ q => gCmp_ok q) (((vw r).fine hr).inm _)
  | cmp2 l o₁ o₂ r₁ r₂ p => exact h.go
  | bop op es p =>
    cases es with
    | nil => exact absurd h (by cases op <;> exact id)
    | cons a r =>
      cases r with
      | nil => exact ae_bool1 (by cases op <;> exact hev _ _ _ h)
      | cons b r =>
        cases op with
        | And => exact ae_and ((hev _ _ _ h).mp fun _ _ q => (gTru_ok q).mp fun _ _ q => ⟨fun z => hev _ _ _ (q.1 z), q.2⟩)
        | Or => exact ae_or ((hev _ _ _ h).mp fun _ _ q => (gTru_ok q).mp fun _ _ q => ⟨fun z => hev _ _ _ (q.1 z), q.2⟩)
  | ifx t a b p => exact ae_ifexp ((heb _ _ _ h).mp fun _ _ q => ⟨fun z => hev _ _ _ (q.1 z), fun z => hev _ _ _ (q.2 z)⟩)
  | slc v lo hi p q => exact ae_slice ((hev _ _ _ h).mp fun _ _ q => (gPart_ok hev q).mp fun _ _ q => (gPart_ok hev q).mp fun _ _ q => q.go)
  | sub v i p => exact ae_sub ((hev _ _ _ h).mp fun _ _ q => (hev _ _ _ q).mp fun _ _ q => q.go)
  | lst es p =>
    obtain ⟨hr, h⟩ := of_ifT h
    exact ae_list ((gL_ok hev _ _ _ hr h).mp fun ds st₁ q => ev_newL (of_ite q).2 (short (of_ite q).1))
  | tup es k p =>
    obtain ⟨hr, h⟩ := of_ifT h
    exact ae_tuple ((gL_ok hev _ _ _ hr h).mp fun ds st₁ q => ev_newTuple (of_ite q).2 (short (of_ite q).1))
  | call x np a as p => exact gCall_ok hT hev h
  | other e => exact h.go
theorem gBs_ok (hev : EvOk G c X ev) (heb : EbOk G c X eb) {e : Expr} (w : Vw e) (st : St) (P : KB) (h : gBs G c X ev eb e w st P) : AB G c (isTrue e c.env (eval e c.env)) st P X := by
  have pl : ∀ {t : Expr}, isTrue t c.env (eval t c.env) = (do let v ← eval t c.env; standAt t.pos; holding [v] (truthy v)) → ev t st (fun d st₁ => gTru G c X d st₁ P) → AB G c (isTrue t c.env (eval t c.env)) st P X :=
    fun he h => ab_plain ((hev _ _ _ h).mp fun _ _ q => gTru_ok q) he
  cases w with
  | not t p => exact ab_not (heb _ _ _ h)
  | bop op es p =>
    cases es with
    | nil => cases op with
      | And => exact ab_and_nil h
      | Or => exact ab_or_nil h
    | cons t r => cases op with
      | And => exact ab_and ((heb _ _ _ h).mp fun _ _ q => ⟨fun z => heb _ _ _ (q.1 z), q.2⟩)
      | Or => exact ab_or ((heb _ _ _ h).mp fun _ _ q => ⟨fun z => heb _ _ _ (q.1 z), q.2⟩)
  | cmp l op r p =>
    obtain ⟨hr, h⟩ := of_ifT h
    exact ab_cmp ((hev _ _ _ h).mp fun _ _ q => (hev _ _ _ q).mp fun _ _ q => (gCmp_ok q).mp fun _ _ q => gTru_ok q) (((vw r).fine hr).inm _)
  | cmp2 l o₁ o₂ r₁ r₂ p =>
    obtain ⟨hr, h⟩ := of_ifT h
    exact ab_chain2 ((hev _ _ _ h).mp fun _ _ q => (hev _ _ _ q).mp fun _ _ q => (gCmp_ok q).mp fun _ _ q => (gTru_ok q).mp fun _ _ q => ⟨fun z => (hev _ _ _ (q.1 z)).mp fun _ _ q => (gCmp_ok q).mp fun _ _ q => gTru_ok q, q.2⟩) (((vw r₂).fine hr).inm _)
  | ifx t a b p => exact h.go
  | neg i k p q => exact h.elim
  | other e => exact h.go
  | _ => exact pl rfl h
theorem gEB_ok (hT : TabOk G T) : ∀ n, EvOk G c X (gE G c X T n) ∧ EbOk G c X (gB G c X T n) := by
  intro n
  induction n with
  | zero => exact ⟨fun e st P h => h.go, fun e st P h => h.go⟩
  | succ n ih => exact ⟨fun e st P h => gEs_ok hT ih.1 ih.2 (vw e) st P h, fun e st P h => gBs_ok ih.1 ih.2 (vw e) st P h⟩
end

/-! what is asked of a value, less asked -/
section
variable {G : Gl} {c : Ac} {X : XPost} {T : List (Str × GV)} {st : St} {P P' : KP}
theorem Lf.mp {p q : Prop} (h : p → q) (l : Lf p) : Lf q := ⟨h l.go⟩
theorem ite_mp {p : Prop} [Decidable p] {A B : Prop} (h : A → B) (x : if p then A else False) : if p then B else False := by
  rw [if_pos (of_ite x).1]
  exact h (of_ite x).2
theorem ifT_mp {b : Bool} {A B : Prop} (h : A → B) (x : ifT b A) : ifT b B := by
  cases b with
  | true => exact h x
  | false => exact x
theorem optP_mp {α : Type} {o : Option α} {k k' : α → Prop} (h : ∀ a, k a → k' a) (x : optP o k) : optP o k' := by
  cases o with
  | some a => exact h a x
  | none => exact x
theorem gOp_mp (hP : ∀ d s, P d s → P' d s) {op : Operator} {d e : D} (h : gOp G c X op d e st P) : gOp G c X op d e st P' := by
  have l : ∀ {d e}, Lf (A2 G c (binaryOp op) d e st P X) → Lf (A2 G c (binaryOp op) d e st P' X) := Lf.mp fun q => q.mp hP
  cases d with
  | int a => cases e with
    | int b => cases op with
      | Add => exact hP _ _ h
      | Sub => exact hP _ _ h
      | Mult => exact ⟨h.1, hP _ _ h.2⟩
      | Mod => exact ite_mp (hP _ _) h
      | FloorDiv => exact ite_mp (hP _ _) h
      | _ => exact l h
    | bool b => cases op with
      | Add => exact hP _ _ h
      | _ => exact l h
    | _ => exact l h
  | _ => exact l h
theorem gCmp_mp (hP : ∀ d s, P d s → P' d s) {op : CmpOp} {d e : D} (h : gCmp G c X op d e st P) : gCmp G c X op d e st P' := by
  have l : ∀ {d e}, Lf (A2 G c (compareOp op) d e st P X) → Lf (A2 G c (compareOp op) d e st P' X) := Lf.mp fun q => q.mp hP
  cases d with
  | int a => cases e with
    | int b => cases op <;> first | exact hP _ _ h | exact l h
    | _ => exact l h
  | str a => cases e with
    | str b => cases op <;> first | exact hP _ _ h | exact l h
    | _ => exact l h
  | bool a => cases e with
    | bool b => cases op <;> first | exact hP _ _ h | exact l h
    | _ => exact l h
  | _ => exact l h
theorem gTru_mp {P P' : KB} (hP : ∀ d s, P d s → P' d s) {d : D} (h : gTru G c X d st P) : gTru G c X d st P' := by
  cases d with
  | bool b => exact hP _ _ h
  | int i => exact hP _ _ h
  | _ => exact Lf.mp (fun q => q.mp hP) h
def EvMp (ev : EvT) : Prop := ∀ e st P P', (∀ d s, P d s → P' d s) → ev e st P → ev e st P'
def EbMp (eb : EvB) : Prop := ∀ e st P P', (∀ d s, P d s → P' d s) → eb e st P → eb e st P'
variable {ev : EvT} {eb : EvB}
theorem gL_mp (hev : EvMp ev) : ∀ (es : List Expr) (st : St) (P P' : List D → St → Prop), (∀ d s, P d s → P' d s) → gL ev es st P → gL ev es st P' := by
  intro es
  induction es with
  | nil => exact fun st P P' hP h => hP _ _ h
  | cons e r ih => exact fun st P P' hP h => hev _ _ _ _ (fun d s q => ih _ _ _ (fun ds s q => hP _ _ q) q) h
theorem gPart_mp (hev : EvMp ev) {o : Option Expr} (hP : ∀ d s, P d s → P' d s) (h : gPart ev o st P) : gPart ev o st P' := by
  cases o with
  | none => exact hP _ _ h
  | some e => exact hev _ _ _ _ hP h
theorem EVN.mp {f : List Value → Sem Value} {ds : List D} (h : EVN G c f ds st P X) (hP : ∀ d s, P d s → P' d s) : EVN G c f ds st P' X :=
  fun W s h₀ m vs hr hv => wpAny_mono (h W s h₀ m vs hr hv) (fun _ _ q => q.mp hP) fun _ _ x => x
theorem SL.mp {v : Expr} {d l u : D} (h : SL G c X v d l u st P) (hP : ∀ d s, P d s → P' d s) : SL G c X v d l u st P' :=
  fun W s h₀ m a b e lo hi p hr h1 h2 h3 => wpAny_mono (h W s h₀ m a b e lo hi p hr h1 h2 h3) (fun _ _ q => q.mp hP) fun _ _ x => x
theorem gNameK_mp (hP : ∀ d s, P d s → P' d s) {x : Str} {k : NameKind} (h : gNameK T x st P k) : gNameK T x st P' k := by
  cases k with
  | «local» => exact optP_mp (fun _ q => hP _ _ q) h
  | globalImplicit => exact optP_mp (fun g q => by cases g <;> first | exact hP _ _ q | exact q) h
  | _ => exact h
theorem gEs_mp (hev : EvMp ev) (heb : EbMp eb) {e : Expr} (w : Vw e) (hP : ∀ d s, P d s → P' d s) (h : gEs G c X T ev eb e w st P) : gEs G c X T ev eb e w st P' := by
  cases w with
  | name x p => exact ifT_mp (fun q => optP_mp (fun k q => gNameK_mp hP q) q) h
  | bin l op r p => exact hev _ _ _ _ (fun _ _ q => hev _ _ _ _ (fun _ _ q => gOp_mp hP q) q) h
  | cmp l op r p => exact ifT_mp (fun h => hev _ _ _ _ (fun _ _ q => hev _ _ _ _ (fun _ _ q => gCmp_mp hP q) q) h) h
  | bop op es p =>
    cases es with
    | nil => cases op <;> exact h
    | cons a r =>
      cases r with
      | nil => cases op <;> exact hev _ _ _ _ hP h
      | cons b r => cases op <;> exact hev _ _ _ _ (fun _ _ q => gTru_mp (fun _ _ q => ⟨fun z => hev _ _ _ _ hP (q.1 z), fun z => hP _ _ (q.2 z)⟩) q) h
  | ifx t a b p => exact heb _ _ _ _ (fun _ _ q => ⟨fun z => hev _ _ _ _ hP (q.1 z), fun z => hev _ _ _ _ hP (q.2 z)⟩) h
  | slc v lo hi p q => exact hev _ _ _ _ (fun _ _ q => gPart_mp hev (fun _ _ q => gPart_mp hev (fun _ _ q => Lf.mp (fun z => z.mp hP) q) q) q) h
  | sub v i p => exact hev _ _ _ _ (fun _ _ q => hev _ _ _ _ (fun _ _ q => Lf.mp (fun z => z.mp hP) q) q) h
  | lst es p => exact ifT_mp (fun h => gL_mp hev _ _ _ _ (fun _ _ q => ite_mp (hP _ _) q) h) h
  | tup es k p => exact ifT_mp (fun h => gL_mp hev _ _ _ _ (fun _ _ q => ite_mp (hP _ _) q) h) h
  | call x np a as p => exact ifT_mp (fun h => optP_mp (fun _ h => optP_mp (fun _ h => gL_mp hev _ _ _ _ (fun _ _ q => Lf.mp (fun z => z.mp hP) q) h) h) h) h
  | not t p => exact Lf.mp (fun z => z.mp hP) h
  | cmp2 l o₁ o₂ r₁ r₂ p => exact Lf.mp (fun z => z.mp hP) h
  | other e => exact Lf.mp (fun z => z.mp hP) h
  | _ => exact hP _ _ h
theorem gBs_mp (hev : EvMp ev) (heb : EbMp eb) {e : Expr} (w : Vw e) {P P' : KB} (hP : ∀ d s, P d s → P' d s) (h : gBs G c X ev eb e w st P) : gBs G c X ev eb e w st P' := by
  cases w with
  | not t p => exact heb _ _ _ _ (fun _ _ q => hP _ _ q) h
  | bop op es p =>
    cases es with
    | nil => cases op <;> exact hP _ _ h
    | cons t r => cases op <;> exact heb _ _ _ _ (fun _ _ q => ⟨fun z => heb _ _ _ _ hP (q.1 z), fun z => hP _ _ (q.2 z)⟩) h
  | cmp l op r p => exact ifT_mp (fun h => hev _ _ _ _ (fun _ _ q => hev _ _ _ _ (fun _ _ q => gCmp_mp (fun _ _ q => gTru_mp hP q) q) q) h) h
  | cmp2 l o₁ o₂ r₁ r₂ p => exact ifT_mp (fun h => hev _ _ _ _ (fun _ _ q => hev _ _ _ _ (fun _ _ q => gCmp_mp (fun _ _ q => gTru_mp (fun _ _ q => ⟨fun z => hev _ _ _ _ (fun _ _ q => gCmp_mp (fun _ _ q => gTru_mp hP q) q) (q.1 z), fun z => hP _ _ (q.2 z)⟩) q) q) q) h) h
  | ifx t a b p => exact Lf.mp (fun z => z.mp hP) h
  | neg i k p q => exact h
  | other e => exact Lf.mp (fun z => z.mp hP) h
  | _ => exact hev _ _ _ _ (fun _ _ q => gTru_mp hP q) h
theorem gEB_mp : ∀ n, EvMp (gE G c X T n) ∧ EbMp (gB G c X T n) := by
  intro n
  induction n with
  | zero => exact ⟨fun e st P P' hP h => Lf.mp (fun z => z.mp hP) h, fun e st P P' hP h => Lf.mp (fun z => z.mp hP) h⟩
  | succ n ih => exact ⟨fun e st P P' hP h => gEs_mp ih.1 ih.2 (vw e) hP h, fun e st P P' hP h => gBs_mp ih.1 ih.2 (vw e) hP h⟩
/-- the ways of a value joined -/
theorem gE_join {n : Nat} {e : Expr} (d₀ : D) (h : gE G c X T n e st fun d st' => d = d₀ ∧ st' = st) (hP : P d₀ st) : gE G c X T n e st P :=
  (gEB_mp n).1 _ _ _ _ (fun d s q => by obtain ⟨rfl, rfl⟩ := q; exact hP) h
theorem gB_join {n : Nat} {e : Expr} {P : KB} (b₀ : Bool) (h : gB G c X T n e st fun d st' => d = b₀ ∧ st' = st) (hP : P b₀ st) : gB G c X T n e st P :=
  (gEB_mp n).2 _ _ _ _ (fun d s q => by obtain ⟨rfl, rfl⟩ := q; exact hP) h
end

/-! unpacking, items set, append -/
def putAll : List (Str × Pos) → List D → St → St
  | t :: ts, d :: ds, st => putAll ts ds (st.put t.1 d)
  | _, _, st => st
section
variable {G : Gl} {c : Ac} {X : XPost}
theorem assign_all {W₀ : Wd} {P : KF} : ∀ (ts : List (Str × Pos)) (ds : List D) (st : St) (W : Wd) (s : Shared) (h₀ : Heap) (m : Str → Option Value) (vs : List Value), ts.length = ds.length → (∀ t ∈ ts, c.env.kindOf t.1 = some .local) → P .next (putAll ts ds st) → W₀.Le W → Rel G c W st h₀ m s → Reps G.base W vs ds →
    wpAny (model G.prog G.w) c.A (assignInOrder ((assignEach (ts.map fun t => Expr.Name t.1 t.2) c.env).map (·.2)) vs) (fun _ => QP RepF G c W₀ P .next) (XP G c W₀ X) s := by
  intro ts
  induction ts with
  | nil =>
    intro ds st W s h₀ m vs hl _ h l hr hv
    cases ds with
    | nil => cases hv; exact wpAny_pure (rep_done (af := .next) l hr rfl h)
    | cons => cases hl
  | cons t ts ih =>
    intro ds st W s h₀ m vs hl hk h l hr hv
    cases ds with
    | nil => cases hl
    | cons d ds =>
      refine Classical.byContradiction fun hng => ?_
      obtain ⟨v, r, rfl, h1, h2⟩ := hv
      refine hng ?_
      clear hng
      show wpAny _ _ (do holding r (assign (.Name t.1 t.2) c.env v); assignInOrder ((assignEach (ts.map fun t => Expr.Name t.1 t.2) c.env).map (·.2)) r) _ _ s
      refine wpAny_bind (wpAny_holding (wpAny_assign_Name (wpAny_mono (au_store (X := X) (P := fun _ st₂ => st₂ = st.put t.1 d) rfl (hk t (.head _)) W s h₀ m v hr h1) (fun _ s₁ q => ?_) fun _ _ x => x.le l)))
      refine Classical.byContradiction fun hng => ?_
      obtain ⟨W₁, st₁, _, h₁, m₁, l₁, r₁, _, rfl⟩ := q
      refine hng ?_
      clear hng
      exact ih ds _ W₁ s₁ h₁ m₁ r (Nat.succ.inj hl) (fun t ht => hk t (.tail _ ht)) h (l.trans l₁) r₁ (h2.mono l₁)
theorem starless (ts : List (Str × Pos)) : (assignEach (ts.map fun t => Expr.Name t.1 t.2) c.env).findIdx? (·.1) = Option.none ∧ (assignEach (ts.map fun t => Expr.Name t.1 t.2) c.env).length = ts.length := by
  induction ts with
  | nil => exact ⟨rfl, rfl⟩
  | cons t ts ih =>
    have e : assignEach ((t :: ts).map fun t => Expr.Name t.1 t.2) c.env = (false, assign (.Name t.1 t.2) c.env) :: assignEach (ts.map fun t => Expr.Name t.1 t.2) c.env := rfl
    rw [e, List.findIdx?_cons, ih.1, List.length_cons, ih.2]
    exact ⟨rfl, rfl⟩
theorem Rel.isLst {W : Wd} {st : St} {h₀ : Heap} {m : Str → Option Value} {s : Shared} (hr : Rel G c W st h₀ m s) {k : Nat} {a : Addr} {ds : List D} (hk : st.ls[k]? = some ds) (hρ : W.ρ[k]? = some a) :
    ∃ vs n, s.heap.get? a = some (listOf (List.toArray vs) n) ∧ s.heap.IsList a vs.toArray ∧ Reps G.base W vs ds := by
  refine Classical.byContradiction fun hng => ?_
  obtain ⟨b, vs, n, h1, h2, h3⟩ := hr.wok.lists k ds hk
  refine hng ?_
  clear hng
  rw [hρ] at h1
  cases h1
  exact ⟨vs, n, (hr.news _ h2).1, ⟨_, (hr.news _ h2).1, rfl, n, rfl⟩, h3⟩
/-- what may be unpacked -/
def gUnp (ts : List (Str × Pos)) (P : KF) (d : D) (st : St) : Prop :=
  match d with
  | .tup ds => ifT (ts.length == ds.length) (P .next (putAll ts ds st))
  | .lst k => optP (st.ls[k]?) fun ds => ifT (ts.length == ds.length) (P .next (putAll ts ds st))
  | _ => False
theorem as_unpack {st : St} {P : KF} {ts : List (Str × Pos)} {elts : List Expr} {k : Nat} {tp pos : Pos} {e : Expr} (hts : elts = ts.map fun t => Expr.Name t.1 t.2) (hh : c.A.handled = none) (hk : ∀ t ∈ ts, c.env.kindOf t.1 = some .local)
    (h : AE G c (eval e c.env) st (fun d st₁ => gUnp ts P d st₁) X)
    (hs : swapsWithSole [.Tuple elts k tp] e pos.line c.env = pure false) (hw : swappedStores [.Tuple elts k tp] e c.env = pure Option.none) : AS G c (exec (.Assign [.Tuple elts k tp] e pos) c.env) st P X := by
  intro W s h₀ m hr
  subst hts
  refine Assign_Tuple (h.step (.refl W) hr (fun _ _ x => x) fun W₁ st₁ d h₁' m₁ v s₁ l₁ _ r₁ p₁ h₁ => ?_) hs hw
  obtain ⟨f1, f2⟩ := starless (c := c) ts
  have fin : ∀ (ds : List D) (vs : List Value) (h' : Heap), ifT (ts.length == ds.length) (P .next (putAll ts ds st₁)) → Reps G.base W₁ vs ds → Fr h₁' c.L h' m₁ → News h₁' c.L h' W₁.N → wpAny (model G.prog G.w) c.A (assignInOrder ((assignEach (ts.map fun t => Expr.Name t.1 t.2) c.env).map (·.2)) vs) (fun _ => QP RepF G c W P .next) (XP G c W X) { s₁ with heap := h' } := fun ds vs h' q hv F N =>
    assign_all ts ds st₁ W₁ _ _ _ vs (eq_of_beq (of_ifT q).1) hk (of_ifT q).2 l₁ (r₁.rest F N s₁.toks) hv
  cases d with
  | tup es =>
    refine Classical.byContradiction fun hng => ?_
    obtain ⟨a, vs, n, rfl, hm, h3⟩ := p₁
    refine hng ?_
    clear hng
    have hT : IsTup s₁.heap a vs.toArray := ⟨_, (r₁.news _ hm).1, rfl, _, rfl⟩
    exact unpackN_ r₁.fr r₁.news hT hh (by rw [f2, List.size_toArray, h3.length]; exact eq_of_beq (of_ifT h₁).1) f1 fun h' F N => fin es vs h' h₁ h3 F N
  | lst j =>
    refine Classical.byContradiction fun hng => ?_
    obtain ⟨a, rfl, hρ⟩ := p₁
    obtain ⟨ds, hu, h₁⟩ := of_optP h₁
    obtain ⟨vs, n, _, hL, h3⟩ := r₁.isLst hu hρ
    refine hng ?_
    clear hng
    rw [PyProof.Rows.assign_Tuple]
    refine wpAny_bind (wpAny_standAt ?_)
    unfold unpack
    refine wpAny_bind (wpAny_holding ?_)
    rw [f1]
    exact kun_items r₁.fr r₁.news hL hh (by rw [f2, List.size_toArray, h3.length]; exact eq_of_beq (of_ifT h₁).1) fun h' F N => fin ds vs h' h₁ h3 F N
  | _ => exact h₁.elim
/-- an item set -/
def gSet (P : KF) (v d k : D) (st : St) : Prop :=
  match d with
  | .lst j => (match k with
    | .int n => optP (st.ls[j]?) fun ds => (0 ≤ n ∧ n < 2 ^ 63 ∧ n < ds.length) ∧ P .next ⟨st.env, st.ls.set j (ds.set n.toNat v), st.tn⟩
    | _ => False)
  | _ => False
theorem as_setitem {st : St} {P : KF} {o i value : Expr} {p' pos : Pos} (h : AE G c (eval value c.env) st (fun v st₁ => AE G c (eval o c.env) st₁ (fun d st₂ => AE G c (eval i c.env) st₂ (fun k st₃ => gSet P v d k st₃) X) X) X)
    (hs : swapsWith value (some (.Subscript o i p')) pos.line c.env = pure false) : AS G c (exec (.Assign [.Subscript o i p'] value pos) c.env) st P X := by
  intro W s h₀ m hr
  refine wpAny_Assign_Subscript (h.step (.refl W) hr (fun _ _ x => x) fun W₁ st₁ v _ _ vv s₁ l₁ _ r₁ p₁ h₁ => ?_) hs
  refine h₁.step l₁ r₁ (fun _ _ x => x) fun W₂ st₂ d _ _ dv s₂ l₂ k₂ r₂ p₂ h₂ => ?_
  refine h₂.step l₂ r₂ (fun _ _ x => x) fun W₃ st₃ k h₃' m₃ kv s₃ l₃ k₃ r₃ p₃ h₃ => ?_
  cases d with
  | lst j =>
    cases k with
    | int n =>
      refine Classical.byContradiction fun hng => ?_
      obtain ⟨ds, hj, ⟨h0, hf, hn⟩, hP⟩ := of_optP h₃
      obtain ⟨t, rfl⟩ := p₃
      obtain ⟨a, rfl, hρ⟩ := p₂
      have hρ₃ := k₃.rho _ _ hρ
      obtain ⟨ws, n', ho, _, hw⟩ := r₃.isLst hj hρ₃
      refine hng ?_
      clear hng
      refine ki_setAt ho h0 hf (by rw [List.size_toArray, hw.length]; exact hn) ?_
      obtain ⟨q, l⟩ := r₃.setList (n' := n') s₃.toks hρ₃ (Reps.set ((p₁.mono k₂).mono k₃) n.toNat hw) (Heap.SameBut.update ..) (by rw [PySem.IsL.update ho (·.setIfInBounds n.toNat vv)]; simp)
      exact rep_done (af := .next) (l₃.trans l) q rfl hP
    | _ => exact h₃.elim
  | _ => exact h₃.elim
/-- append -/
def gLst (d : D) (K : Nat → Prop) : Prop := match d with
  | .lst k => K k
  | _ => False
theorem of_gLst {d : D} {K : Nat → Prop} (h : gLst d K) : ∃ k, d = .lst k ∧ K k := by
  cases d with
  | lst k => exact ⟨k, rfl, h⟩
  | _ => exact h.elim
def gApp (P : KF) (k : Nat) (v : D) (st : St) : Prop := optP (st.ls[k]?) fun ds => ds.length ≤ 16384 ∧ P .next ⟨st.env, st.ls.set k (ds ++ [v]), st.tn⟩
theorem as_append {st : St} {P : KF} {x : Str} {np apos pos pos' : Pos} {a : Expr} (hl : (apos.endLine == pos.line) = true) (fa : Fine a) (hi : interactive c.env = false)
    (h : AE G c (eval (.Name x np) c.env) st (fun d st₁ => gLst d fun k => AE G c (eval a c.env) st₁ (fun v st₂ => gApp P k v st₂) X) X) : AS G c (exec (.Expr (.Call (.Attribute (.Name x np) (Str.ofString "append") apos) [a] [] pos) pos') c.env) st P X := by
  have st1 := fa.star [] c.env
  refine as_expr (fun W s h₀ m hr => ?_) hi rfl
  refine wpAny_Call_method rfl (by rw [st1]; rfl) hl PySem.F.plainAttrs_list PySem.F.slot_list_append rfl (h.step (.refl W) hr (fun _ _ x => x) fun W₁ st₁ d _ _ v s₁ l₁ _ r₁ p₁ h₁ => ?_)
  refine Classical.byContradiction fun hng => ?_
  obtain ⟨k, rfl, h₁⟩ := of_gLst h₁
  obtain ⟨b, rfl, hρ⟩ := p₁
  obtain ⟨_, vs₀, n₀, _, hm₀, _⟩ := r₁.wok.atK hρ
  refine hng ?_
  clear hng
  have hold := (r₁.news _ hm₀).1
  refine ⟨⟨_, hold, rfl⟩, fun a q => by cases q; exact ⟨_, hold, rfl⟩, ?_⟩
  refine callWith_method1 (spliced_more (h₁.step l₁ r₁ (fun _ _ x => x) fun W₂ st₂ e _ _ u s₂ l₂ k₂ r₂ p₂ h₂ => spliced_none ?_) st1) st1 rfl
  refine Classical.byContradiction fun hng => ?_
  obtain ⟨ds, hk, hz, hP⟩ := of_optP h₂
  obtain ⟨ws, n, ho, _, hw⟩ := r₂.isLst hk (k₂.rho _ _ hρ)
  refine hng ?_
  clear hng
  refine append_at ho (fun h' hs ho' => ?_) (by rw [List.size_toArray, hw.length]; exact Nat.le_trans hz (Nat.le_of_ble_eq_true rfl))
  obtain ⟨q, l⟩ := r₂.setList s₂.toks (k₂.rho _ _ hρ) (Reps.append (es := [e]) ⟨u, [], rfl, p₂, rfl⟩ hw) hs (by rw [ho']; simp; rfl)
  exact ⟨_, _, .none, _, _, l₂.trans l, q, rfl, rfl, hP⟩
end

/-- a statement as it is looked at -/
inductive Sv : Stmt → Type
  | asg (x : Str) (p : Pos) (e : Expr) (q : Pos) : Sv (.Assign [.Name x p] e q)
  | asgT (ts : List Expr) (k : Nat) (tp : Pos) (e : Expr) (q : Pos) : Sv (.Assign [.Tuple ts k tp] e q)
  | asgI (o i : Expr) (p : Pos) (v : Expr) (q : Pos) : Sv (.Assign [.Subscript o i p] v q)
  | aug (x : Str) (p : Pos) (op : Operator) (e : Expr) (q : Pos) : Sv (.AugAssign (.Name x p) op e q)
  | ift (t : Expr) (a b : List Stmt) (q : Pos) : Sv (.If t a b q)
  | ret (e : Expr) (q : Pos) : Sv (.Return (some e) q)
  | asrt (t : Expr) (m : Option Expr) (q : Pos) : Sv (.Assert t m q)
  | brk (q : Pos) : Sv (.Break q)
  | pass (q : Pos) : Sv (.Pass q)
  | app (x : Str) (np : Pos) (nm : Str) (ap : Pos) (a : Expr) (q q' : Pos) : Sv (.Expr (.Call (.Attribute (.Name x np) nm ap) [a] [] q) q')
  | other (s : Stmt) : Sv s
noncomputable def sv : (s : Stmt) → Sv s
  | .Assign [.Name x p] e q => .asg x p e q
  | .Assign [.Tuple ts k tp] e q => .asgT ts k tp e q
  | .Assign [.Subscript o i p] v q => .asgI o i p v q
  | .AugAssign (.Name x p) op e q => .aug x p op e q
  | .If t a b q => .ift t a b q
  | .Return (some e) q => .ret e q
  | .Assert t m q => .asrt t m q
  | .Break q => .brk q
  | .Pass q => .pass q
  | .Expr (.Call (.Attribute (.Name x np) nm ap) [a] [] q) q' => .app x np nm ap a q q'
  | s => .other s
noncomputable def tnames : List Expr → Option (List (Str × Pos))
  | [] => some []
  | .Name x p :: r => (tnames r).map ((x, p) :: ·)
  | _ => none
theorem of_tnames : ∀ {es : List Expr} {ts : List (Str × Pos)}, tnames es = some ts → es = ts.map fun t => Expr.Name t.1 t.2 := by
  intro es
  induction es with
  | nil => intro ts h; cases h; rfl
  | cons e r ih =>
    intro ts h
    cases e with
    | Name x p =>
      have h : (tnames r).map ((x, p) :: ·) = some ts := h
      refine Classical.byContradiction fun hng => ?_
      obtain ⟨us, h1, rfl⟩ := Option.map_eq_some_iff.mp h
      refine hng ?_
      clear hng
      rw [ih h1]
      rfl
    | _ => cases h
theorem Vw.noSwap {e : Expr} (w : Vw e) (h : w.noTup = true) (ts : List Expr) (k : Nat) (tp : Pos) (env : Env) : swappedStores [.Tuple ts k tp] e env = pure Option.none := by
  cases w <;> first | rfl | cases h
section
variable (G : Gl) (c : Ac) (X : XPost) (T : List (Str × GV))
abbrev EvS := List Stmt → St → KF → Prop
def gSs (ev : EvT) (eb : EvB) (es : EvS) : (s : Stmt) → Sv s → St → KF → Prop
  | _, .asg x _ e _, st, P => ifT (isLoc c x && known e) (ev e st fun d st₁ => P .next (st₁.put x d))
  | _, .asgT ts _ _ e _, st, P => ifT (known e && (vw e).noTup) (optP (tnames ts) fun ns => ifT (ns.all fun t => isLoc c t.1) (c.A.handled = none ∧ ev e st fun d st₁ => gUnp ns P d st₁))
  | _, .asgI o i _ v _, st, P => ifT (known v) (ev v st fun w st₁ => ev o st₁ fun d st₂ => ev i st₂ fun k st₃ => gSet P w d k st₃)
  | _, .aug x _ op e _, st, P => ifT (isLoc c x) (optP (st.env.lookup x) fun d₀ => ev e st fun d st₁ => gIop G c X op d₀ d st₁ fun d' st₂ => P .next (st₂.put x d'))
  | _, .ift t a b _, st, P => eb t st fun q st₁ => (q = true → es a st₁ P) ∧ (q = false → es b st₁ P)
  | _, .ret e _, st, P => ev e st fun d st₁ => P (.ret d) st₁
  | _, .asrt t m q, st, P => eb t st fun b st₁ => b = true ∧ P .next st₁
  | _, .brk _, st, P => P .brk st
  | _, .pass _, st, P => P .next st
  | _, .app x np nm ap a q q', st, P => ifT ((ap.endLine == q.line) && (known a && (!(interactive c.env) && (nm == Str.ofString "append")))) (ev (.Name x np) st fun d st₁ => gLst d fun k => ev a st₁ fun v st₂ => gApp P k v st₂)
  | _, .other s, st, P => Lf (AS G c (exec s c.env) st P X)
def gS : Nat → EvS
  | 0, l, st, P => Lf (AS G c (execs l c.env) st P X)
  | n + 1, l, st, P => (match l with
    | [] => P .next st
    | s :: r => gSs G c X (gE G c X T n) (gB G c X T n) (gS n) s (sv s) st (seqK (fun st₁ => gS n r st₁ P) P))
end
section
variable {G : Gl} {c : Ac} {X : XPost} {T : List (Str × GV)} {ev : EvT} {eb : EvB} {es : EvS}
theorem gSs_ok (hev : EvOk G c X ev) (heb : EbOk G c X eb) (hes : ∀ l st P, es l st P → AS G c (execs l c.env) st P X) {s : Stmt} (w : Sv s) (st : St) (P : KF) (h : gSs G c X ev eb es s w st P) : AS G c (exec s c.env) st P X := by
  cases w with
  | asg x p e q =>
    obtain ⟨hb, h⟩ := of_ifT h
    rw [Bool.and_eq_true] at hb
    exact as_assign (hev _ _ _ h) (of_isLoc hb.1) (((vw e).fine hb.2).swp _ _ _)
  | asgT ts k tp e q =>
    refine Classical.byContradiction fun hng => ?_
    obtain ⟨hb, h⟩ := of_ifT h
    obtain ⟨ns, hn, h⟩ := of_optP h
    obtain ⟨hl, hh, h⟩ := of_ifT h
    refine hng ?_
    clear hng
    rw [Bool.and_eq_true] at hb
    rw [List.all_eq_true] at hl
    exact as_unpack (of_tnames hn) hh (fun t ht => of_isLoc (hl t ht)) (hev _ _ _ h) (((vw e).fine hb.1).swp (some (.Tuple ts k tp)) q.line c.env) ((vw e).noSwap hb.2 _ _ _ _)
  | asgI o i p v q =>
    obtain ⟨hb, h⟩ := of_ifT h
    exact as_setitem ((hev _ _ _ h).mp fun _ _ q => (hev _ _ _ q).mp fun _ _ q => (hev _ _ _ q)) (((vw v).fine hb).swp _ _ _)
  | aug x p op e q =>
    refine Classical.byContradiction fun hng => ?_
    obtain ⟨hb, h⟩ := of_ifT h
    obtain ⟨d₀, he, h⟩ := of_optP h
    refine hng ?_
    clear hng
    exact as_aug he ((hev _ _ _ h).mp fun _ _ q => gIop_ok q) (of_isLoc hb)
  | ift t a b q => exact as_if ((heb _ _ _ h).mp fun _ _ q => ⟨fun z => hes _ _ _ (q.1 z), fun z => hes _ _ _ (q.2 z)⟩)
  | ret e q => exact as_return (hev _ _ _ h)
  | asrt t m q => exact as_assert (heb _ _ _ h)
  | brk q => exact as_break h
  | pass q => exact as_pass h
  | app x np nm ap a q q' =>
    obtain ⟨hb, h2⟩ := of_ifT h
    rw [Bool.and_eq_true, Bool.and_eq_true, Bool.and_eq_true] at hb
    have e := eq_of_beq hb.2.2.2
    subst e
    refine as_append hb.1 ((vw a).fine hb.2.1) (not_dbg hb.2.2.1) ((hev _ _ _ h2).mp fun d st₁ q => ?_)
    refine Classical.byContradiction fun hng => ?_
    obtain ⟨k, rfl, q⟩ := of_gLst q
    refine hng ?_
    clear hng
    exact hev _ _ _ q
  | other s => exact h.go
theorem gS_ok (hT : TabOk G T) : ∀ n l st P, gS G c X T n l st P → AS G c (execs l c.env) st P X := by
  intro n
  induction n with
  | zero => exact fun l st P h => h.go
  | succ n ih =>
    intro l st P h
    cases l with
    | nil => exact as_nil h
    | cons s r =>
      refine as_cons ((gSs_ok (gEB_ok hT n).1 (gEB_ok hT n).2 ih (sv s) st _ h).mp fun af st₁ q => ?_)
      cases af with
      | next => exact ih _ _ _ q
      | _ => exact q
end
/-! a def, by what its text asks -/
theorem fn {G : Gl} {c : Ac} {st : St} {X : XPost} {P : KP} {T : List (Str × GV)} (hT : TabOk G T) (n : Nat) (f : Addr) (r : Nat) {name qual : Str} {params : Arguments} {body : List Stmt} {scope : Scope} {dV kV doc pm cdv ct oc : Value} {an od : Option Addr} {osl : Array (Option Value)} (xs : List Str) {ds : List D}
    (ho : G.K.lookup f = some ⟨oc, od, .func (fnOf name qual params body scope dV kV doc pm an cdv ct), osl⟩) (hcd : codeIn G.K cdv qual = true)
    (hbind : ∀ vs : List Value, vs.length = xs.length → bindArgs (fnOf name qual params body scope dV kV doc pm an cdv ct) ⟨vs, []⟩ = pure (xs.zip vs))
    (hroom : r + 1 ≤ c.room)
    (hok : (decide (ds.length = xs.length) && (decide xs.Nodup && (xs.all fun y => decide (scope.names.lookup y = some .local)) && (scope.names.all fun x => decide (x.2 ≠ .cell)) && (!scope.isCoroutine && (!scope.isGenerator && decide (scope.kind = .function))))) = true)
    (h : ∀ A₀ outer g₀ L, A₀.handled = c.A.handled → gS G ⟨A₀, outer, g₀, qual, scope, L, f, cdv, none, r, none⟩ (fun cls _ st' => st'.tn = false ∧ X cls true ⟨st.env, st'.ls, st.tn⟩) T n body ⟨xs.zip ds, st.ls, false⟩ (retK P st)) :
    EVN G c (callV (.ref f)) ds st P X := by
  simp only [Bool.and_eq_true, decide_eq_true_eq, List.all_eq_true, Bool.not_eq_true'] at hok
  refine Classical.byContradiction fun hng => ?_
  obtain ⟨h1, ⟨⟨h2, h3⟩, h4⟩, h5, h6, h7⟩ := hok
  refine hng ?_
  clear hng
  exact ev_def ho hcd hbind h1 h2 h3 hroom ⟨h5, h6, h7⟩ h4 fun A₀ outer g₀ L hh => gS_ok hT n _ _ _ (h A₀ outer g₀ L hh)

section
variable {G : Gl} {c : Ac} {st : St} {X : XPost} {P : KP}
/-- what an iteration hands out, and what lies in a list -/
def Seq (st : St) : D → List D → Prop
  | .lst k, ds => st.ls[k]? = some ds
  | .ro ns, ds => ns.map D.int = ds
  | _, _ => False
theorem Rel.isRo {W : Wd} {h₀ : Heap} {m : Str → Option Value} {s : Shared} (hr : Rel G c W st h₀ m s) {a : Addr} {vs : List Value} (hb : G.base.IsList a vs.toArray) : s.heap.IsList a vs.toArray :=
  stays_list (fun b o e => hr.fr.keep b o (hr.gnd.below.stays b o e)) hb
theorem seq_list {W : Wd} {h₀ : Heap} {m : Str → Option Value} {s : Shared} (hr : Rel G c W st h₀ m s) {d : D} {ds : List D} {v : Value} (hs : Seq st d ds) (hv : Rep G.base W v d) : ∃ a vs, v = .ref a ∧ s.heap.IsList a (List.toArray vs) ∧ Reps G.base W vs ds := by
  cases d with
  | lst k =>
    refine Classical.byContradiction fun hng => ?_
    obtain ⟨a, rfl, hρ⟩ := hv
    obtain ⟨vs, n, _, hL, h3⟩ := hr.isLst hs hρ
    refine hng ?_
    clear hng
    exact ⟨a, vs, rfl, hL, h3⟩
  | ro ns =>
    refine Classical.byContradiction fun hng => ?_
    obtain ⟨a, vs, rfl, hb, hI⟩ := hv
    refine hng ?_
    clear hng
    obtain rfl : _ = ds := hs
    exact ⟨a, vs, rfl, hr.isRo hb, Reps.ofInts hI⟩
  | _ => exact hs.elim
/-! items -/
theorem ev_item {v i : Expr} {d e : D} {ds : List D} {k : Int} (hs : Seq st d ds) (h0 : 0 ≤ k) (hx : ds[k.toNat]? = some e) (h : P e st) (hf : k < 2 ^ 63)
    (hi : ∀ o u, subscripted i false o u = operate [o, u] (getItem o u) := by intro _ _; rfl) : A2 G c (subscriptTail v i) d (.int k) st P X := by
  rintro W s h₀ m _ _ hr ha ⟨_, rfl⟩
  refine Classical.byContradiction fun hng => ?_
  obtain ⟨a, vs, rfl, hL, h3⟩ := seq_list hr hs ha
  obtain ⟨x, hv, hrep⟩ := h3.get hx
  refine hng ?_
  clear hng
  exact tail_any hL.typeIs slot_list_getitem.lookup (wpAny_getItem_list hL h0 hf (by simpa using hv) (hr.here0 hrep h)) (hi _ _)
theorem ev_divmod {a b : Int} (hb : 0 < b) (hq : b < 1073741824) (h : P (.tup [.int (a / b), .int (a % b)]) st) : EVN G c (callV (.builtin "divmod")) [.int a, .int b] st P X := by
  intro W s h₀ m vs hr hv
  refine Classical.byContradiction fun hng => ?_
  obtain ⟨_, _, rfl, ⟨_, rfl⟩, ⟨_, rfl⟩⟩ := hv.two
  refine hng ?_
  clear hng
  refine divmod_N hr.fr hr.news (Int.ne_of_gt hb) (fun h' F N => ?_) (.inl (PyProof.noPylong_small (by lia)))
  refine ⟨newW W _ _, st, .tup [.int (a / b), .int (a % b)], h₀, m, newW_le, hr.newObj _ F N, ?_, h⟩
  rw [← Int.fdiv_eq_ediv_of_nonneg _ (Int.le_of_lt hb), ← Int.fmod_eq_emod_of_nonneg _ (Int.le_of_lt hb)]
  exact ⟨_, [.int (a.fdiv b) s.toks, .int (a.fmod b) (s.toks + 1)], 0, rfl, .head _, ⟨_, _, rfl, Rep.oi, _, _, rfl, Rep.oi, rfl⟩⟩
theorem ev_len {d : D} {ds : List D} (hs : Seq st d ds) (h : P (.int ds.length) st) (hz : ds.length ≤ 16384) : EVN G c (callV (.builtin "len")) [d] st P X := by
  intro W s h₀ m vs hr hv
  refine Classical.byContradiction fun hng => ?_
  obtain ⟨v, rfl, hv1⟩ := hv.one
  obtain ⟨a, vs, rfl, hL, h3⟩ := seq_list hr hs hv1
  refine hng ?_
  clear hng
  refine PyProof.Rows.len_list hL (by rw [List.size_toArray, h3.length]; lia) ?_
  rw [List.size_toArray, h3.length]
  exact hr.here _ Rep.oi h
/-! lists put together, cut, copied -/
theorem ev_addQ {d e : D} {ds es : List D} (hi : Seq st d ds) (hj : Seq st e es) (h : P (.lst st.ls.length) ⟨st.env, st.ls ++ [ds ++ es], st.tn⟩) (hz : ds.length + es.length ≤ 16384) : A2 G c (binaryOp .Add) d e st P X := by
  intro W s h₀ m v u hr hv hu
  refine Classical.byContradiction fun hng => ?_
  obtain ⟨a, vs, rfl, hL, h3⟩ := seq_list hr hi hv
  obtain ⟨b, ws, rfl, hL', h3'⟩ := seq_list hr hj hu
  refine hng ?_
  clear hng
  refine kmk_add_lit hr.fr hr.news hL hL' rfl (fun l h' F N hlt => ?_) (by
    show vs.length + ws.length ≤ sizeLine
    rw [h3.length, h3'.length]
    exact Nat.le_trans hz (Nat.le_of_ble_eq_true rfl))
  exact hr.madeL (k := s.toks) (fun p hp => Nat.ne_of_lt (hlt p hp)) (Reps.append h3' h3) F N h
theorem ev_mulL {j : Nat} {d : D} {n : Int} (hj : st.ls[j]? = some [d]) (h0 : 0 ≤ n) (hz : n ≤ 100) (h : P (.lst st.ls.length) ⟨st.env, st.ls ++ [List.replicate n.toNat d], st.tn⟩) : A2 G c (binaryOp .Mult) (.lst j) (.int n) st P X := by
  rintro W s h₀ m _ _ hr hj7 hj8
  refine Classical.byContradiction fun hng => ?_
  obtain ⟨a, rfl, hρ⟩ := hj7
  obtain ⟨t, rfl⟩ := hj8
  obtain ⟨ws, n', ho, hL, hw⟩ := hr.isLst hj hρ
  obtain ⟨w, rfl, hw1⟩ := hw.one
  refine hng ?_
  clear hng
  refine KMa.mul hr.fr hr.news hL (by lia) (by lia) (by show 1 * n.toNat ≤ 256; lia) rfl (fun l h' F N hlt => ?_)
  have hrep : ∀ k : Nat, Reps G.base W (List.replicate k [w]).flatten (List.replicate k d) := by
    intro k
    induction k with
    | zero => rfl
    | succ k ih => exact ⟨w, _, rfl, hw1, ih⟩
  exact hr.madeL (k := s.toks) (fun p hp => Nat.ne_of_lt (hlt p hp)) (hrep _) F N h
theorem ev_listT {ds : List D} (hz : ds.length ≤ 1000) (h : P (.lst st.ls.length) ⟨st.env, st.ls ++ [ds], st.tn⟩) : EVN G c (callV (.type "list")) [.tup ds] st P X := by
  intro W s h₀ m vs hr hv
  refine Classical.byContradiction fun hng => ?_
  obtain ⟨v, rfl, a, vs, n, rfl, hm, h3⟩ := hv.one
  refine hng ?_
  clear hng
  have hT : IsTup s.heap a vs.toArray := ⟨_, (hr.news _ hm).1, rfl, _, rfl⟩
  exact list_copyKT hr.fr hr.news hT (fun l n' h' F N hlt => hr.madeL (k := s.toks) (fun p hp => Nat.ne_of_lt (hlt p hp)) h3 F N h) (by rw [List.size_toArray, h3.length]; exact short hz)
theorem sl_core {v : Expr} {d l u : D} {ds es : List D} {i j : Option Int} (hs : Seq st d ds) (pl : ∀ {W b}, Rep G.base W b l → IsPart b i) (pu : ∀ {W b}, Rep G.base W b u → IsPart b j)
    (hw : ∀ {W vs}, Reps G.base W vs ds → ∃ ws, slicePick vs.toArray i j none = List.toArray ws ∧ Reps G.base W ws es) (hz : ds.length ≤ 16384) (h : P (.lst st.ls.length) ⟨st.env, st.ls ++ [es], st.tn⟩) : SL G c X v d l u st P := by
  intro W s h₀ m a b e lo hi p hr ha hb he
  refine Classical.byContradiction fun hng => ?_
  obtain ⟨a, vs, rfl, hL, h3⟩ := seq_list hr hs ha
  obtain ⟨ws, hw, h4⟩ := hw h3
  refine hng ?_
  clear hng
  have r₁ : Rel G c W st h₀ m { s with heap := s.heap.push { cls := .type "slice", data := .fields #[b, e, .none] } } := hr.rest (hr.fr.push _) (fun p hp => ⟨Heap.get?_push_of_some _ (hr.news p hp).1, (hr.news p hp).2⟩) s.toks
  refine tail_any (T := "list") (Heap.IsList.typeIs (s := { s with heap := s.heap.push { cls := .type "slice", data := .fields #[b, e, .none] } }) (hL.push _)) slot_list_getitem.lookup
    (wpAny_getItem_list_slice (hL.push _) (Heap.IsSliceOf.new ..) (pl hb) (pu he) .none (by simp) ?_ (by rw [List.size_toArray, h3.length]; exact Nat.le_trans hz (Nat.le_of_ble_eq_true rfl))) rfl
  rw [hw]
  exact r₁.madeL (k := s.toks) r₁.fresh.1 h4 (r₁.fr.push _) (News.push r₁.fr r₁.news (listOf ws.toArray 0)) h
theorem part_n {W : Wd} {b : Value} (h : Rep G.base W b .none) : IsPart b none := by cases h; exact .none
theorem part_i {W : Wd} {b : Value} {k : Int} (h : Rep G.base W b (.int k)) : IsPart b (some k) := by obtain ⟨t, rfl⟩ := h; exact .int _ t
theorem sl_to {v : Expr} {d : D} {ds : List D} {k : Int} (hs : Seq st d ds) (hk : 0 ≤ k) (hz : ds.length ≤ 16384) (h : P (.lst st.ls.length) ⟨st.env, st.ls ++ [ds.take k.toNat], st.tn⟩) : SL G c X v d .none (.int k) st P :=
  sl_core hs part_n part_i (fun {W vs} h3 => ⟨vs.take k.toNat, by rw [← Int.toNat_of_nonneg hk, slicePick_upto']; rfl, h3.take _⟩) hz h
end
/-! texts -/
abbrev tx (l : List Nat) : Str := ⟨l.toArray⟩
theorem tx_len (l : List Nat) : (tx l).length = l.length := List.size_toArray ..
theorem tx_app (l m : List Nat) : tx l ++ tx m = tx (l ++ m) := congrArg Str.mk (by simp)
theorem small_len {l : List Nat} (h : l.length ≤ 16384) : (tx l).length ≤ sizeLine := by rw [tx_len]; exact Nat.le_trans h (Nat.le_of_ble_eq_true rfl)
theorem idx_clip {len : Nat} (a b : Nat) : Builtin.Str.strSliceIndices (some (a : Int)) (some (b : Int)) 1 len = Builtin.Str.strSliceIndices (some ((min a len : Nat) : Int)) (some ((min b len : Nat) : Int)) 1 len := by
  have h0 : ∀ a : Nat, ¬ ((a : Int) < 0) := fun a => Int.not_lt.mpr (Int.natCast_nonneg a)
  have h1 := h0 a
  have h2 := h0 b
  have h3 := h0 (min a len)
  have h4 := h0 (min b len)
  have e0 : ∀ a : Nat, max (0 : Int) (min (a : Int) (len : Int)) = max (0 : Int) (min ((min a len : Nat) : Int) (len : Int)) := fun a => by
    rcases Nat.le_total a len with h | h
    · rw [Nat.min_eq_left h]
    · rw [Nat.min_eq_right h, Int.min_eq_right (Int.ofNat_le.mpr h), Int.min_self]
  have e1 := e0 a
  have e2 := e0 b
  simp only [Builtin.Str.strSliceIndices, h1, h2, h3, h4, if_false, e1, e2, show ((1 : Int) > 0) = True from by simp, if_true]
theorem drop_take_min {l : List Nat} {a b : Nat} : (l.drop (min a l.length)).take (min b l.length - min a l.length) = (l.drop a).take (b - a) := by
  rcases Nat.le_total a l.length with h | h
  · rw [Nat.min_eq_left h]
    rcases Nat.le_total b l.length with h' | h'
    · rw [Nat.min_eq_left h']
    · rw [Nat.min_eq_right h', List.take_of_length_le (by simp), List.take_of_length_le (by simp; lia)]
  · rw [Nat.min_eq_right h, List.drop_of_length_le (Nat.le_refl _), List.drop_of_length_le h, List.take_nil, List.take_nil]
theorem tslice (l : List Nat) (a b : Nat) : Txt.slice (tx l) (some (a : Int)) (some (b : Int)) = tx ((l.drop a).take (b - a)) := by
  show StrLaws.sliceText (tx l) _ _ = _
  have e : StrLaws.sliceText (tx l) (some (a : Int)) (some (b : Int)) = StrLaws.sliceText (tx l) (some ((min a l.length : Nat) : Int)) (some ((min b l.length : Nat) : Int)) := by
    unfold StrLaws.sliceText
    rw [tx_len, idx_clip]
  rw [e]
  rcases Nat.le_total (min a l.length) (min b l.length) with h | h
  · rw [StrLaws.sliceText_nat (tx l) h (by rw [tx_len]; exact Nat.min_le_right _ _)]
    exact congrArg tx drop_take_min
  · rw [← drop_take_min, Nat.sub_eq_zero_of_le h, List.take_zero]
    unfold StrLaws.sliceText
    have z : Builtin.Str.strSliceIndices (some ((min a l.length : Nat) : Int)) (some ((min b l.length : Nat) : Int)) 1 (tx l).length = [] := by
      rw [tx_len]
      have h1 : ¬ (((min a l.length : Nat) : Int) < 0) := by lia
      have h2 : ¬ (((min b l.length : Nat) : Int) < 0) := by lia
      have h3 : ¬ (max (0 : Int) (min ((min a l.length : Nat) : Int) (l.length : Int)) < max (0 : Int) (min ((min b l.length : Nat) : Int) (l.length : Int))) := by lia
      simp only [Builtin.Str.strSliceIndices, sliceRange, h1, h2, if_false, show ((1 : Int) > 0) = True from by simp, if_true, h3]
      rfl
    rw [z]
    split
    · rename_i q
      have : l = [] := by
        rw [tx_len] at q
        have q : 0 = l.length := by simpa using q
        exact List.length_eq_zero_iff.mp q.symm
      rw [this]
    · rfl
section
variable {G : Gl} {c : Ac} {st : St} {X : XPost} {P : KP}
theorem slS_core {v : Expr} {l : List Nat} {lo hi : D} {es : List Nat} (he : ∀ (W : Wd) (s : Shared) (h₀ : Heap) (m : Str → Option Value) (b e : Value) (lo' hi' : Option Expr) (p : Pos) (t : Tok), Rel G c W st h₀ m s → Rep G.base W b lo → Rep G.base W e hi →
      ∀ Q : Value → Shared → Prop, (∀ h' t' k, Fr h₀ c.L h' m → News h₀ c.L h' W.N → Q (.str (tx es) t') { s with heap := h', toks := k }) →
      wpAny (model G.prog G.w) c.A (subscriptTail v (.Slice lo' hi' none p) (.str (tx l) t) (.ref s.heap.objs.size)) Q (XP G c W X) { s with heap := s.heap.push { cls := .type "slice", data := .fields #[b, e, .none] } })
    (h : P (.str (tx es)) st) : SL G c X v (.str (tx l)) lo hi st P := by
  rintro W s h₀ m _ b e lo' hi' p hr ⟨t, rfl⟩ hb hq
  exact he W s h₀ m b e lo' hi' p t hr hb hq _ fun h' t' k F N => ⟨W, st, .str (tx es), h₀, m, .refl W, hr.rest F N k, Rep.os, h⟩
theorem ht_str {v : Expr} {x : Str} {t : Tok} (r : Value) : letTemporaryGo v (.str x t) r = pure () := by cases v <;> rfl
theorem sl_s {v : Expr} {l : List Nat} {i j : Int} (hi : 0 ≤ i) (hj : 0 ≤ j) (hz : l.length ≤ 16384) (h : P (.str (tx ((l.drop i.toNat).take (j.toNat - i.toNat)))) st) : SL G c X v (.str (tx l)) (.int i) (.int j) st P := by
  refine slS_core (fun W s h₀ m _ _ lo' hi' p t hr ⟨ti, e1⟩ ⟨tj, e2⟩ Q hQ => ?_) h
  subst e1 e2
  rw [← tslice, Int.toNat_of_nonneg hi, Int.toNat_of_nonneg hj] at hQ
  exact slice_strN_ss hr.fr hr.news hQ rfl ht_str (small_len hz)
theorem sl_sto {v : Expr} {l : List Nat} {j : Int} (hj : 0 ≤ j) (hz : l.length ≤ 16384) (h : P (.str (tx (l.take j.toNat))) st) : SL G c X v (.str (tx l)) .none (.int j) st P := by
  refine slS_core (fun W s h₀ m _ _ lo' hi' p t hr e1 ⟨tj, e2⟩ Q hQ => ?_) h
  cases e1
  subst e2
  have e : Txt.slice (tx l) none (some j) = tx (l.take j.toNat) := by
    have := tslice l 0 j.toNat
    rw [Int.toNat_of_nonneg hj, List.drop_zero, Nat.sub_zero] at this
    rw [← this]
    show StrLaws.sliceText _ _ _ = StrLaws.sliceText _ _ _
    unfold StrLaws.sliceText
    rw [StrLaws.sliceIdx_none_lo]
    rfl
  rw [← e] at hQ
  exact slice_strN_ns hr.fr hr.news hQ rfl ht_str (small_len hz)
theorem sl_sfrom {v : Expr} {l : List Nat} {i : Int} (hi : 0 ≤ i) (hz : l.length ≤ 16384) (h : P (.str (tx (l.drop i.toNat))) st) : SL G c X v (.str (tx l)) (.int i) .none st P := by
  refine slS_core (fun W s h₀ m _ _ lo' hi' p t hr ⟨ti, e1⟩ e2 Q hQ => ?_) h
  cases e2
  subst e1
  have e : Txt.slice (tx l) (some i) none = tx (l.drop i.toNat) := by
    have := tslice l i.toNat l.length
    rw [Int.toNat_of_nonneg hi, List.take_of_length_le (by simp)] at this
    rw [← this]
    show StrLaws.sliceText _ _ _ = StrLaws.sliceText _ _ _
    unfold StrLaws.sliceText
    rw [StrLaws.sliceIdx_none_hi, tx_len]
  rw [← e] at hQ
  exact slice_strN_sn hr.fr hr.news hQ rfl ht_str (small_len hz)
theorem ev_itemS {v i : Expr} {l : List Nat} {k : Int} {ch : Nat} (h0 : 0 ≤ k) (hx : l[k.toNat]? = some ch) (h : P (.str (tx [ch])) st) (hz : l.length ≤ 16384)
    (hi : ∀ o u, subscripted i false o u = operate [o, u] (getItem o u) := by intro _ _; rfl) : A2 G c (subscriptTail v i) (.str (tx l)) (.int k) st P X := by
  rintro W s h₀ m _ _ hr ⟨_, rfl⟩ ⟨_, rfl⟩
  have hlt : k.toNat < l.length := get_lt hx
  have e : Txt.item (tx l) k = tx [ch] := by
    unfold Txt.item Txt.charAt
    rw [tx_len]
    have e1 : ¬ k < 0 := by lia
    have e2 : (decide (0 ≤ k) && decide (k < (l.length : Int))) = true := by
      rw [Bool.and_eq_true, decide_eq_true_eq, decide_eq_true_eq]
      lia
    simp only [seqIndex?, if_neg e1, e2, if_true]
    show tx [((tx l).cps[k.toNat]?).getD 0] = _
    rw [List.getElem?_toArray, hx]
    rfl
  refine item_str (fitsSsize_of (N := 16385) (by lia) (by lia) (by decide)) (by rw [tx_len]; lia) (by rw [tx_len]; lia) (fun _ => ?_) (hi _ _) ht_str
  rw [e]
  exact hr.here _ Rep.os h
theorem ev_lenS {l : List Nat} (h : P (.int l.length) st) (hz : l.length ≤ 16384) : EVN G c (callV (.builtin "len")) [.str (tx l)] st P X := by
  intro W s h₀ m vs hr hv
  refine Classical.byContradiction fun hng => ?_
  obtain ⟨_, rfl, _, rfl⟩ := hv.one
  refine hng ?_
  clear hng
  refine PyProof.Rows.len_str (by rw [tx_len]; lia) ?_
  rw [tx_len]
  exact hr.here _ Rep.oi h
theorem app_len {l m : List Nat} (hz : l.length + m.length ≤ 16384) : (tx l).length + (tx m).length ≤ sizeLine := by
  rw [tx_len, tx_len]
  exact Nat.le_trans hz (Nat.le_of_ble_eq_true rfl)
theorem ev_addS {l m : List Nat} (h : P (.str (tx (l ++ m))) st) (hz : l.length + m.length ≤ 16384) : A2 G c (binaryOp .Add) (.str (tx l)) (.str (tx m)) st P X := by
  rintro W s h₀ _ _ _ hr ⟨_, rfl⟩ ⟨_, rfl⟩
  refine PyProof.Rows.add_str (fun t' tk => ?_) (app_len hz)
  rw [tx_app]
  exact hr.here _ Rep.os h
theorem ev_iaddS {l m : List Nat} (h : P (.str (tx (l ++ m))) st) (hz : l.length + m.length ≤ 16384) : A2 G c (inplaceOp .Add) (.str (tx l)) (.str (tx m)) st P X := by
  rintro W s h₀ _ _ _ hr ⟨_, rfl⟩ ⟨_, rfl⟩
  refine PyProof.Rows.iadd_str (fun t' tk => ?_) (app_len hz)
  rw [tx_app]
  exact hr.here _ Rep.os h
theorem ev_int {l : List Nat} {n : Int} (hn : PySem.intText? (tx l) = some n) (hz : l.length ≤ 640) (h : P (.int n) st) : EVN G c (callV (.type "int")) [.str (tx l)] st P X := by
  intro W s h₀ m vs hr hv
  refine Classical.byContradiction fun hng => ?_
  obtain ⟨_, rfl, _, rfl⟩ := hv.one
  refine hng ?_
  clear hng
  exact KIN.call_text hn (by rw [tx_len]; exact hz) (hr.here _ Rep.oi h)
theorem ev_str {a : Int} (ha : a.natAbs.log2 < 1920) (h : P (.str (Str.ofString (toString a))) st) : EVN G c (callV (.type "str")) [.int a] st P X := by
  intro W s h₀ m vs hr hv
  refine Classical.byContradiction fun hng => ?_
  obtain ⟨_, rfl, _, rfl⟩ := hv.one
  refine hng ?_
  clear hng
  exact PySem.P.str_of_int ha (hr.here _ Rep.os h)
theorem ev_chr {i : Int} (h0 : 0 ≤ i) (h1 : i ≤ 1114111) (h : P (.str (tx [i.toNat])) st) : EVN G c (callV (.builtin "chr")) [.int i] st P X := by
  intro W s h₀ m vs hr hv
  refine Classical.byContradiction fun hng => ?_
  obtain ⟨_, rfl, _, rfl⟩ := hv.one
  refine hng ?_
  clear hng
  exact chr_of_range h0 h1 (hr.here _ Rep.os h)
/-- join -/
theorem strs_are {W : Wd} {ys : List Str} : ∀ {vs : List Value}, Reps G.base W vs (ys.map D.str) → StrsAre vs ys := by
  induction ys with
  | nil => rintro _ rfl; exact .nil
  | cons y ys ih =>
    rintro _ hj1
    refine Classical.byContradiction fun hng => ?_
    obtain ⟨_, r, rfl, ⟨t, rfl⟩, h⟩ := hj1
    refine hng ?_
    clear hng
    exact .cons y t (ih h)
theorem ev_join {k : Nat} {x : Str} {ys : List Str} (hk : st.ls[k]? = some (ys.map D.str)) (hz : (ys.map (·.length)).sum + ys.length * x.length ≤ 16777216) (h : P (.str (Txt.join x ys)) st) : EVN G c (callV (.builtin "str.join")) [.str x, .lst k] st P X := by
  intro W s h₀ m vs hr hv
  refine Classical.byContradiction fun hng => ?_
  obtain ⟨_, _, rfl, ⟨_, rfl⟩, a, rfl, hρ⟩ := hv.two
  obtain ⟨ws, n, ho, hL, hw⟩ := hr.isLst hk hρ
  refine hng ?_
  clear hng
  exact join_list hL (strs_are hw) hz fun t' k' => hr.here _ Rep.os h
theorem ae_join {o a : Expr} {apos pos : Pos} (hl : (apos.endLine == pos.line) = true) (fa : starEach [a] c.env = (false, eval a c.env) :: starEach [] c.env) (hb : attributeBase o (Str.ofString "join") c.env (eval o c.env) = eval o c.env)
    (h : AE G c (eval o c.env) st (fun d st₁ => ∃ x, d = .str x ∧ AE G c (eval a c.env) st₁ (fun e st₂ => EVN G c (callV (.builtin "str.join")) [.str x, e] st₂ P X) X) X) : AE G c (eval (.Call (.Attribute o (Str.ofString "join") apos) [a] [] pos) c.env) st P X := by
  intro W s h₀ m hr
  refine wpAny_Call_method hb (by rw [fa]; rfl) hl PySem.F.plainAttrs_str PySem.F.slot_str_join rfl (h.step (.refl W) hr (fun _ _ x => x) fun W₁ st₁ d _ _ v s₁ l₁ _ r₁ p₁ h₁ => ?_)
  refine Classical.byContradiction fun hng => ?_
  obtain ⟨x, rfl, h₁⟩ := h₁
  obtain ⟨t, rfl⟩ := p₁
  refine hng ?_
  clear hng
  refine ⟨typeIs_str _ _ _, (fun _ q => nomatch q), callWith_method1 (spliced_more (h₁.step l₁ r₁ (fun _ _ x => x) fun W₂ st₂ e _ _ u s₂ l₂ k₂ r₂ p₂ h₂ => spliced_none ?_) fa) fa rfl⟩
  exact wp_le (h₂ W₂ s₂ _ _ _ r₂ ⟨_, _, rfl, Rep.os, _, _, rfl, p₂, rfl⟩) l₂
theorem ev_range3 {a b e : Int} (he : 0 < e) (hs : e < 1000) (h : P (.rng a b e) st) : EVN G c (callV (.type "range")) [.int a, .int b, .int e] st P X := by
  intro W s h₀ m vs hr hv
  refine Classical.byContradiction fun hng => ?_
  obtain ⟨_, _, rfl, ⟨_, rfl⟩, _, _, rfl, ⟨_, rfl⟩, _, _, rfl, ⟨_, rfl⟩, rfl⟩ := hv
  refine hng ?_
  clear hng
  refine call_range_3 (Int.ne_of_gt he) ?_ (.inl (PyProof.noPylong_small (by lia)))
  exact ⟨newW W _ _, st, .rng a b e, h₀, m, newW_le, hr.newObj _ (hr.fr.push _) (News.push hr.fr hr.news _), ⟨_, _, _, _, rfl, .head _⟩, h⟩
end

def loopK (next : St → Prop) (P : KF) : KF
  | .next, st => next st
  | .cont, st => next st
  | .brk, st => P .next st
  | .ret d, st => P (.ret d) st
/-- a turn's end -/
theorem turn_end {G : Gl} {c : Ac} {st : St} {W₀ W : Wd} {s : Shared} {h₀ : Heap} {m : Str → Option Value} {f : Flow} {af : AF} {P : KF} {next : St → Prop} {R : Flow → Shared → Prop} (l : W₀.Le W) (r : Rel G c W st h₀ m s) (rf : RepF G.base W f af) (h : loopK next P af st)
    (go : next st → R .next s ∧ R .cont s) (hb : QP RepF G c W₀ P .next s → R .brk s) (hr : ∀ v, QP RepF G c W₀ P (.ret v) s → R (.ret v) s) : R f s := by
  cases af with
  | next => cases rf; exact (go h).1
  | cont => cases rf; exact (go h).2
  | brk => cases rf; exact hb (rep_done (af := .next) l r rfl h)
  | ret d => obtain ⟨v, rfl, hv⟩ := rf; exact hr v (rep_done (af := .ret d) l r ⟨v, rfl, hv⟩ h)
theorem as_while {G : Gl} {c : Ac} {st : St} {X : XPost} {P : KF} {t : Expr} {body : List Stmt} {pos : Pos} {env : Env} (I : Nat → St → Prop)
    (turn : ∀ n st₁, I n st₁ → AB G c (isTrue t env (eval t env)) st₁ (fun b st₂ => (b = true → AS G c (execs body env) st₂ (loopK (fun st₃ => ∃ k, k < n ∧ I k st₃) P) NoX) ∧ (b = false → P .next st₂)) NoX)
    (n : Nat) (h : I n st) : AS G c (exec (.While t body [] pos) env) st P X := by
  intro W s h₀ m hr
  refine wpAny_While (codeAny_whileLoop (fun k s' => ∃ W' st' h₀' m', W.Le W' ∧ Rel G c W' st' h₀' m' s' ∧ I k st') ?_ n ⟨W, st, h₀, m, .refl W, hr, h⟩)
  rintro k s' hj2
  refine Classical.byContradiction fun hng => ?_
  obtain ⟨W', st', h₀', m', l', r', hi⟩ := hj2
  refine hng ?_
  clear hng
  refine (turn k st' hi).step l' r' (fun e s x => (xp_no x).elim) fun W₁ st₁ d _ _ v s₁ l₁ _ r₁ p₁ h₁ => ?_
  obtain rfl : v = d := p₁
  cases v with
  | false => exact wpAny_execs_nil (rep_done (af := .next) l₁ r₁ rfl (h₁.2 rfl))
  | true =>
    refine (h₁.1 rfl).step l₁ r₁ (fun e s x => (xp_no x).elim) fun W₂ st₂ af _ _ f s₂ l₂ _ r₂ p₂ h₂ => ?_
    have go : (∃ j, j < k ∧ I j st₂) → ∃ j, j < k ∧ ∃ W' st' h₀' m', W.Le W' ∧ Rel G c W' st' h₀' m' s₂ ∧ I j st' := fun ⟨j, hj, hI⟩ => ⟨j, hj, W₂, st₂, _, _, l₂, r₂, hI⟩
    exact turn_end (R := fun f s => match f with | .next => ∃ j, j < k ∧ ∃ W' st' h₀' m', W.Le W' ∧ Rel G c W' st' h₀' m' s ∧ I j st' | .cont => ∃ j, j < k ∧ ∃ W' st' h₀' m', W.Le W' ∧ Rel G c W' st' h₀' m' s ∧ I j st' | .brk => QP RepF G c W P .next s | .ret v => QP RepF G c W P (.ret v) s) l₂ r₂ p₂ h₂ (fun q => ⟨go q, go q⟩) id fun _ q => q
/-- what an iterator does -/
structure Iter (G : Gl) (c : Ac) (I : Addr) (IT : Nat → Wd → Heap → Prop) (cur : Nat → St → Option D) : Prop where
  frame : ∀ i W W' h h', IT i W h → h'.get? I = h.get? I → W.Sub W' → IT i W' h'
  there : ∀ i W h, IT i W h → ∃ o, h.get? I = some o ∧ (∀ es n, o.data ≠ .dict es n) ∧ o.cls ≠ .type "tuple" ∧ o.cls ≠ .type "range"
  next : ∀ i W st h₀ m (s : Shared) d, Rel G c W st h₀ m s → IT i W s.heap → cur i st = some d → ∀ (Q : Option Value → Shared → Prop) (E : Value → Shared → Prop),
    (∀ v h' tk, Rep G.base W v d → IT (i + 1) W h' → (∀ b o, b ≠ I → s.heap.get? b = some o → h'.get? b = some o) → Q (some v) { s with heap := h', toks := tk }) → wpAny (model G.prog G.w) c.A (pyNext (.ref I)) Q E s
  stop : ∀ i W st h₀ m (s : Shared), Rel G c W st h₀ m s → IT i W s.heap → cur i st = Option.none → ∀ (Q : Option Value → Shared → Prop) (E : Value → Shared → Prop),
    (∀ h' tk, (∀ b o, b ≠ I → s.heap.get? b = some o → h'.get? b = some o) → Q Option.none { s with heap := h', toks := tk }) → wpAny (model G.prog G.w) c.A (pyNext (.ref I)) Q E s
section
variable {G : Gl} {c : Ac} {W : Wd} {st : St} {h₀ : Heap} {m : Str → Option Value} {s : Shared}
theorem Rel.moved (h : Rel G c W st h₀ m s) {I : Addr} {h' : Heap} (tk : Nat) (hk : ∀ b o, b ≠ I → s.heap.get? b = some o → h'.get? b = some o)
    (hN : ∀ p ∈ W.N, p.1 ≠ I) (hI : h₀.get? I = none) (hL : I ≠ c.L) : Rel G c W st h₀ m { s with heap := h', toks := tk } := by
  refine Classical.byContradiction fun hng => ?_
  obtain ⟨oL, es, ep, e1, e2⟩ := h.fr.ns
  refine hng ?_
  clear hng
  exact h.rest ⟨⟨oL, es, ep, hk _ _ (fun q => hL q.symm) e1, e2⟩, fun b o e => hk b o (fun q => by rw [q, hI] at e; cases e) (h.fr.keep b o e), h.fr.above⟩ (fun p hp => ⟨hk _ _ (hN p hp) (h.news p hp).1, (h.news p hp).2⟩) tk
theorem Rel.pushed (h : Rel G c W st h₀ m s) (o : Obj) : Rel G c W st h₀ m { s with heap := s.heap.push o } :=
  h.rest (h.fr.push o) (fun p hp => ⟨Heap.get?_push_of_some _ (h.news p hp).1, (h.news p hp).2⟩) s.toks
/-- an object that falls out of the ledger -/
theorem Rel.forget (r : Rel G c W st h₀ m s) (hcp : c.cp = Option.none) {I : Addr} {oI : Obj} (hin : (I, oI) ∈ W.N) (hH : ¬ Held oI) (hρ : I ∉ W.ρ) :
    Rel G c ⟨W.N.filter (fun p => p.1 != I), W.ρ⟩ st h₀ m s ∧ W.Sub ⟨W.N.filter (fun p => p.1 != I), W.ρ⟩ := by
  have hz := r.news _ hin
  have sub : W.Sub ⟨W.N.filter (fun p => p.1 != I), W.ρ⟩ := ⟨fun _ _ q => q, fun p hp hq => List.mem_filter.mpr ⟨hp, bne_iff_ne.mpr fun e => by
    have := (r.news p hp).1
    rw [e, hz.1] at this
    have this : oI = p.2 := Option.some.inj this
    exact hH (this ▸ hq)⟩⟩
  refine ⟨⟨r.gnd, ⟨by rw [hcp]; exact CpOk.no, fun x d e => let ⟨u, h1, h2⟩ := r.wok.loc x d e; ⟨u, h1, Rep.sub sub d h2⟩, r.wok.len, r.wok.nodup, fun j es e => ?_⟩, r.fr, fun p hp => r.news p (List.mem_filter.mp hp).1, r.gens, r.os⟩, sub⟩
  refine Classical.byContradiction fun hng => ?_
  obtain ⟨b, ws, n, h1, h2, h3⟩ := r.wok.lists j es e
  refine hng ?_
  clear hng
  refine ⟨b, ws, n, h1, List.mem_filter.mpr ⟨h2, bne_iff_ne.mpr fun q => ?_⟩, Reps.sub sub es h3⟩
  exact hρ (q ▸ List.mem_of_getElem? h1)
end
theorem for_core {G : Gl} {c : Ac} {X : XPost} {P : KF} {x : Str} {px : Pos} {body : List Stmt} {I : Addr} {IT : Nat → Wd → Heap → Prop} {cur : Nat → St → Option D} (it : Iter G c I IT cur)
    (Inv : Nat → St → Prop) (B : Nat) (bnd : ∀ i st d, Inv i st → cur i st = some d → i < B)
    (turn : ∀ i st d, Inv i st → cur i st = some d → AS G c (execs body c.env) (st.put x d) (loopK (Inv (i + 1)) P) NoX)
    (done : ∀ i st, Inv i st → cur i st = Option.none → P .next st)
    (hl : c.env.kindOf x = some .local) (hcp : c.cp = Option.none)
    {W₀ W : Wd} {st : St} {h₀ : Heap} {m : Str → Option Value} {s : Shared} (hle : W₀.Le W) (hr : Rel G c W st h₀ m s) (hN : ∀ p ∈ W.N, p.1 ≠ I) (hρ : I ∉ W.ρ) (hI : h₀.get? I = none) (hL : I ≠ c.L) (hit : IT 0 W s.heap) (h0 : Inv 0 st) :
    codeAny (model G.prog G.w) c.A (.forLoop (.Name x px) (.ref I) body [] c.env) (fun r s' => match r with | .ok f => QP RepF G c W₀ P f s' | .error e => cameBackBy (model G.prog G.w) c.A c.env (XP G c W₀ X) e s') s := by
  let J : Nat → Shared → Prop := fun n s' => ∃ i W' st' h₀' m', n = B - i ∧ W₀.Le W' ∧ Rel G c W' st' h₀' m' s' ∧ (∀ p ∈ W'.N, p.1 ≠ I) ∧ I ∉ W'.ρ ∧ h₀'.get? I = none ∧ IT i W' s'.heap ∧ Inv i st'
  refine codeAny_forLoop J ?_ (B - 0) ⟨0, W, st, h₀, m, rfl, hle, hr, hN, hρ, hI, hit, h0⟩
  rintro n s' hj2
  refine Classical.byContradiction fun hng => ?_
  obtain ⟨i, W', st', h₀', m', rfl, l', r', hN', hρ', hI', hit', hi'⟩ := hj2
  refine hng ?_
  clear hng
  cases hc : cur i st' with
  | none => exact it.stop i W' st' h₀' m' s' r' hit' hc _ _ fun h' tk hk => wpAny_execs_nil (rep_done (af := .next) l' (r'.moved tk hk hN' hI' hL) rfl (done i st' hi' hc))
  | some d =>
    refine it.next i W' st' h₀' m' s' d r' hit' hc _ _ fun v h' tk hv hit₁ hk => ?_
    have r₁ := r'.moved tk hk hN' hI' hL
    refine Classical.byContradiction fun hng => ?_
    obtain ⟨oI, ho, hnd, hnt, hnr⟩ := it.there _ _ _ hit₁
    refine hng ?_
    clear hng
    have r₂ : Rel G c (newW W' I oI) st' h₀' m' { s' with heap := h', toks := tk } := r₁.newObj tk r₁.fr (News.more r₁.fr r₁.news ho hnd hI')
    refine wpAny_assign_Name (wpAny_mono (au_store (X := NoX) (P := fun _ st₂ => st₂ = st'.put x d) rfl hl _ _ _ _ v r₂ (hv.mono newW_le)) (fun _ s₂ q => ?_) fun _ _ q => (xp_no q).elim)
    refine Classical.byContradiction fun hng => ?_
    obtain ⟨W₂, st₂, _, h₂, m₂, l₂, r₂', _, rfl⟩ := q
    refine hng ?_
    clear hng
    refine (turn i st' d hi' hc).step l₂ r₂' (fun e s x => (xp_no x).elim) fun W₃ st₃ af h₃ m₃ f s₃ l₃ _ r₃ p₃ q₃ => ?_
    have hin := stay_out l₃ (.head _) hρ'
    have go : Inv (i + 1) st₃ → ∃ m₀, m₀ < B - i ∧ J m₀ s₃ := by
      intro hinv
      have hb := bnd i st' d hi' hc
      have hz := r₃.news _ hin.1
      obtain ⟨r₄, sub⟩ := r₃.forget hcp hin.1 (notHeld hnt hnr) hin.2
      have L3 : W₀.Le W₃ := (l'.trans newW_le).trans l₃
      refine ⟨B - (i + 1), by lia, i + 1, ⟨W₃.N.filter (fun p => p.1 != I), W₃.ρ⟩, st₃, h₃, m₃, rfl, ⟨L3.rho, fun p hp hq => List.mem_filter.mpr ⟨L3.keep p hp hq, bne_iff_ne.mpr (hN' p (l'.keep p hp hq))⟩, L3.new⟩, r₄, fun p hp => bne_iff_ne.mp (List.mem_filter.mp hp).2, hin.2, hz.2.2, ?_, hinv⟩
      refine it.frame _ W' _ _ _ hit₁ (hz.1.trans ho.symm) ⟨fun k a q => l₃.rho _ _ q, fun p hp hq => ?_⟩
      exact List.mem_filter.mpr ⟨l₃.sub.keep p (.tail _ hp) hq, bne_iff_ne.mpr (hN' p hp)⟩
    exact turn_end (R := fun f s => match f with | .next => ∃ j, j < B - i ∧ J j s | .cont => ∃ j, j < B - i ∧ J j s | .brk => QP RepF G c W₀ P .next s | .ret v => QP RepF G c W₀ P (.ret v) s) ((l'.trans newW_le).trans l₃) r₃ p₃ q₃ (fun q => ⟨go q, go q⟩) id fun _ q => q
theorem iter_lst {G : Gl} {c : Ac} {k : Nat} {I ax : Addr} (hh : c.A.handled = none) : Iter G c I (fun i W h => W.ρ[k]? = some ax ∧ h.IsListIter I ax i) (fun i st => (st.ls[k]?).bind (·[i]?)) where
  frame := fun i W W' h h' q e l => ⟨l.rho _ _ q.1, let ⟨o, ho, r⟩ := q.2; ⟨o, e.trans ho, r⟩⟩
  there := fun i W h q => by
    refine Classical.byContradiction fun hng => ?_
    obtain ⟨o, ho, hc, hd⟩ := q.2
    refine hng ?_
    clear hng
    exact ⟨o, ho, (fun es n e => by (rw [hd] at e; cases e)), (by rw [hc]; decide), (by rw [hc]; decide)⟩
  next := by
    intro i W st h₀ m s d hr q hc Q E hQ
    rw [Option.bind_eq_some_iff] at hc
    refine Classical.byContradiction fun hng => ?_
    obtain ⟨ds, hk, hi⟩ := hc
    obtain ⟨vs, n, _, hl, h3⟩ := hr.isLst hk q.1
    obtain ⟨v, hv, hrep⟩ := h3.get hi
    refine hng ?_
    clear hng
    exact wpAny_pyNext_list_item q.2 hl (by simpa using hv) fun h' hit hs => hQ v h' s.toks hrep ⟨q.1, hit⟩ fun b o hb e => (hs.2 b hb).trans e
  stop := by
    intro i W st h₀ m s hr q hc Q E hQ
    refine Classical.byContradiction fun hng => ?_
    obtain ⟨ds, vs, n, hk, h2, h3⟩ := hr.wok.atK q.1
    refine hng ?_
    clear hng
    rw [hk] at hc
    have hi : ds[i]? = Option.none := hc
    have hl : s.heap.IsList ax vs.toArray := ⟨_, (hr.news _ h2).1, rfl, n, rfl⟩
    refine wpAny_pyNext_list_end hh q.2 hl ?_ fun h' hs => hQ h' s.toks fun b o hb e => hs b o hb e
    rw [List.getElem?_toArray, List.getElem?_eq_none_iff, h3.length]
    exact List.getElem?_eq_none_iff.mp hi
theorem iter_rng {G : Gl} {c : Ac} {a e : Int} {n : Nat} {I : Addr} (hh : c.A.handled = none) : Iter G c I (fun i _ h => IsRangeIter h I (a + (i : Nat) * e) ((n : Int) - (i : Nat)) e) (fun i _ => if i < n then some (.int (a + i * e)) else none) where
  frame := fun i W W' h h' q e _ => e.trans q
  there := fun i W h q => ⟨_, q, (fun es n e => by cases e), (show Value.type "range_iterator" ≠ Value.type "tuple" by decide), (show Value.type "range_iterator" ≠ Value.type "range" by decide)⟩
  next := by
    intro i W st h₀ m s d hr q hc Q E hQ
    by_cases hi : i < n
    · rw [if_pos hi] at hc
      cases hc
      refine (Walks.range hh I a e n).item i s Q E hi q fun v h' tk hv hst hk => ?_
      obtain ⟨t, rfl⟩ := hv
      exact hQ _ h' tk Rep.oi hst fun b o hb e => hk b o (by simpa using hb) e
    · rw [if_neg hi] at hc
      cases hc
  stop := by
    intro i W st h₀ m s hr q hc Q E hQ
    have hi : ¬ i < n := fun hi => by rw [if_pos hi] at hc; cases hc
    exact wpAny_pyNext_range_end hh q (by lia) fun h' hs => hQ h' s.toks fun b o hb e => hs b o hb e
section
variable {G : Gl} {c : Ac} {st : St} {X : XPost} {P : KF} {x : Str} {px pos : Pos} {iter : Expr} {body : List Stmt}
theorem for_rng {a b e : Int} {n : Nat} (Inv : Nat → St → Prop) (h : AE G c (eval iter c.env) st (fun d st₁ => d = .rng a b e ∧ st₁ = st) X) (hs : ∀ env x, foldedSetIterable iter env x = pure x) (hn : Builtin.Range.rangeSize a b e = n) (hsm : Builtin.Range.small a b e = true)
    (turn : ∀ i st', Inv i st' → i < n → AS G c (execs body c.env) (st'.put x (.int (a + i * e))) (loopK (Inv (i + 1)) P) NoX)
    (done : ∀ st', Inv n st' → P .next st') (h0 : Inv 0 st) (hh : c.A.handled = none) (hl : c.env.kindOf x = some .local) (hcp : c.cp = Option.none) : AS G c (exec (.For (.Name x px) iter body [] pos) c.env) st P X := by
  intro W s h₀ m hr
  refine wpAny_For (h.step (.refl W) hr (fun _ _ x => x) fun W₁ st₁ d h₁' m₁ v s₁ l₁ _ r₁ p₁ h₁ => ?_) (hs _)
  refine Classical.byContradiction fun hng => ?_
  obtain ⟨rfl, rfl⟩ := h₁
  obtain ⟨r, t, u, y, rfl, hm⟩ := p₁
  obtain ⟨f1, f2, f3, f4⟩ := r₁.fresh
  refine hng ?_
  clear hng
  refine wpAny_pyIter_range (r₁.news _ hm).1 hsm ?_
  have lt : ∀ {i : Nat} {d : D}, (if i < n then some (D.int (a + i * e)) else none) = some d → i < n ∧ d = .int (a + i * e) := fun {i d} hc => by
    by_cases q : i < n
    · rw [if_pos q] at hc; cases hc; exact ⟨q, rfl⟩
    · rw [if_neg q] at hc; cases hc
  refine for_core (iter_rng (a := a) (e := e) (n := n) hh) (fun i st' => Inv i st' ∧ i ≤ n) n (fun i st' d hi hc => (lt hc).1) (fun i st' d hi hc => ?_) (fun i st' hi hc => ?_) hl hcp l₁ (r₁.pushed _) f1 f2 f3 f4 ?_ ⟨h0, Nat.zero_le _⟩
  · obtain ⟨hlt, rfl⟩ := lt hc
    refine (turn i st' hi.1 hlt).mp fun af st₂ q => ?_
    cases af with
    | next => exact ⟨q, hlt⟩
    | cont => exact ⟨q, hlt⟩
    | _ => exact q
  · have hq : ¬ i < n := fun q => by rw [if_pos q] at hc; cases hc
    obtain rfl : i = n := by lia
    exact done st' hi.1
  · have := Heap.get?_push_size s₁.heap (o := { cls := .type "range_iterator", data := .fields #[rawInt a, rawInt (Builtin.Range.rangeSize a b e), rawInt e] }) rfl
    rw [hn] at this
    simpa [IsRangeIter, hn] using this
end

/-! map, walked by all -/
theorem mp_owner : Manifest.owners.lookup (String.ofList ['p', 'a', 'm'].reverse) = some Manifest.sig_map := by kernel_rfl
theorem mp_init : Slot "map" "__init__" "object.__init__" :=
  .of (owner := "object") (n := "__init__") (by rw [typeLookup_type, builtinLookup_eq_fast]; kernel_rfl) (by decide +kernel) (by decide +kernel) (by decide +kernel)
    (by first | exact .inl (by decide +kernel) | exact .inr (by decide +kernel)) (by rw [isSubtype_type]; kernel_rfl)
theorem mp_iter : Slot "map" "__iter__" "map.__iter__" :=
  .of (owner := "map") (n := "__iter__") (by rw [typeLookup_type, builtinLookup_eq_fast]; kernel_rfl) (by decide +kernel) (by decide +kernel) (by decide +kernel)
    (by first | exact .inl (by decide +kernel) | exact .inr (by decide +kernel)) (by rw [isSubtype_type]; kernel_rfl)
theorem mp_next : Slot "map" "__next__" "map.__next__" :=
  .of (owner := "map") (n := "__next__") (by rw [typeLookup_type, builtinLookup_eq_fast]; kernel_rfl) (by decide +kernel) (by decide +kernel) (by decide +kernel)
    (by first | exact .inl (by decide +kernel) | exact .inr (by decide +kernel)) (by rw [isSubtype_type]; kernel_rfl)
theorem mp_args_iter (a : Value) : argsOk "map.__iter__" ⟨[a], []⟩ := by
  unfold argsOk; rw [signature?_of (id := "map.__iter__") (n := ['_', '_', 'r', 'e', 't', 'i', '_', '_']) (o := ['p', 'a', 'm']) (by kernel_rfl) mp_owner]; kernel_rfl
theorem mp_args_next (a : Value) : argsOk "map.__next__" ⟨[a], []⟩ := by
  unfold argsOk; rw [signature?_of (id := "map.__next__") (n := ['_', '_', 't', 'x', 'e', 'n', '_', '_']) (o := ['p', 'a', 'm']) (by kernel_rfl) mp_owner]; kernel_rfl
theorem mp_entry_iter : entryFor table "map.__iter__" = some Builtin.«dict_keyiterator.__iter__» :=
  entryFor_alias (id' := "dict_keyiterator.__iter__") (by kernel_rfl) (by first | rfl | decide +kernel | (unfold String.splitOn; simp +decide [String.splitOnAux])) (by decide +kernel) (by kernel_rfl)
theorem mp_entry_next : entryFor table "map.__next__" = some Builtin.«map.__next__» := entryFor_of_tree (by kernel_rfl)
theorem mp_entry_new : entryFor table "map.__new__" = some Builtin.«map.__new__» := entryFor_of_tree (by kernel_rfl)
theorem mp_mro : mroOf (.type "map") = pure [.type "map", .type "object"] := by rw [mroOf_type]; kernel_rfl
theorem mp_look : typeLookup (.type "map") "__new__" = pure (some (.builtin "map.__new__")) := by rw [typeLookup_type, builtinLookup_eq_fast]; kernel_rfl
theorem mp_called : TypeCalled "map" "map.__new__" "object.__init__" :=
  ⟨by decide +kernel, by decide +kernel, ⟨_, _, mp_mro⟩, madeBy_type mp_mro mp_look (by decide +kernel), by decide +kernel, by rw [isSubtype_type]; kernel_rfl, mp_init⟩
theorem mp_tc (a b : Value) : checkTypeCall "map" ⟨[a, b], []⟩ = pure () := by kernel_rfl
theorem mp_nc (a b : Value) : checkBuiltinCall "map.__new__" ⟨[.type "map", a, b], []⟩ = pure () := by kernel_rfl
theorem mp_oi (a b c : Value) : argsOk "object.__init__" ⟨[a, b, c], []⟩ := by
  unfold argsOk; rw [signature?_of (id := "object.__init__") (n := ['_', '_', 't', 'i', 'n', 'i', '_', '_']) (o := ['t', 'c', 'e', 'j', 'b', 'o']) (by kernel_rfl) F.owner_object]; kernel_rfl
theorem mp_sub : isSubtype (.type "map") (.type "map") = pure true := by rw [isSubtype_type]; kernel_rfl
abbrev mapO (T f : Addr) : Obj := { cls := .type "map", data := .fields #[.ref T, .ref f] }
abbrev asItO (x : Str) (t : Tok) (i : Nat) : Obj := { cls := .type "str_ascii_iterator", data := .fields #[.str x t, .int i 0] }
abbrev mapH (h : Heap) (f : Addr) (x : Str) (t : Tok) : Heap := ((h.push (asItO x t 0)).push (tupO [.ref h.objs.size] 0)).push (mapO (h.push (asItO x t 0)).objs.size f)
theorem mp_cls (a b : Value) : Builtin.SmallTypes.newClass "map" ⟨[.type "map", a, b], []⟩ = pure (.type "map", [a, b]) := by
  simp only [Builtin.SmallTypes.newClass, mp_sub]
  rfl
theorem mp_new {f : Addr} {x : Str} {t : Tok} (hx : x.cps.all (· < 128) = true) : Meets (Builtin.«map.__new__» ⟨[.type "map", .ref f, .str x t], []⟩) (fun _ R s =>
    R (.ok (.ret (.ref ((s.heap.push (asItO x t 0)).push (tupO [.ref s.heap.objs.size] 0)).objs.size))) { s with heap := mapH s.heap f x t }) :=
  .of_wp fun prog w A R s h => by
    unfold Builtin.«map.__new__»
    refine wpAny_bind (wpAny_of_eq (mp_cls _ _) ?_)
    refine wpAny_bind (wpAny_of_eq (show Builtin.SmallTypes.refuseKeywords "map" (.type "map") ⟨[.type "map", .ref f, .str x t], []⟩ = pure () from rfl) ?_)
    rw [if_neg (show ¬ [Value.ref f, Value.str x t].length < 2 from Nat.lt_irrefl 2)]
    show wpAny _ _ (Builtin.SmallTypes.iterAll [.str x t] >>= _) _ _ _
    refine wpAny_bind ?_
    unfold Builtin.SmallTypes.iterAll
    simp only [List.forIn_cons, List.forIn_nil]
    refine wpAny_bind (wpAny_bind (wpAny_bind (wpAny_holding (wpAny_pyIter_ascii hx (wpAny_pure (wpAny_pure (wpAny_pure ?_)))))))
    refine wpAny_bind (wpAny_newTuple ?_ (Nat.le_of_ble_eq_true rfl))
    unfold Builtin.SmallTypes.newRecord
    refine wpAny_bind (wpAny_newObj_type ?_)
    exact wpAny_pure ⟨_, rfl, h⟩

/-- the frame as seen from within two built-in calls -/
abbrev Ac.inn (c : Ac) (r : Nat) : Ac := { c with A₀ := { c.A₀ with units := c.A₀.units + 2 }, room := r }
theorem Gnd.inn {G : Gl} {c : Ac} {tn : Bool} {h₀ : Heap} {r : Nat} (h : Gnd G c tn h₀) (hr : r + 1 ≤ c.room) : Gnd G (c.inn r) tn h₀ :=
  ⟨h.turn, h.same, ⟨h.below.stack, h.below.stays, h.below.frames⟩, h.kin, h.top, h.kb, h.tb, h.dicts, h.fn, by have := h.dep; show c.A₀.depth + 1 + r < _; lia, by have := h.unt; show c.A₀.units + 2 + 3 + 8 * r + 80 < _; lia⟩
theorem Gnd.out {G : Gl} {c : Ac} {tn tn' : Bool} {h₀ h₁ : Heap} {r : Nat} (h : Gnd G (c.inn r) tn h₀) (h' : Gnd G c tn' h₁) : Gnd G c tn h₀ :=
  ⟨h.turn, h.same, ⟨h.below.stack, h.below.stays, h.below.frames⟩, h.kin, h.top, h.kb, h.tb, h.dicts, h.fn, h'.dep, h'.unt⟩
theorem map_ne_list : Value.type "map" ≠ Value.type "list" := by decide
section
variable {G : Gl} {c : Ac} {st : St} {M T it f : Addr} {l : List Nat} {t : Tok} {r : Nat} {W₀ : Wd} {R : Result → Shared → Prop}
theorem as_it {x : Str} {t : Tok} {i : Nat} {h : Heap} {a : Addr} : h.IsStrIter a "str_ascii_iterator" x t i → ∃ o, h.get? a = some o ∧ o.cls = .type "str_ascii_iterator" ∧ ∀ es n, o.data ≠ .dict es n := by
  rintro hj0
  refine Classical.byContradiction fun hng => ?_
  obtain ⟨o, ho, hc, hd⟩ := hj0
  refine hng ?_
  clear hng
  exact ⟨o, ho, hc, fun es n e => by rw [hd] at e; cases e⟩
theorem all_loop (hh : c.A.handled = none) (hcp : c.cp = Option.none) (hroom : r + 1 ≤ c.room) (hf : ∀ ch ∈ l, EVN G (c.inn r) (callV (.ref f)) [.str (tx [ch])] st (fun d st' => d = .bool true ∧ st' = st) NoX)
    (fin : ∀ W h₀ m s, W₀.Le W → Rel G c W st h₀ m s → R (.ok (.ret (.bool true))) s) : ∀ (k i : Nat) W s h₀ m, l.length = i + k → W₀.Le W → Rel G c W st h₀ m s → (T, tupO [.ref it] 0) ∈ W.N → (M, mapO T f) ∈ W.N → (∀ p ∈ W₀.N, p.1 ≠ it) →
      (∀ p ∈ W.N, p.1 ≠ it) → it ∉ W.ρ → h₀.get? it = none → it ≠ c.L → s.heap.IsStrIter it "str_ascii_iterator" (tx l) t i → codeAny (model G.prog G.w) c.A (.builtin "all.loop" ⟨[.ref M], []⟩) R s := by
  intro k
  induction k with
  | zero =>
    intro i W s h₀ m hk hl hr hT hM hN₀ hN hρ hI hL hit
    refine codeAny_builtin F.entry_all_loop ?_
    rw [Around.under_plainId F.plain_all_loop _]
    show wpAny _ c.A.in1 (pyNext (.ref M) >>= _) _ _ s
    have hty : s.TypeIs (.ref M) "map" := ⟨_, (hr.news _ hM).1, rfl⟩
    refine wpAny_bind ?_
    unfold pyNext
    refine wpAny_bind (wpAny_attempt (wpAny_callSpecial?_slot (name := Str.ofString "__next__") hty mp_next (wpAny_call_entry mp_next hty mp_entry_next ?_ (mp_args_next _))))
    show wpAny _ _ (field (.ref M) 0 >>= _) _ _ s
    refine wpAny_bind (wpAny_field (hr.news _ hM).1 rfl (x := .ref T) rfl ?_)
    refine wpAny_bind (wpAny_seqItems (hr.news _ hT).1 rfl ?_)
    simp only [List.forIn_toArray, List.forIn_cons, List.forIn_nil]
    refine wpAny_bind (wpAny_bind (wpAny_bind (wpAny_holding (wpAny_nextOf_ascii_end hh hit (by rw [List.getElem?_toArray, List.getElem?_eq_none_iff]; lia) fun h' e hx he => ?_))))
    refine Classical.byContradiction fun hng => ?_
    obtain ⟨o, ho, hc⟩ := he
    refine hng ?_
    clear hng
    refine wpAny_bind (wpAny_isInstance (T := "StopIteration") (b := true) ⟨o, ho, hc⟩ isSubtype_stop ?_)
    refine wpAny_pure (wpAny_bind (wpAny_rule (wpAny_pure ?_)))
    exact fin W h₀ m _ hl (hr.moved s.toks (fun b o hb e => hx b o hb e) hN hI hL)
  | succ k ih =>
    intro i W s h₀ m hk hl hr hT hM hN₀ hN hρ hI hL hit
    refine codeAny_builtin F.entry_all_loop ?_
    rw [Around.under_plainId F.plain_all_loop _]
    show wpAny _ c.A.in1 (pyNext (.ref M) >>= _) _ _ s
    have hty : s.TypeIs (.ref M) "map" := ⟨_, (hr.news _ hM).1, rfl⟩
    obtain ⟨ch, hch⟩ : ∃ ch, l[i]? = some ch := ⟨_, List.getElem?_eq_getElem (by lia)⟩
    refine wpAny_bind ?_
    unfold pyNext
    refine wpAny_bind (wpAny_attempt (wpAny_callSpecial?_slot (name := Str.ofString "__next__") hty mp_next (wpAny_call_entry mp_next hty mp_entry_next ?_ (mp_args_next _))))
    show wpAny _ _ (field (.ref M) 0 >>= _) _ _ s
    refine wpAny_bind (wpAny_field (hr.news _ hM).1 rfl (x := .ref T) rfl ?_)
    refine wpAny_bind (wpAny_seqItems (hr.news _ hT).1 rfl ?_)
    simp only [List.forIn_toArray, List.forIn_cons, List.forIn_nil]
    refine wpAny_bind (wpAny_bind (wpAny_bind (wpAny_holding (wpAny_nextOf_ascii_item hit (by rw [List.getElem?_toArray]; exact hch) fun h' hit' hs => wpAny_pure (wpAny_pure ?_)))))
    have r₁ := hr.moved (s.toks + 1) (fun b o hb e => (hs.2 b hb).trans e) hN hI hL
    refine Classical.byContradiction fun hng => ?_
    obtain ⟨o, ho, hoc, hod⟩ := as_it hit'
    refine hng ?_
    clear hng
    have r₂ : Rel G c (newW W it o) st h₀ m { s with heap := h', toks := s.toks + 1 } := r₁.newObj (s.toks + 1) r₁.fr (News.more r₁.fr r₁.news ho hod hI)
    have r₃ : Rel G (c.inn r) (newW W it o) st h₀ m { s with heap := h', toks := s.toks + 1 } := ⟨r₂.gnd.inn hroom, ⟨by rw [hcp]; exact CpOk.no, r₂.wok.loc, r₂.wok.len, r₂.wok.nodup, r₂.wok.lists⟩, r₂.fr, r₂.news, r₂.gens, r₂.os⟩
    refine wpAny_bind (wpAny_field (r₁.news _ hM).1 rfl (x := .ref f) rfl ?_)
    refine wpAny_bind (wpAny_holding ?_)
    refine wpAny_mono (hf ch (List.mem_of_getElem? hch) _ _ _ _ [.str (tx [ch]) s.toks] r₃ ⟨_, _, rfl, Rep.os, rfl⟩) (fun v s₄ q => ?_) fun _ _ x => (xp_no x).elim
    refine Classical.byContradiction fun hng => ?_
    obtain ⟨W₄, st₄, d, h₄, m₄, l₄, r₄, rp, rfl, rfl⟩ := q
    refine hng ?_
    clear hng
    obtain rfl : v = .bool true := rp
    have r₅ : Rel G c W₄ st₄ h₄ m₄ s₄ := ⟨r₄.gnd.out r₂.gnd, ⟨by rw [hcp]; exact CpOk.no, r₄.wok.loc, r₄.wok.len, r₄.wok.nodup, r₄.wok.lists⟩, r₄.fr, r₄.news, r₄.gens, r₄.os⟩
    refine wpAny_bind (wpAny_letGo (wpAny_pure ⟨_, rfl, wpAny_pure ?_⟩))
    refine wpAny_bind (wpAny_holding (wpAny_truthy_bool (wpAny_bind (wpAny_letGo (wpAny_pure ⟨plainId_quiet F.plain_all_loop _, ?_⟩)))))
    have hin := stay_out l₄ (.head _) hρ
    obtain ⟨r₆, sub⟩ := r₅.forget hcp hin.1 (notHeld (by rw [hoc]; decide) (by rw [hoc]; decide)) hin.2
    have L3 : W₀.Le W₄ := (hl.trans newW_le).trans l₄
    have keep : ∀ p ∈ W.N, p.2.cls ≠ .type "list" → p ∈ W₄.N.filter (fun p => p.1 != it) := fun p hp hq => List.mem_filter.mpr ⟨l₄.keep p (.tail _ hp) (.inr hq), bne_iff_ne.mpr (hN p hp)⟩
    refine ih (i + 1) ⟨W₄.N.filter (fun p => p.1 != it), W₄.ρ⟩ s₄ h₄ m₄ (by lia) ⟨L3.rho, fun p hp hq => List.mem_filter.mpr ⟨L3.keep p hp hq, bne_iff_ne.mpr (hN₀ p hp)⟩, L3.new⟩ r₆ (keep _ hT tup_ne_list) (keep _ hM map_ne_list) hN₀ (fun p hp => bne_iff_ne.mp (List.mem_filter.mp hp).2) hin.2 (r₅.news _ hin.1).2.2 hL ?_
    refine Classical.byContradiction fun hng => ?_
    obtain ⟨o', ho', r'⟩ := hit'
    refine hng ?_
    clear hng
    rw [ho] at ho'
    cases ho'
    exact ⟨o, (r₅.news _ hin.1).1, r'⟩
/-- all(map(f, text)): each of the text's signs answers True -/
theorem wp_all {W : Wd} {h₀ : Heap} {m : Str → Option Value} {s : Shared} {P : KP} {X : XPost} (hh : c.A.handled = none) (hcp : c.cp = Option.none) (hroom : r + 1 ≤ c.room) (hf : ∀ ch ∈ l, EVN G (c.inn r) (callV (.ref f)) [.str (tx [ch])] st (fun d st' => d = .bool true ∧ st' = st) NoX)
    (hd : ∀ ch ∈ l, ch < 128) (hP : P (.bool true) st) (hr : Rel G c W st h₀ m s) : wpAny (model G.prog G.w) c.A (callV (.type "map") [.ref f, .str (tx l) t]) (fun v s' => wpAny (model G.prog G.w) c.A (callV (.builtin "all") [v]) (QP Rep G c W P) (XP G c W X) s') (XP G c W X) s := by
  have hx : (tx l).cps.all (· < 128) = true := by
    rw [List.all_toArray, List.all_eq_true]
    exact fun ch hc => decide_eq_true (hd ch hc)
  refine callType_new mp_called (by decide) (mp_tc _ _) (mp_nc _ _) (fun obj => mp_oi obj _ _) mp_entry_new (mp_new hx) ?_
  refine Classical.byContradiction fun hng => ?_
  obtain ⟨f1, f2, f3, f4⟩ := hr.fresh
  refine hng ?_
  clear hng
  have r₁ := hr.pushed (asItO (tx l) t 0)
  have z1 : (s.heap.push (asItO (tx l) t 0)).objs.size = s.heap.objs.size + 1 := Heap.size_push ..
  have r₂ := r₁.newObj (a := (s.heap.push (asItO (tx l) t 0)).objs.size) (o := tupO [.ref s.heap.objs.size] 0) s.toks (r₁.fr.push _) (News.push r₁.fr r₁.news _)
  have r₃ := r₂.newObj (a := ((s.heap.push (asItO (tx l) t 0)).push (tupO [.ref s.heap.objs.size] 0)).objs.size) (o := mapO (s.heap.push (asItO (tx l) t 0)).objs.size f) s.toks (r₂.fr.push _) (News.push r₂.fr r₂.news _)
  have z2 : ((s.heap.push (asItO (tx l) t 0)).push (tupO [.ref s.heap.objs.size] 0)).objs.size = s.heap.objs.size + 2 := by rw [Heap.size_push, z1]
  have le : W.Le (newW (newW W (s.heap.push (asItO (tx l) t 0)).objs.size (tupO [.ref s.heap.objs.size] 0)) ((s.heap.push (asItO (tx l) t 0)).push (tupO [.ref s.heap.objs.size] 0)).objs.size (mapO (s.heap.push (asItO (tx l) t 0)).objs.size f)) := newW_le.trans newW_le
  have hit : (mapH s.heap f (tx l) t).IsStrIter s.heap.objs.size "str_ascii_iterator" (tx l) t 0 := ⟨_, Heap.get?_push_of_some _ (Heap.get?_push_of_some _ (Heap.get?_push_size _ rfl)), rfl, rfl⟩
  have hty : Shared.TypeIs { s with heap := mapH s.heap f (tx l) t } (.ref ((s.heap.push (asItO (tx l) t 0)).push (tupO [.ref s.heap.objs.size] 0)).objs.size) "map" := ⟨_, (r₃.news _ (.head _)).1, rfl⟩
  refine ⟨hty, ?_⟩
  refine call_function_tree F.kind_all F.plain_all F.entry_all (F.args_all1 _) ?_
  unfold Builtin.«all»
  refine wpAny_bind (m := oneArg "all" _) (wpAny_pure ?_)
  refine wpAny_bind (wpAny_pyIter_slot hty mp_iter (wpAny_call_entry mp_iter hty mp_entry_iter (wpAny_pure ⟨_, rfl, "map", _, hty, mp_next.lookup, ?_⟩) (mp_args_iter _)))
  refine wpAny_pure ⟨plainId_quiet F.plain_all_loop _, ?_⟩
  refine all_loop (W₀ := W) hh hcp hroom hf (fun W' h' m' s' lw rw' => ⟨W', st, .bool true, h', m', lw, rw', rfl, hP⟩) l.length 0 _ _ h₀ m (Nat.zero_add _).symm le r₃ (.tail _ (.head _)) (.head _) f1 ?_ f2 f3 f4 hit
  intro p hp
  rcases List.mem_cons.mp hp with rfl | hp
  · exact fun q => absurd (z2.symm.trans q) (by lia)
  · rcases List.mem_cons.mp hp with rfl | hp
    · exact fun q => absurd (z1.symm.trans q) (by lia)
    · exact f1 p hp
theorem ae_all {xa xm xf : Str} {arg : Expr} {na nm nf p₁ p₂ : Pos} {P : KP} {X : XPost} (hA : nsIn G.K mainGlobals xa = some none) (bA : bootBuiltins xa = some (.builtin "all")) (hM : nsIn G.K mainGlobals xm = some none) (bM : bootBuiltins xm = some (.type "map")) (hF : nsIn G.K mainGlobals xf = some (some (.ref f)))
    (nA : xa ≠ "__name__") (nM : xm ≠ "__name__") (kA : c.env.kindOf xa = some .globalImplicit) (kM : c.env.kindOf xm = some .globalImplicit) (kF : c.env.kindOf xf = some .globalImplicit)
    (dA : (xa == ("__debug__" : Str)) = false) (dM : (xm == ("__debug__" : Str)) = false) (dF : (xf == ("__debug__" : Str)) = false) (fa : Fine arg)
    (hh : c.A.handled = none) (hcp : c.cp = Option.none) (hroom : r + 1 ≤ c.room)
    (h : AE G c (eval arg c.env) st (fun d st₁ => ∃ l, d = .str (tx l) ∧ (∀ ch ∈ l, ch < 128) ∧ (∀ ch ∈ l, EVN G (c.inn r) (callV (.ref f)) [.str (tx [ch])] st₁ (fun d st' => d = .bool true ∧ st' = st₁) NoX) ∧ P (.bool true) st₁) X) :
    AE G c (eval (.Call (.Name xa na) [.Call (.Name xm nm) [.Name xf nf, arg] [] p₁] [] p₂) c.env) st P X := by
  intro W s h₀ m hr
  refine Call_ (name_B hr.fr hr.gnd.kin (topRead_of hr.gnd.top) hA bA nA (callWith_method1 (spliced_more ?_ rfl) rfl rfl) hr.gnd.fn kA dA) rfl
  have st2 : starEach [.Name xf nf, arg] c.env = (false, eval (.Name xf nf) c.env) :: starEach [arg] c.env := rfl
  have st1 := fa.star [] c.env
  refine Call_ (name_B hr.fr hr.gnd.kin (topRead_of hr.gnd.top) hM bM nM (PyProof.Rows.callWith_type1 (spliced_more ?_ st2) st2 (by rw [st1]; rfl)) hr.gnd.fn kM dM) rfl
  refine name_K hr.fr hr.gnd.kin (topRead_of hr.gnd.top) hF ?_ hr.gnd.fn kF dF
  refine spliced_more (h.step (.refl W) hr (fun _ _ x => x) fun W₁ st₁ d h₁ m₁ v s₁ l₁ _ r₁ p₁ q => spliced_none ?_) st1
  refine Classical.byContradiction fun hng => ?_
  obtain ⟨l, rfl, hl, hf, hP⟩ := q
  obtain ⟨t, rfl⟩ := p₁
  refine hng ?_
  clear hng
  exact wpAny_mono (wp_all hh hcp hroom hf hl hP r₁) (fun v s₂ q => spliced_none (wp_le q l₁)) fun _ _ x => x.le l₁
end

theorem opt_of {α : Type} {o : Option α} {a : α} {k : α → Prop} (h : o = some a) (q : k a) : optP o k := by subst h; exact q
theorem set_last {α : Type} {l : List α} {x y : α} : (l ++ [x]).set l.length y = l ++ [y] := by simp
section
variable {G : Gl} {c : Ac} {st : St} {X : XPost}
theorem ev_notinS {x y : Str} {P : KP} (h : P (.bool (!Txt.contains x y)) st) : A2 G c (compareOp .NotIn) (.str y) (.str x) st P X := by
  rintro W s h₀ m _ _ hr ⟨_, rfl⟩ ⟨_, rfl⟩
  exact PySem.P.notIn_str (hr.here0 Rep.ob h)
/-- items[n] *= value -/
theorem as_augI {o i value : Expr} {tp pos : Pos} {P : KF} (h : AE G c (eval o c.env) st (fun d st₁ => gLst d fun j => AE G c (eval i c.env) st₁ (fun k st₂ => ∃ n ds a, k = .int n ∧ st₂.ls[j]? = some ds ∧ 0 ≤ n ∧ n < 2 ^ 63 ∧ ds[n.toNat]? = some (.int a) ∧
      AE G c (eval value c.env) st₂ (fun v st₃ => ∃ b, v = .int b ∧ IntMulOk a b ∧ st₃ = st₂ ∧ P .next ⟨st₂.env, st₂.ls.set j (ds.set n.toNat (.int (a * b))), st₂.tn⟩) X) X) X)
    (hi : ∀ ov iv new, augStore i ov iv new = (do holding [new, ov, iv] (setItem ov iv new); release [new, ov, iv] []; pure .next)) : AS G c (exec (.AugAssign (.Subscript o i tp) .Mult value pos) c.env) st P X := by
  intro W s h₀ m hr
  refine wpAny_AugAssign_SubscriptAny (h.step (.refl W) hr (fun _ _ x => x) fun W₁ st₁ d _ _ dv s₁ l₁ _ r₁ p₁ h₁ => ?_) hi
  refine Classical.byContradiction fun hng => ?_
  obtain ⟨j, rfl, h₁⟩ := of_gLst h₁
  obtain ⟨al, rfl, hρ⟩ := p₁
  refine hng ?_
  clear hng
  refine h₁.step l₁ r₁ (fun _ _ x => x) fun W₂ st₂ k _ _ kv s₂ l₂ k₂ r₂ p₂ h₂ => ?_
  refine Classical.byContradiction fun hng => ?_
  obtain ⟨n, ds, a, rfl, hj, h0, hf, ha, h₂⟩ := h₂
  obtain ⟨t, rfl⟩ := p₂
  have hρ₂ := k₂.rho _ _ hρ
  obtain ⟨ws, n', ho, hL, hw⟩ := r₂.isLst hj hρ₂
  obtain ⟨_, hv, u, rfl⟩ := hw.get ha
  refine hng ?_
  clear hng
  refine wpAny_getItem_list hL h0 hf (by simpa using hv) ?_
  refine h₂.step l₂ r₂ (fun _ _ x => x) fun W₃ st₃ v _ _ vv s₃ l₃ k₃ r₃ p₃ h₃ => ?_
  refine Classical.byContradiction fun hng => ?_
  obtain ⟨b, rfl, hm, rfl, hP⟩ := h₃
  obtain ⟨t', rfl⟩ := p₃
  refine hng ?_
  clear hng
  refine PyProof.Rows.imul_int ?_ hm
  have hρ₃ := k₃.rho _ _ hρ₂
  refine Classical.byContradiction fun hng => ?_
  obtain ⟨ws', n'', ho', _, hw'⟩ := r₃.isLst hj hρ₃
  refine hng ?_
  clear hng
  have hlt : n.toNat < ds.length := get_lt ha
  refine ki_setAt ho' h0 hf (by rw [List.size_toArray, hw'.length]; lia) ?_
  obtain ⟨q, l⟩ := r₃.setList (n' := n'') (vs' := ws'.set n.toNat (.int (a * b) s₃.toks)) (s₃.toks + 1) hρ₃ (Reps.set Rep.oi n.toNat hw') (Heap.SameBut.update ..) (by rw [PySem.IsL.update ho' (·.setIfInBounds n.toNat (.int (a * b) s₃.toks))]; simp)
  exact rep_done (af := .next) (l₃.trans l) q rfl hP
end

abbrev Ac.comp (c : Ac) (C : Addr) (x : Str) (d : D) : Ac := { c with cp := some (C, x, d) }
theorem Rel.cp {G : Gl} {c : Ac} {W : Wd} {st : St} {h₀ : Heap} {m : Str → Option Value} {s : Shared} {cp cp' : Option (Addr × Str × D)} (h : Rel G { c with cp := cp } W st h₀ m s) (hc : CpOk G.base cp' W) : Rel G { c with cp := cp' } W st h₀ m s :=
  ⟨⟨h.gnd.turn, h.gnd.same, h.gnd.below, h.gnd.kin, h.gnd.top, h.gnd.kb, h.gnd.tb, h.gnd.dicts, h.gnd.fn, h.gnd.dep, h.gnd.unt⟩, ⟨hc, h.wok.loc, h.wok.len, h.wok.nodup, h.wok.lists⟩, h.fr, h.news, h.gens, h.os⟩
section
variable {G : Gl} {c : Ac} {st : St} {X : XPost} {P : KP} {C : Addr} {scope : Scope}
theorem ae_cname {x : Str} {pos : Pos} {d : D} (hc : c.cp = some (C, x, d)) (hp : P d st) (hk : scope.kind = .function) (hl : (compEnv scope C c.env).kindOf x = some .local) (hd : (x == ("__debug__" : Str)) = false) : AE G c (eval (.Name x pos) (compEnv scope C c.env)) st P X := by
  intro W s h₀ m h
  refine Classical.byContradiction fun hng => ?_
  obtain ⟨o, es, n, v, h1, _, h3, h4, h5, h6⟩ := h.wok.cpo C x d hc
  refine hng ?_
  clear hng
  exact wpAny_Name (wpAny_loadName_local (m := fun y => nsFind es y) hk hl ⟨o, es, n, (h.news _ h1).1, h3, h4, fun _ => rfl⟩ h5 (h.here0 h6 hp)) hd
theorem ae_ccall {x : Str} {f : Addr} {e : Expr} {r : List Expr} {np pos : Pos} (hx : nsIn G.K mainGlobals x = some (some (.ref f))) (hkf : keepIn G.K (.ref f) = true)
    (h : AL G c (spliced (backTo pos (starEach (e :: r) (compEnv scope C c.env)))) st (fun ds st₁ => EVN G c (callV (.ref f)) ds st₁ P X) X) (hk : scope.kind = .function)
    (hkd : (compEnv scope C c.env).kindOf x = some .globalImplicit) (hd : (x == ("__debug__" : Str)) = false)
    (he : starEach (e :: r) (compEnv scope C c.env) = (false, eval e (compEnv scope C c.env)) :: starEach r (compEnv scope C c.env)) (hplain : (backTo pos (starEach r (compEnv scope C c.env))).any (·.1) = false) : AE G c (eval (.Call (.Name x np) (e :: r) [] pos) (compEnv scope C c.env)) st P X := by
  intro W s h₀ m hr
  have T := topRead_of hr.gnd.top
  exact Call_ (Calls.Name_function_global hk hkd (Calls.loadGlobal_global (env := compEnv scope C c.env) (T.g.keeps hr.fr.keep) (mg_of hr.gnd.kin T.g hx) (callWith_K hr.gnd.kin hkf (args_step h hr fun _ _ _ _ _ _ _ r₁ q => ⟨r₁.gnd.kin.keeps r₁.fr.keep, q⟩) he hplain)) hd) rfl
end
theorem take_map_succ {ds : List D} {i : Nat} {d : D} (h : ds[i]? = some d) (f : D → D) : (ds.take (i + 1)).map f = (ds.take i).map f ++ [f d] := by
  rw [List.take_add_one, h, List.map_append]
  rfl
/-- [elt for x in items] -/
theorem ae_comp {G : Gl} {c : Ac} {st : St} {X : XPost} {P : KP} {elt iter : Expr} {x : Str} {px : Pos} {scope : Scope} {pos : Pos} (f : D → D) (k : Nat) (ds : List D)
    (hh : c.A.handled = none) (hcp : c.cp = Option.none) (hfree : ∀ y ∈ scope.names, y.2 ≠ .free) (hcell : ∀ y ∈ scope.names, y.2 ≠ .cell) (hkind : scope.kind = .function)
    (hnames : ∀ y ∈ scope.names, y.2 = .local → scope.names.lookup y.1 = some .local) (hx : scope.names.lookup x = some .local) (hk : st.ls[k]? = some ds) (hsz : ds.length ≤ 16384)
    (h : AE G c (eval iter c.env) st (fun d₀ st₁ => d₀ = .lst k ∧ st₁ = st) X)
    (helt : ∀ C d acc, d ∈ ds → AE G (c.comp C x d) (eval elt (compEnv scope C c.env)) ⟨st.env, st.ls ++ [acc], st.tn⟩ (fun e st₂ => e = f d ∧ st₂ = ⟨st.env, st.ls ++ [acc], st.tn⟩) NoX)
    (hP : P (.lst st.ls.length) ⟨st.env, st.ls ++ [ds.map f], st.tn⟩)
    (hs : ∀ x, foldedSetIterable iter c.env x = pure x) : AE G c (eval (.ListComp elt [⟨.Name x px, iter, [], 0⟩] scope pos) c.env) st P X := by
  intro W s h₀ m hr
  refine wpAny_ListComp hfree hkind hnames (h.step (.refl W) hr (fun _ _ x => x) fun W₁ st₁ d₀ h₁ m₁ v s₁ l₁ _ r₁ p₁ q₁ => ?_) hs
  refine Classical.byContradiction fun hng => ?_
  obtain ⟨rfl, rfl⟩ := q₁
  obtain ⟨a, rfl, hρ⟩ := p₁
  obtain ⟨f1, f2, f3, f4⟩ := r₁.fresh
  obtain ⟨vs₁, n₁, ho₁, hL₁, h3₁⟩ := r₁.isLst hk hρ
  refine hng (wpAny_pyIter_list hL₁ ?_)
  clear hng
  refine Classical.byContradiction fun hng => ?_
  have it := iter_lst (G := G) (c := c) (k := k) (I := s₁.heap.objs.size) (ax := a) hh
  have hcur : ∀ (acc : List D) (i : Nat), ((st₁.ls ++ [acc])[k]?).bind (·[i]?) = ds[i]? := fun acc i => by rw [List.getElem?_append_left (get_lt hk), hk]; rfl
  have hit : W₁.ρ[k]? = some a ∧ (s₁.heap.push { cls := .type "list_iterator", data := .fields #[.ref a, .int 0 0] }).IsListIter s₁.heap.objs.size a 0 := ⟨hρ, _, Heap.get?_push_size _ rfl, rfl, rfl⟩
  have r₂ := r₁.pushed { cls := .type "list_iterator", data := .fields #[.ref a, .int 0 0] }
  generalize hI : s₁.heap.objs.size = I at *
  obtain ⟨oI, hoI, hnd, hnt, hnr⟩ := it.there _ _ _ hit
  have r₃ := r₂.newObj s₁.toks r₂.fr (News.more r₂.fr r₂.news hoI hnd f3)
  refine hng (newList_K r₃.fr r₃.news (fun l h' F N hlt => ?_) (by show 0 ≤ sizeLine; exact Nat.zero_le _))
  clear hng
  have hne : ∀ q ∈ (newW W₁ I oI).N, q.1 ≠ l := fun q hq => Nat.ne_of_lt (hlt q hq)
  have r₄ := r₃.newList (ds := []) s₁.toks hne rfl F N
  refine wpAny_newFunctionEnv hcell (fun _ hz => nomatch hz) (fun h'' hns hsb => ?_) hkind
  dsimp only at hns hsb ⊢
  refine Classical.byContradiction fun hng => ?_
  obtain ⟨g1, g2, g3, g4⟩ := r₄.fresh
  dsimp only at g1 g2 g3 g4
  generalize hC : h'.objs.size = C at *
  have hkeep : ∀ b o', b ≠ C → h'.get? b = some o' → h''.get? b = some o' := fun b o' hb e => (hsb.2 b hb).trans (Heap.get?_push_of_some _ e)
  have hIin : (I, oI) ∈ (newL (newW W₁ I oI) l (listOf [].toArray 0)).N := .tail _ (.head _)
  have hIC : I ≠ C := fun q => g1 _ hIin q
  have hIρ : I ∉ (newL (newW W₁ I oI) l (listOf [].toArray 0)).ρ := fun q => (List.mem_append.mp q).elim f2 fun q => hne _ (.head _) (List.mem_singleton.mp q)
  have r₅ := r₄.moved (s₁.toks + ([] : List (Str × Value)).length) hkeep g1 g3 (fun q => g4 q)
  have hI5 := (r₅.news _ hIin).1
  obtain ⟨r₆, sub₆⟩ := r₅.forget hcp hIin (notHeld hnt hnr) hIρ
  refine hng ?_
  clear hng
  let J : Nat → Shared → Prop := fun n s' => ∃ i W' h₀' m' mc, n = ds.length - i ∧ i ≤ ds.length ∧ W.Le W' ∧ Rel G c W' ⟨st₁.env, st₁.ls ++ [(ds.take i).map f], st₁.tn⟩ h₀' m' s' ∧ (∀ q ∈ W'.N, q.1 ≠ I ∧ q.1 ≠ C) ∧ I ∉ W'.ρ ∧ C ∉ W'.ρ ∧
    h₀'.get? I = none ∧ h₀'.get? C = none ∧ (W'.ρ[k]? = some a ∧ s'.heap.IsListIter I a i) ∧ s'.heap.Ns C mc ∧ W'.ρ[st₁.ls.length]? = some l
  have hRloop : ∀ s₀ : Shared, J (ds.length - 0) s₀ → codeAny (model G.prog G.w) c.A (.compLoop (.ListComp elt [⟨.Name x px, iter, [], 0⟩] scope pos) 0 (.ref I) (.ref l) (compEnv scope C c.env))
      (fun r s' => ∃ m, s'.heap.Ns C m ∧ ∀ h', Heap.SameBut C s'.heap h' → match r with | .ok _ => QP Rep G c W P (.ref l) { s' with heap := h' } | .error x => wpAny (model G.prog G.w) c.A (passOn "comprehension.variables-let-go" x (compEnv scope C c.env)) (QP Rep G c W P) (XP G c W X) { s' with heap := h' }) s₀ := by
    intro s₀ hJ
    refine codeAny_compLoop_tests J ?_ _ hJ
    intro n s' hJ
    refine Classical.byContradiction fun hng => ?_
    obtain ⟨i, W', h₀', m', mc, rfl, hile, l', r', hN', hIρ', hCρ', hI', hC', hit', hns', hρl⟩ := hJ
    cases hd : ds[i]? with
    | none =>
      refine hng (it.stop i W' _ h₀' m' s' r' hit' ((hcur _ _).trans hd) _ _ fun hp tk hk => ?_)
      clear hng
      refine Classical.byContradiction fun hng => ?_
      obtain rfl : i = ds.length := Nat.le_antisymm hile (List.getElem?_eq_none_iff.mp hd)
      have r'' := r'.moved tk hk (fun q hq => (hN' q hq).1) hI' f4
      obtain ⟨oC, es, ep, e1, e2⟩ := hns'
      refine hng ⟨mc, ⟨oC, es, ep, hk _ _ (fun q => hIC q.symm) e1, e2⟩, fun h3 hs3 => ?_⟩
      clear hng
      have r3 := r''.moved (I := C) (h' := h3) tk (fun b o' hb e => (hs3.2 b hb).trans e) (fun q hq => (hN' q hq).2) hC' g4
      rw [List.take_length] at r3
      exact ⟨W', _, .lst st₁.ls.length, h₀', m', l', r3, ⟨l, rfl, hρl⟩, hP⟩
    | some d =>
      have hlt : i < ds.length := get_lt hd
      refine hng (it.next i W' _ h₀' m' s' d r' hit' ((hcur _ _).trans hd) _ _ fun v' hp tk hv' hit₁ hk => ?_)
      clear hng
      refine Classical.byContradiction fun hng => ?_
      have ra := r'.moved tk hk (fun q hq => (hN' q hq).1) hI' f4
      obtain ⟨oC₀, es₀, ep₀, e1, e2⟩ := hns'
      refine hng (wpAny_assign_Name (wpAny_storeName_local (env := compEnv scope C c.env) hx ⟨oC₀, es₀, ep₀, hk _ _ (fun q => hIC q.symm) e1, e2⟩ (fun hb hnsb hsb' => ?_) (by show (scope.kind == .class || (scope.kind == .module && C != mainGlobals)) = false; rw [hkind]; rfl)))
      clear hng
      refine Classical.byContradiction fun hng => ?_
      have rb := ra.moved (I := C) (h' := hb) (tk + 1) (fun b o' hb' e => (hsb'.2 b hb').trans e) (fun q hq => (hN' q hq).2) hC' g4
      obtain ⟨oC, es, ep, c1, c2, c3, c4⟩ := hnsb
      obtain ⟨oJ, hoJ, hndJ, hntJ, hnrJ⟩ := it.there _ _ _ hit₁
      have rc := rb.newObj (tk + 1) rb.fr (News.more rb.fr rb.news ((hsb'.2 I hIC).trans hoJ) hndJ hI')
      have N2 : News h₀' c.L hb ((C, oC) :: (I, oJ) :: W'.N) := fun q hq => by
        rcases List.mem_cons.mp hq with rfl | hq
        · exact ⟨c1, fun q => g4 q, hC'⟩
        · exact rc.news q hq
      have rd := rc.newObj (tk + 1) rc.fr N2
      have hcpo : CpOk G.base (some (C, x, d)) (newW (newW W' I oJ) C oC) := by
        intro C' x' d' e
        cases e
        exact ⟨oC, es, ep, v', .head _, hCρ', c2, c3, (c4 x).trans (if_pos rfl), (hv'.mono newW_le).mono newW_le⟩
      refine hng (wpAny_pure ?_)
      clear hng
      rw [if_pos rfl]
      refine (helt C d _ (List.mem_of_getElem? hd)).step (.refl _) (rd.cp hcpo) (fun e s x => (xp_no x).elim) fun W₃ st₃ e' h₃ m₃ xv s₃ le₃ _ r₃' pe q₃ => ?_
      refine Classical.byContradiction fun hng => ?_
      obtain ⟨rfl, rfl⟩ := q₃
      have hρ₃ : W₃.ρ[st₁.ls.length]? = some l := le₃.rho _ _ hρl
      obtain ⟨vs, nn, ho, hL, h3⟩ := r₃'.isLst (k := st₁.ls.length) get_last hρ₃
      refine hng (append_at ho (fun ha hsa hoa => ?_) (by
        rw [List.size_toArray, h3.length, List.length_map]
        exact Nat.le_trans (List.length_take_le _ _) (Nat.le_trans (Nat.le_of_lt hlt) (Nat.le_trans hsz (Nat.le_of_ble_eq_true rfl)))))
      clear hng
      refine Classical.byContradiction fun hng => ?_
      have r₃'' : Rel G c W₃ _ h₃ m₃ s₃ := r₃'.cp (cp' := c.cp) (by rw [hcp]; exact CpOk.no)
      obtain ⟨r₄', le₄⟩ := r₃''.setList (i := st₁.ls.length) (vs' := vs ++ [xv]) (ds' := (ds.take i).map f ++ [f d]) (n' := nn + 1) s₃.toks hρ₃ (Reps.append (es := [f d]) ⟨xv, [], rfl, pe, rfl⟩ h3) hsa (by rw [hoa]; simp)
      dsimp only at r₄'
      rw [set_last, ← take_map_succ hd] at r₄'
      have le₅ := le₃.trans le₄
      obtain ⟨i1, q1⟩ := stay_out le₅ (.head _) hCρ'
      obtain ⟨i2, q2⟩ := stay_out le₅ (.tail _ (.head _)) hIρ'
      have z1 := r₄'.news _ i1
      have z2 := r₄'.news _ i2
      obtain ⟨r₅', s₅'⟩ := r₄'.forget hcp i1 (fun q => q.2 _ _ c2) q1
      obtain ⟨r₆', s₆'⟩ := r₅'.forget hcp (List.mem_filter.mpr ⟨i2, bne_iff_ne.mpr hIC⟩) (notHeld hntJ hnrJ) q2
      refine hng ⟨ds.length - (i + 1), Nat.sub_lt_sub_left hlt (Nat.lt_succ_self i), i + 1, _, h₃, m₃, _, rfl, hlt, ?_, r₆', ?_, q2, q1, z2.2.2, z1.2.2, ?_, ⟨oC, es, ep, z1.1, c2, c3, c4⟩, le₅.rho _ _ hρl⟩
      · have L3 : W.Le _ := ((l'.trans newW_le).trans newW_le).trans le₅
        refine ⟨L3.rho, fun q hq hc => ?_, L3.new⟩
        have hw := hN' q (l'.keep q hq hc)
        exact List.mem_filter.mpr ⟨List.mem_filter.mpr ⟨L3.keep q hq hc, bne_iff_ne.mpr hw.2⟩, bne_iff_ne.mpr hw.1⟩
      · intro q hq
        have q1 := List.mem_filter.mp hq
        exact ⟨bne_iff_ne.mp q1.2, bne_iff_ne.mp (List.mem_filter.mp q1.1).2⟩
      · refine it.frame _ W' _ _ _ hit₁ (z2.1.trans hoJ.symm) ⟨fun k a q => le₅.rho _ _ q, fun q hq hc => ?_⟩
        have hw := hN' q hq
        exact List.mem_filter.mpr ⟨List.mem_filter.mpr ⟨le₅.sub.keep q (.tail _ (.tail _ hq)) hc, bne_iff_ne.mpr hw.2⟩, bne_iff_ne.mpr hw.1⟩
  have hJ0 : J (ds.length - 0) { s₁ with heap := h'', toks := s₁.toks + ([] : List (Str × Value)).length } := by
    refine ⟨0, _, h₁, m₁, _, rfl, Nat.zero_le _, ?_, r₆, ?_, hIρ, g2, f3, g3, ?_, hns, ?_⟩
    · have L4 : W.Le (newL (newW W₁ I oI) l (listOf [].toArray 0)) := (l₁.trans newW_le).trans (newL_le hne)
      exact ⟨L4.rho, fun q hq hc => List.mem_filter.mpr ⟨L4.keep q hq hc, bne_iff_ne.mpr (f1 q (l₁.keep q hq hc))⟩, L4.new⟩
    · intro q hq
      have q1 := List.mem_filter.mp hq
      exact ⟨bne_iff_ne.mp q1.2, g1 q q1.1⟩
    · exact it.frame _ W₁ _ _ _ hit (hI5.trans hoI.symm) ⟨fun k a q => (newL_le (o := listOf [].toArray 0) hne).rho k a q, fun q hq hc => List.mem_filter.mpr ⟨.tail _ (.tail _ hq), bne_iff_ne.mpr (f1 q hq)⟩⟩
    · show (W₁.ρ ++ [l])[st₁.ls.length]? = some l
      rw [← r₁.wok.len]
      exact get_last
  exact codeAny_compStart_list (hRloop _ hJ0) (wpAny_pyIter_listiter (it.frame _ W₁ _ _ _ hit (hI5.trans hoI.symm) ⟨fun _ _ q => q, fun _ q _ => q⟩).2 (hRloop _ hJ0))

/-! data, whole: numbers and lists of numbers, some levels deep; S tells which lists may be leant on -/
def Al2 {α β : Type} (R : α → β → Prop) : List α → List β → Prop
  | [], ps => ps = []
  | d :: ds, ps => ∃ p r, ps = p :: r ∧ R d p ∧ Al2 R ds r
def Dp (S : Nat → Prop) (ls : List (List D)) : Nat → D → PyData → Prop
  | 0, d, p => ∃ i, d = .int i ∧ p = .int i
  | n + 1, d, p => Dp S ls n d p ∨ ∃ k ds ps, d = .lst k ∧ p = .list ps ∧ S k ∧ ls[k]? = some ds ∧ Al2 (Dp S ls n) ds ps
theorem Al2.mono {α β : Type} {R R' : α → β → Prop} (h : ∀ a b, R a b → R' a b) : ∀ {l : List α} {r : List β}, Al2 R l r → Al2 R' l r := by
  intro l
  induction l with
  | nil => exact id
  | cons a l ih =>
    rintro _ hj1
    refine Classical.byContradiction fun hng => ?_
    obtain ⟨p, r, rfl, h1, h2⟩ := hj1
    refine hng ?_
    clear hng
    exact ⟨p, r, rfl, h _ _ h1, ih h2⟩
theorem Al2.snoc {α β : Type} {R : α → β → Prop} {a : α} {b : β} (h : R a b) : ∀ {l : List α} {r : List β}, Al2 R l r → Al2 R (l ++ [a]) (r ++ [b]) := by
  intro l
  induction l with
  | nil => rintro _ rfl; exact ⟨b, [], rfl, h, rfl⟩
  | cons a l ih =>
    rintro _ hj1
    refine Classical.byContradiction fun hng => ?_
    obtain ⟨p, r, rfl, h1, h2⟩ := hj1
    refine hng ?_
    clear hng
    exact ⟨p, _, rfl, h1, ih h2⟩
theorem Dp.sub {S S' : Nat → Prop} {ls ls' : List (List D)} (h : ∀ k ds, S k → ls[k]? = some ds → S' k ∧ ls'[k]? = some ds) : ∀ {n : Nat} {d : D} {p : PyData}, Dp S ls n d p → Dp S' ls' n d p := by
  intro n
  induction n with
  | zero => exact id
  | succ n ih =>
    intro d p q
    rcases q with q | ⟨k, ds, ps, e1, e2, e3, e4, e5⟩
    · exact .inl (ih q)
    · exact .inr ⟨k, ds, ps, e1, e2, (h k ds e3 e4).1, (h k ds e3 e4).2, e5.mono fun _ _ => ih⟩
theorem Al2.lay {n : Nat} : ∀ {l : List D} {r : List PyData}, Al2 (fun _ p => p.canLay0 = true ∧ p.depth ≤ n) l r → PyData.canLayAll0 r = true ∧ PyData.depthAll r ≤ n := by
  intro l
  induction l with
  | nil => rintro _ rfl; exact ⟨rfl, Nat.zero_le _⟩
  | cons a l ih =>
    rintro _ hj1
    refine Classical.byContradiction fun hng => ?_
    obtain ⟨p, r, rfl, h1, h2⟩ := hj1
    obtain ⟨h3, h4⟩ := ih h2
    refine hng ?_
    clear hng
    refine ⟨?_, ?_⟩
    · rw [PyData.canLayAll0, h1.1, h3]; rfl
    · rw [PyData.depthAll]
      have := h1.2
      lia
theorem Dp.lay {S : Nat → Prop} {ls : List (List D)} : ∀ {n : Nat} {d : D} {p : PyData}, Dp S ls n d p → p.canLay0 = true ∧ p.depth ≤ n := by
  intro n
  induction n with
  | zero =>
    rintro _ _ ⟨i, rfl, rfl⟩
    exact ⟨rfl, Nat.le_refl 0⟩
  | succ n ih =>
    rintro d p (q | ⟨k, ds, ps, rfl, rfl, _, _, q⟩)
    · exact ⟨(ih q).1, Nat.le_succ_of_le (ih q).2⟩
    · obtain ⟨h1, h2⟩ := Al2.lay (q.mono fun _ _ => ih)
      exact ⟨by rw [PyData.canLay0]; exact h1, by rw [PyData.depth]; lia⟩
theorem Dp.shape {S : Nat → Prop} {ls : List (List D)} {n : Nat} {d : D} {p : PyData} (h : Dp S ls n d p) (hn : n ≤ 64) : SeqAt.shaped p = true := by
  unfold SeqAt.shaped
  rw [h.lay.1, decide_eq_true (Nat.le_trans h.lay.2 hn)]
  rfl
theorem dp_ints {S : Nat → Prop} {ls : List (List D)} {n : Nat} : ∀ (ns : List Int), Al2 (Dp S ls n) (ns.map D.int) (ns.map PyData.int) := by
  intro ns
  induction ns with
  | nil => rfl
  | cons i r ih =>
    refine ⟨_, _, rfl, ?_, ih⟩
    clear ih
    induction n with
    | zero => exact ⟨i, rfl, rfl⟩
    | succ n ih => exact .inl ih
section
variable {G : Gl} {c : Ac} {st : St} {W : Wd} {h₀ : Heap} {m : Str → Option Value} {s : Shared} {X : XPost} {P : KP}
theorem Dp.reads (hr : Rel G c W st h₀ m s) {S : Nat → Prop} : ∀ {n : Nat} {d : D} {p : PyData}, Dp S st.ls n d p → ∀ {v : Value}, Rep G.base W v d → ∃ as, Reads s.heap v p as := by
  intro n
  induction n with
  | zero =>
    rintro _ _ hj2 _ hj4
    refine Classical.byContradiction fun hng => ?_
    obtain ⟨i, rfl, rfl⟩ := hj2
    obtain ⟨t, rfl⟩ := hj4
    refine hng ?_
    clear hng
    exact ⟨_, .int i t⟩
  | succ n ih =>
    rintro d p (q | ⟨k, ds, ps, rfl, rfl, _, hk, q⟩) v hv
    · exact ih q hv
    · refine Classical.byContradiction fun hng => ?_
      obtain ⟨a, rfl, hρ⟩ := hv
      obtain ⟨vs, n', ho, _, h3⟩ := hr.isLst hk hρ
      have all : ∀ {ds : List D} {ps : List PyData} {vs : List Value}, Al2 (Dp S st.ls n) ds ps → Reps G.base W vs ds → ∃ as, ReadsAll s.heap vs ps as := by
        intro ds
        induction ds with
        | nil => rintro _ _ rfl rfl; exact ⟨_, .nil⟩
        | cons d ds jh =>
          rintro _ _ ⟨p, r, rfl, h1, h2⟩ ⟨v, vs, rfl, k1, k2⟩
          obtain ⟨as, q1⟩ := ih h1 k1
          obtain ⟨bs, q2⟩ := jh h2 k2
          exact ⟨_, .cons q1 q2⟩
      obtain ⟨as, q'⟩ := all q h3
      refine hng ?_
      clear hng
      exact ⟨_, reads_list_at ho rfl rfl q'⟩
/-- two of one content are equal -/
theorem ev_eqD {S S' : Nat → Prop} {n : Nat} {d e : D} {p : PyData} (hn : n ≤ 64) (hd : Dp S st.ls n d p) (he : Dp S' st.ls n e p) (h : P (.bool true) st) : A2 G c (compareOp .Eq) d e st P X := by
  intro W s h₀ m v u hr hv hu
  refine Classical.byContradiction fun hng => ?_
  obtain ⟨as, ra⟩ := hd.reads hr hv
  obtain ⟨bs, rb⟩ := he.reads hr hu
  refine hng ?_
  clear hng
  have := hr.gnd.unt
  refine eq_dataH ra rb (hd.shape hn) (he.shape hn) (show c.A₀.units + 3 + 64 < cLine by lia) ?_
  rw [SeqAt.eqv_refl p hd.lay.1]
  exact hr.here0 (b := .bool true) rfl h
end
/-! the law's own call -/
abbrev lawAc (s₁ : Shared) (nm : Str) (sc : Scope) (fa : Addr) (cd : Value) : Ac := ⟨callerA, [], s₁.heap, nm, sc, s₁.heap.objs.size, fa, cd, none, 100, none⟩
section
variable {prog : Program} {w : World} {A : Around} {R : Result → Shared → Prop} {s : Shared}
theorem codeC_func {body : List Stmt} {env : Env} (h : wpC (model prog w) (A.deeper env) (execs body env) (fun f s' => R (.ok (.ret (match f with | .ret v => v | _ => .none))) s')
      (fun e s' => wpAny (model prog w) (A.deeper env) (leaving env e) (fun _ s'' => R (.error e) s'') (fun e' s'' => R (.error e') s'') s') s) : codeC (model prog w) A (.func body env) R s := by
  refine codeC_of_tree ?_
  show wpC _ (A.deeper env) (do point; match ← (execs body env).onRaise (leaving env) with | .ret v => ret v | _ => ret .none) _ _ s
  refine wpC_bind (wpC_of (wpAny_point (wpC_bind (wpC_onRaise (wpC_mono h (fun f s' h' => ?_) fun _ _ h' => wpC_of h')))))
  cases f <;> exact wpC_pure h'
theorem codeC_call_def {a : Addr} {o : Obj} {fd : FuncData} {body : List Stmt} {args : Args} {binds : List (Str × Value)}
    (hroom : A.depth < recursionLimit) (ho : s.heap.get? a = some o) (hdata : o.data = .func fd) (hlim : s.heap.NoLimit) (hcd : s.heap.CodeRec fd.code fd.qualname)
    (hbody : fd.body = .stmts body) (hbind : BindsTo s fd args binds) (hcell : ∀ x ∈ fd.scope.names, x.2 ≠ .cell) (hloc : ∀ x ∈ binds, fd.scope.names.lookup x.1 = some .local)
    (h : ∀ h₀, h₀.Ns s.heap.objs.size (fun x => binds.reverse.lookup x) → (∀ b o, s.heap.get? b = some o → h₀.get? b = some o) →
      wpC (model prog w) (A.deeper (callEnv fd s.heap.objs.size a)) (execs body (callEnv fd s.heap.objs.size a)) (fun f s' => R (.ok (.ret (match f with | .ret v => v | _ => .none))) s')
        (fun e s' => wpAny (model prog w) (A.deeper (callEnv fd s.heap.objs.size a)) (leaving (callEnv fd s.heap.objs.size a) e) (fun _ s'' => R (.error e) s'') (fun e' s'' => R (.error e') s'') s')
        { s with heap := h₀, toks := s.toks + binds.length })
    (hco : fd.scope.isCoroutine = false) (hgen : fd.scope.isGenerator = false) (hk : fd.scope.kind = .function) : codeC (model prog w) A (.call (.ref a) args) R s := by
  refine codeC_of_tree ?_
  refine wpC_bind (M := model prog w) (A := A.in1) (wpC_of (wpAny_load ho ?_))
  refine Classical.byContradiction fun hng => ?_
  obtain ⟨c, oc, vs, tq, hc, hoc, hdc, hq⟩ := hcd
  obtain ⟨o1, o2, o3, o4⟩ := o
  refine hng ?_
  clear hng
  obtain rfl : o3 = .func fd := hdata
  show wpC _ _ (callFunction a fd args) _ _ s
  unfold callFunction
  rw [hc, hco, hgen, hbody]
  refine wpC_bind (wpC_of (wpAny_field hoc hdc hq (wpC_bind (wpC_of (wpAny_pure ?_)))))
  refine wpC_bind (wpC_of (hbind _ _ _ _ ?_))
  refine wpC_bind (wpC_of ?_)
  rw [← hc]
  refine wpAny_newFunctionEnv hcell hloc (fun h₀ hns₀ hsb₀ => ?_) hk
  refine wpC_bind (wpC_of (wpAny_enterFrame (hlim.fresh _ hsb₀) hroom (wpC_pure (And.intro rfl (codeC_func (h h₀ hns₀ fun b o e => ?_))))))
  exact hsb₀.extBut b o (Nat.ne_of_lt (Heap.lt_size e)) (Heap.get?_push_of_some _ e)
end

theorem no_int : ∀ a < 10, ∀ b < 10, ∀ c < 10, PySem.intText? (tx [48 + a, 48 + b, 58, 48 + c]) = none := by decide +kernel
theorem int_tree {x : Str} {u : Tok} : Builtin.«int.__new__» ⟨[.type "int", .str x u], []⟩ = ((int_private% "intFromText") (.str x u) (numTextOf x) 10 >>= fun v => ret v) := by kernel_rfl
section
variable {prog : Program} {w : World} {A : Around} {E : Value → Shared → Prop} {s : Shared}
theorem wpC_mark {M : Model} {own : List String} {e : Value} {Q : Unit → Shared → Prop} (h : Q () s) : wpC M A (markTheRefusal own e) Q E s := fun Γ p hΓ hC => by
  have hn : pythonCodeMadeTheCall own (((Γ.code, p) :: Γ.below).map (·.1)) = false := by
    have : ((((Γ.code, p) :: Γ.below).map (·.1)).any fun c => match c with | .builtin "claim.caller" _ => true | _ => false) = true := by
      rw [List.any_eq_true]
      rcases hC with q | ⟨x, hx, q⟩
      · exact ⟨Γ.code, .head _, q⟩
      · exact ⟨x.1, .tail _ (List.mem_map_of_mem hx), q⟩
    exact (congrArg (fun b => ((!b && _) && _)) this).trans rfl
  unfold markTheRefusal
  rw [Sem.wp_bind']
  show Sem.wp M Γ (if pythonCodeMadeTheCall own (((Γ.code, p) :: Γ.below).map (·.1)) = true then _ else pure ()) _ _ p s
  rw [hn]
  exact h
end

section
variable {prog : Program} {w : World} {A : Around} {E : Value → Shared → Prop} {s : Shared}
theorem wpC_iteT {α : Type} {M : Model} {c : Prop} [Decidable c] {a b : Sem α} {Q : α → Shared → Prop} (hc : c) (h : wpC M A a Q E s) : wpC M A (if c then a else b) Q E s := by rw [if_pos hc]; exact h
theorem wpC_iteF {α : Type} {M : Model} {c : Prop} [Decidable c] {a b : Sem α} {Q : α → Shared → Prop} (hc : ¬ c) (h : wpC M A b Q E s) : wpC M A (if c then a else b) Q E s := by rw [if_neg hc]; exact h
theorem int_textC {x : Str} {u : Tok} (hh : A.handled = none) (hs : (numSeenOf x).length ≤ 640) (hn : PySem.intText? x = none) (hz : (reprText x).length ≤ sizeLine)
    (h : ∀ h' e vs tk, Heap.MadeExc s.heap h' e "ValueError" vs → E (.ref e) { s with heap := h', toks := tk }) : wpC (model prog w) A ((int_private% "intFromText") (.str x u) (numTextOf x) 10) (fun _ _ => False) E s := by
  have rest : wpC (model prog w) A (do
      rule "int.__new__.invalid-literal"
      let shown ← match ← (int_private% "bytesOf?") (.str x u) with
        | some b => pyRepr (← mkBytes (b.extract 0 200))
        | none => pyRepr (.str x u)
      let refusal ← newExc (.type "ValueError") [← mkStr (((s!"invalid literal for int() with base {10}: " : String) ++ ⟨shown.cps.extract 0 200⟩ : Str))]
      markTheRefusal ["int.__new__"] refusal
      raiseNew refusal : Sem Value) (fun _ _ => False) E s := by
    refine wpC_bind (wpC_of (wpAny_rule ?_))
    refine wpC_bind (wpC_of ?_)
    show wpAny _ _ (pure none) _ _ _
    refine wpAny_pure ?_
    refine wpC_bind (wpC_of (wpAny_pyRepr_str ?_ hz))
    refine wpC_bind (wpC_of (wpAny_mkStr ?_ ?_))
    · refine wpC_bind (wpC_of (wpAny_newExc_plain plainExc_ValueError (fun h' e hm => ?_) (Nat.le_of_ble_eq_true rfl)))
      refine wpC_bind (wpC_mark ?_)
      exact wpC_of (wpAny_raiseNew_none hh (h h' e _ _ hm))
    · show (_ ++ _ : Array Nat).size ≤ sizeLine
      rw [Array.size_append, Array.size_extract]
      have h1 : (Str.ofString (toString "invalid literal for int() with base " ++ toString 10 ++ toString ": ")).cps.size ≤ 100 := by decide +kernel
      exact Nat.le_trans (Nat.add_le_add h1 (Nat.le_trans (Nat.sub_le _ _) (Nat.min_le_left 200 _))) (Nat.le_of_ble_eq_true rfl)
  refine wpC_iteT hs ?_
  refine wpC_bind (wpC_pure ?_)
  dsimp only
  rcases read0 x hs with ⟨m, h1, _⟩ | ⟨_, h1 | ⟨i, h1, h2⟩⟩
  · rw [hn] at h1
    cases h1
  · rw [h1]
    refine wpC_bind (wpC_of ?_)
    show wpAny _ _ (pure none) _ _ _
    exact wpAny_pure (wpC_iteF (fun z => nomatch z) rest)
  · rw [h1]
    exact wpC_iteF h2 rest
theorem codeC_builtin {R : Result → Shared → Prop} {id : String} {args : Args} {b : Builtin} (hb : entryFor table id = some b)
    (h : wpC (model prog w) (A.under (.builtin id args)) (b args) (fun fin s' => match fin with | .done f => R (.ok f) s' | .again c' => c'.quiet = true ∧ codeC (model prog w) A c' R s') (fun e s' => R (.error e) s') s) : codeC (model prog w) A (.builtin id args) R s := by
  refine codeC_of_tree ?_
  show wpC _ _ (match entryFor table id with | some b => b args | none => unsupported ((withoutEnding? id "#data").getD id)) _ _ s
  rw [hb]
  exact h
theorem codeC_call_builtin {R : Result → Shared → Prop} {id : String} {args : Args} {b : Builtin} (hq : plainId id = true) (hb : entryFor table id = some b) (hc : checkBuiltinCall id args = pure ())
    (h : wpC (model prog w) A.in1 (b args) (fun fin s' => match fin with | .done f => R (.ok f) s' | .again c' => c'.quiet = true ∧ codeC (model prog w) A c' R s') (fun e s' => R (.error e) s') s) : codeC (model prog w) A (.call (.builtin id) args) R s := by
  refine codeC_of_tree ?_
  show wpC _ A.in1 (do checkBuiltinCall id args; again (.builtin id args)) _ _ s
  rw [hc]
  refine wpC_pure ⟨plainId_quiet hq args, codeC_builtin hb ?_⟩
  rw [Around.under_plainId hq args]
  exact h
/-- int(text), the text refused -/
theorem call_int_badC {x : Str} {u : Tok} (hh : A.handled = none) (hs : (numSeenOf x).length ≤ 640) (hn : PySem.intText? x = none) (hz : (reprText x).length ≤ sizeLine)
    (h : ∀ h' e vs tk, Heap.MadeExc s.heap h' e "ValueError" vs → E (.ref e) { s with heap := h', toks := tk }) : wpC (model prog w) A (call (.type "int") [.str x u]) (fun _ _ => False) E s := by
  have ft := F.called_int
  refine Classical.byContradiction fun hng => ?_
  obtain ⟨c, tl, hmro⟩ := ft.mro
  refine hng ?_
  clear hng
  refine wpC_call (codeC_of_tree ?_)
  show wpC _ _ (callAny (.type "int") _) _ _ _
  refine wpC_pure ⟨Code.quiet_builtin _ (by decide +kernel), codeC_builtin F.entry_type_call ?_⟩
  rw [Around.under_plain (weight_type_call_type "int" [.str x u] []) (units_type_call_type "int" [.str x u] [])]
  unfold Builtin.«type.__call__»
  simp only [ft.notType, ft.canCreate, F.typeCall_int_1, hmro, ft.made, pure_bind, Bool.false_eq_true, if_false, List.isEmpty_cons]
  refine wpC_bind (wpC_holding (wpC_call (codeC_call_builtin ft.plain F.entry_int_new (F.newCall_int_1 _) ?_)))
  rw [int_tree]
  exact wpC_bind (wpC_mono (int_textC hh hs hn hz h) (fun _ _ q => q.elim) fun _ _ q => q)
end

section
variable {M : Model} {A : Around} {E : Value → Shared → Prop} {s : Shared} {env : Env} {pos : Pos} {f : Value} {first : List Value} {Q : Value → Shared → Prop}
theorem wpC_keep {α : Type} {vs : List Value} {m : Sem α} {Q : α → Shared → Prop} (h : wpC M A m Q E s) : wpC M A (m.keep vs) Q E s := fun Γ p hΓ hC => by rw [Sem.wp_keep]; exact h Γ p hΓ hC
theorem wpC_iteD {α : Type} {p : Prop} [Decidable p] {a b : Sem α} {Q : α → Shared → Prop} (h1 : wpC M A a Q E s) (h2 : wpC M A b Q E s) : wpC M A (if p then a else b) Q E s := by
  by_cases q : p
  · rw [if_pos q]; exact h1
  · rw [if_neg q]; exact h2
theorem callWithC {P : Heap → Prop} {args : List (Bool × Sem Value)} (hplain : args.any (·.1) = false)
    (hk : ∀ h, P h → ∃ k, (k = Keeper.frame ∨ k = Keeper.machine ∨ k = Keeper.boundFrame) ∧ Looks M h (keeperOf f) k)
    (h : wpAny M A (evalArgs f true args []) (fun a s₁ => P s₁.heap ∧ wpC M A (call f (first ++ a.pos) a.kw) Q E s₁) E s) : wpC M A (callWith pos f first args []) Q E s := by
  unfold callWith
  refine wpC_bind (wpC_holding (wpC_of (wpAny_mono h (fun a s₁ h₁ => wpC_bind (wpC_of (wpAny_standAt ?_))) fun _ _ x => x)))
  refine Classical.byContradiction fun hng => ?_
  obtain ⟨k, hk', L⟩ := hk _ h₁.1
  refine hng ?_
  clear hng
  rw [hplain]
  refine wpC_bind (wpC_of (L.here ?_))
  have tail : ∀ {t : Sem Value}, wpC M A t Q E s₁ → wpC M A (t >>= fun r => holding [r] point >>= fun _ => pure r) Q E s₁ :=
    fun ht => wpC_bind (wpC_mono ht (fun r s₂ hr => wpC_bind (wpC_of (wpAny_holding (wpAny_point (wpC_pure hr))))) fun _ _ x => x)
  have marked (mk : Value) : wpC M A (callMarked mk f (first ++ a.pos) a.kw) Q E s₁ := by unfold callMarked; exact wpC_keep h₁.2
  rcases hk' with rfl | rfl | rfl
  · exact wpC_iteD (p := args.length + 2 * ([] : List (Option Str × Sem Value)).length > 30) (tail h₁.2) (tail (marked _))
  · exact tail h₁.2
  · exact wpC_iteD (p := args.length + 2 * ([] : List (Option Str × Sem Value)).length > 30) (tail h₁.2) (tail (marked _))
theorem AssignC {x : Str} {pos' : Pos} {value : Expr} {Q : Flow → Shared → Prop} (h : wpC M A (eval value env) (fun v s₁ => wpC M A (storeName env x v) (fun _ => Q .next) E s₁) E s)
    (hs : swapsWith value (some (.Name x pos')) pos.line env = pure false) : wpC M A (exec (.Assign [.Name x pos'] value pos) env) Q E s := fun Γ p hΓ hC => by
  simp only [exec_Assign_Name env x pos' value pos hs, Sem.wp_bind', Sem.wp_cmd_standAt, Sem.wp_bindName, Sem.wp_pure']
  exact Sem.wp_mono M Γ _ (fun v _ s₁ h₁ => h₁ Γ _ hΓ hC) (fun _ _ _ h' => h') _ _ (h Γ _ hΓ hC)
end
/-! the judgements, in a run under the claim's caller -/
def CW {α β : Type} (R : Heap → Wd → α → β → Prop) (G : Gl) (c : Ac) (t : Sem α) (st : St) (P : β → St → Prop) (X : XPost) : Prop :=
  ∀ W s h₀ m, Rel G c W st h₀ m s → wpC (model G.prog G.w) c.A t (QP R G c W P) (XP G c W X) s
abbrev CS := @CW Flow AF RepF
abbrev CE := @CW Value D Rep
def CN (G : Gl) (c : Ac) (f : List Value → Sem Value) (ds : List D) (st : St) (P : KP) (X : XPost) : Prop :=
  ∀ W s h₀ m vs, Rel G c W st h₀ m s → Reps G.base W vs ds → wpC (model G.prog G.w) c.A (f vs) (QP Rep G c W P) (XP G c W X) s
section
variable {G : Gl} {c : Ac} {st : St} {X : XPost}
theorem CW.of {α β : Type} {R : Heap → Wd → α → β → Prop} {t : Sem α} {P : β → St → Prop} (h : AW R G c t st P X) : CW R G c t st P X := fun W s h₀ m hr => wpC_of (h W s h₀ m hr)
theorem CW.less {α β : Type} {R : Heap → Wd → α → β → Prop} {t : Sem α} {P : β → St → Prop} {env : List (Str × D)} (h : CW R G c t ⟨env, st.ls, st.tn⟩ P X) (he : ∀ x d, env.lookup x = some d → st.env.lookup x = some d) : CW R G c t st P X :=
  fun W s h₀ m hr => h W s h₀ m ⟨hr.gnd, ⟨hr.wok.cpo, fun x d e => hr.wok.loc x d (he x d e), hr.wok.len, hr.wok.nodup, hr.wok.lists⟩, hr.fr, hr.news, hr.gens, hr.os⟩
theorem cwp_le {α β : Type} {R : Heap → Wd → α → β → Prop} {t : Sem α} {P : β → St → Prop} {W W' : Wd} {s : Shared} (h : wpC (model G.prog G.w) c.A t (QP R G c W' P) (XP G c W' X) s) (hl : W.Le W') : wpC (model G.prog G.w) c.A t (QP R G c W P) (XP G c W X) s :=
  wpC_mono h (fun _ _ q => q.le hl) fun _ _ x => x.le hl
/-- int of a text that is refused -/
theorem cn_intbad {l : List Nat} {P : KP} (hh : c.A.handled = none) (hl : (numSeenOf (tx l)).length ≤ 640) (hn : PySem.intText? (tx l) = none) (hz : (reprText (tx l)).length ≤ sizeLine) (hX : X "ValueError" false st) : CN G c (callV (.type "int")) [.str (tx l)] st P X := by
  intro W s h₀ m vs hr hv
  refine Classical.byContradiction fun hng => ?_
  obtain ⟨_, rfl, _, rfl⟩ := hv.one
  refine hng ?_
  clear hng
  refine wpC_mono (call_int_badC (E := XP G c W X) hh hl hn hz fun h' e vs tk hm => ?_) (fun _ _ q => q.elim) fun _ _ q => q
  exact ⟨W, st, "ValueError", false, .refl W, ⟨e, h₀, m, vs, rfl, hr.gens, hr.os, ⟨hr.gnd, hr.wok⟩, .inl ⟨rfl, s.heap, hr.fr, hr.news, hm.of⟩⟩, hX⟩
theorem ce_callT {P : KP} {x : Str} {T : String} {e : Expr} {r : List Expr} {np pos : Pos} (hx : nsIn G.K mainGlobals x = some none) (hv : bootBuiltins x = some (.type T))
    (h : AL G c (spliced (backTo pos (starEach (e :: r) c.env))) st (fun ds st₁ => CN G c (callV (.type T)) ds st₁ P X) X)
    (hn : x ≠ "__name__") (hkd : c.env.kindOf x = some .globalImplicit) (hd : (x == ("__debug__" : Str)) = false)
    (he : starEach (e :: r) c.env = (false, eval e c.env) :: starEach r c.env) (hplain : (backTo pos (starEach r c.env)).any (·.1) = false) :
    CE G c (eval (.Call (.Name x np) (e :: r) [] pos) c.env) st P X := fun W s h₀ m hr => by
  show wpC _ _ (eval (.Name x np) c.env >>= fun f => callWith pos f [] (backTo pos (starEach (e :: r) c.env)) []) _ _ s
  refine wpC_bind (wpC_of (name_B hr.fr hr.gnd.kin (topRead_of hr.gnd.top) hx hv hn ?_ hr.gnd.fn hkd hd))
  rw [he] at h ⊢
  refine callWithC (P := fun _ => True) (by show (false || (backTo pos (starEach r c.env)).any (·.1)) = false; rw [hplain]; rfl) (fun _ _ => ⟨.machine, .inr (.inl rfl), Looks.of_pure rfl⟩) (evalArgs_plain (h.step (.refl W) hr (fun _ _ x => x) fun W₁ st₁ ds h₁ m₁ vs s₁ l₁ _ r₁ p₁ q₁ => ⟨trivial, cwp_le (q₁ W₁ s₁ _ _ vs r₁ p₁) l₁⟩))
theorem ce_callK {P : KP} {x : Str} {f : Addr} {e : Expr} {r : List Expr} {np pos : Pos} (hx : nsIn G.K mainGlobals x = some (some (.ref f))) (hk : keepIn G.K (.ref f) = true)
    (h : AL G c (spliced (backTo pos (starEach (e :: r) c.env))) st (fun ds st₁ => CN G c (callV (.ref f)) ds st₁ P X) X)
    (hkd : c.env.kindOf x = some .globalImplicit) (hd : (x == ("__debug__" : Str)) = false)
    (he : starEach (e :: r) c.env = (false, eval e c.env) :: starEach r c.env) (hplain : (backTo pos (starEach r c.env)).any (·.1) = false) :
    CE G c (eval (.Call (.Name x np) (e :: r) [] pos) c.env) st P X := fun W s h₀ m hr => by
  show wpC _ _ (eval (.Name x np) c.env >>= fun f => callWith pos f [] (backTo pos (starEach (e :: r) c.env)) []) _ _ s
  refine wpC_bind (wpC_of (name_K hr.fr hr.gnd.kin (topRead_of hr.gnd.top) hx ?_ hr.gnd.fn hkd hd))
  rw [he] at h ⊢
  refine callWithC (P := G.K.In) (by show (false || (backTo pos (starEach r c.env)).any (·.1)) = false; rw [hplain]; rfl) (keeps_K hk) (evalArgs_plain (h.step (.refl W) hr (fun _ _ x => x) fun W₁ st₁ ds h₁ m₁ vs s₁ l₁ _ r₁ p₁ q₁ => ⟨r₁.gnd.kin.keeps r₁.fr.keep, cwp_le (q₁ W₁ s₁ _ _ vs r₁ p₁) l₁⟩))
theorem cs_assign {P : KF} {x : Str} {p' pos : Pos} {e : Expr} (h : CE G c (eval e c.env) st (fun d st₁ => P .next (st₁.put x d)) X)
    (hl : c.env.kindOf x = some .local) (hs : swapsWith e (some (.Name x p')) pos.line c.env = pure false) : CS G c (exec (.Assign [.Name x p'] e pos) c.env) st P X := fun W s h₀ m hr => by
  refine AssignC (wpC_mono (h W s h₀ m hr) (fun v s₁ q => ?_) fun _ _ x => x) hs
  refine Classical.byContradiction fun hng => ?_
  obtain ⟨W₁, st₁, d, h₁, m₁, l₁, r₁, p₁, q₁⟩ := q
  refine hng ?_
  clear hng
  exact wpC_of (store_step hl q₁ l₁ r₁ p₁)
theorem cs_cons {P : KF} {a : Stmt} {r : List Stmt} {env : Env} (h : CS G c (exec a env) st (seqK (fun st₁ => CS G c (execs r env) st₁ P X) P) X) : CS G c (execs (a :: r) env) st P X := fun W s h₀ m hr => by
  refine wpC_execs_cons (wpC_mono (h W s h₀ m hr) (fun f s₁ q => ?_) fun _ _ x => x)
  refine Classical.byContradiction fun hng => ?_
  obtain ⟨W₁, st₁, af, h₁, m₁, l₁, r₁, p₁, q₁⟩ := q
  refine hng ?_
  clear hng
  cases af with
  | next => cases p₁; exact cwp_le (q₁ W₁ s₁ _ _ r₁) l₁
  | brk => cases p₁; exact rep_done (af := .brk) l₁ r₁ rfl q₁
  | cont => cases p₁; exact rep_done (af := .cont) l₁ r₁ rfl q₁
  | ret d => obtain ⟨v, rfl, hv⟩ := p₁; exact rep_done (af := .ret d) l₁ r₁ ⟨v, rfl, hv⟩ q₁
end

/-- a def of the text, called, that raises -/
theorem cn_def {G : Gl} {c : Ac} {st : St} {X : XPost} {P : KP} {f : Addr} {name qual : Str} {params : Arguments} {body : List Stmt} {scope : Scope} {dV kV doc pm cdv ct oc : Value} {an od : Option Addr} {osl : Array (Option Value)} {xs : List Str} {ds : List D} {r : Nat}
    (ho : G.K.lookup f = some ⟨oc, od, .func (fnOf name qual params body scope dV kV doc pm an cdv ct), osl⟩) (hcd : codeIn G.K cdv qual = true)
    (hbind : ∀ vs : List Value, vs.length = xs.length → bindArgs (fnOf name qual params body scope dV kV doc pm an cdv ct) ⟨vs, []⟩ = pure (xs.zip vs))
    (hlen : ds.length = xs.length) (hnd : xs.Nodup) (hloc : ∀ y ∈ xs, scope.names.lookup y = some .local) (hroom : r + 1 ≤ c.room)
    (hsc : scope.isCoroutine = false ∧ scope.isGenerator = false ∧ scope.kind = .function) (hcell : ∀ x ∈ scope.names, x.2 ≠ .cell)
    (h : ∀ A₀ outer g₀ L, A₀.handled = c.A.handled → CS G ⟨A₀, outer, g₀, qual, scope, L, f, cdv, none, r, none⟩ (execs body (envOf qual scope L f cdv)) ⟨xs.zip ds, st.ls, false⟩
      (fun _ _ => False) (fun cls _ st' => st'.tn = false ∧ X cls true ⟨st.env, st'.ls, st.tn⟩)) :
    CN G c (callV (.ref f)) ds st P X := by
  intro W s h₀ m vs hr hvs
  refine Classical.byContradiction fun hng => ?_
  obtain ⟨hco, hgen, hk⟩ := hsc
  refine hng ?_
  clear hng
  have hA : c.A.frames = some (c.env :: c.outer) := Around.frames_deeper hr.gnd.below.stack
  have hvl : vs.length = xs.length := hvs.length.trans hlen
  have hdep := hr.gnd.dep
  have hunt := hr.gnd.unt
  have KX := hr.gnd.kin.keeps hr.fr.keep
  refine wpC_call (codeC_call_def (A := c.A) (fd := fnOf name qual params body scope dV kV doc pm an cdv ct) (body := body) (show c.A₀.depth + 1 < recursionLimit by lia) (KX _ _ ho) rfl (hr.gnd.top.nolimit.keeps hr.fr.keep) (codeRec_of KX hcd) rfl
    (BindsTo.of_eq (hbind vs hvl)) hcell (fun y hy => hloc _ (List.of_mem_zip hy).1) (fun h₁ hns hk₁ => ?_) hco hgen hk)
  refine Classical.byContradiction fun hng => ?_
  obtain ⟨oL, es, ep, hLg, hLd, hN, hNs, st', B₂⟩ := kts_enter hr.gnd.below hr.fr hr.news hA hr.gnd.fn
  refine hng ?_
  clear hng
  have D' : KtsDicts ((c.env :: c.outer).filterMap (·.frame)) (hideAll s.heap (W.N.map (·.1))) := fun b hb => by
    rcases kts_mem hb with rfl | hb
    · exact ⟨oL, es, ep, hLg, hLd⟩
    · refine Classical.byContradiction fun hng => ?_
      obtain ⟨o, es', n', ho', hd'⟩ := hr.gnd.dicts b hb
      refine hng ?_
      clear hng
      exact ⟨o, es', n', st' b o ho', hd'⟩
  have gnd : Gnd G ⟨c.A, c.env :: c.outer, hideAll s.heap (W.N.map (·.1)), qual, scope, s.heap.objs.size, f, cdv, none, r, none⟩ false (hideAll s.heap (W.N.map (·.1))) :=
    ⟨KtsTurn.refl, fun _ => rfl, B₂, hr.gnd.kin.keeps st', hr.gnd.top.keeps st', hr.gnd.kb, hr.gnd.tb, D', hk, show c.A₀.depth + 1 + 1 + r < recursionLimit by lia, show c.A₀.units + 3 + 3 + 8 * r + 80 < cLine by lia⟩
  refine wpC_mono (h c.A (c.env :: c.outer) _ s.heap.objs.size rfl W _ _ _ ⟨gnd, ⟨CpOk.no, zip_lookup hnd hvs hlen, hr.wok.len, hr.wok.nodup, hr.wok.lists⟩, ⟨hns, fun b o e => hk₁ b o (of_hideAll _ e), Nat.le_of_eq (hideAll_size _ _)⟩,
    fun p hp => ⟨hk₁ _ _ (hr.news p hp).1, Nat.ne_of_lt (Heap.lt_size (hr.news p hp).1), hideAll_none _ (List.mem_map_of_mem hp)⟩, hr.gens, hr.os⟩) (fun fl s' hq => ?_) fun e s' hx => ?_
  · refine Classical.byContradiction fun hng => ?_
    obtain ⟨_, _, _, _, _, _, _, _, hp⟩ := hq
    refine hng ?_
    clear hng
    exact hp.elim
  · refine Classical.byContradiction fun hng => ?_
    obtain ⟨W', st'', cls, fl, l, ⟨ea, g', m', ws, rfl, hgn, hos, co, hth⟩, htn, hX⟩ := hx
    refine hng ?_
    clear hng
    obtain rfl : g' = _ := co.gnd.same htn
    have core : Core G c W' ⟨st.env, st''.ls, st.tn⟩ h₀ m := ⟨hr.gnd, hr.wok.back l co.wok _⟩
    have FG : Fr h₀ c.L (hideAll s.heap (W.N.map (·.1))) m := ⟨hN _ hLg, st', hr.fr.above⟩
    rcases hth with ⟨_, h₂, F₂, N₂, hmade⟩ | ⟨_, g₂, t, F₂, R₂, up₂⟩
    · exact leave_raiseS B₂ hmade F₂ N₂ (fun h' t R _ up => ⟨W', _, cls, true, l, ⟨ea, h₀, m, ws, rfl, hgn, hos, core, .inr ⟨rfl, _, t, FG, R, up⟩⟩, hX⟩) hk
    · exact leave_onS B₂ F₂ R₂ up₂ (fun h' R _ up => ⟨W', _, cls, true, l, ⟨ea, h₀, m, ws, rfl, hgn, hos, core, .inr ⟨rfl, _, t, FG, R, up⟩⟩, hX⟩)
section
variable {G : Gl} {c : Ac} {st : St} {X : XPost}
/-- an assert that fails -/
theorem as_assertF {P : KF} {t : Expr} {pos : Pos} {env : Env} (hh : c.A.handled = none) (h : AB G c (isTrue t env (eval t env)) st (fun q st₁ => q = false ∧ X "AssertionError" false st₁) X) : AS G c (exec (.Assert t none pos) env) st P X := by
  intro W s h₀ m hr
  refine wpAny_Assert hh (h.step (.refl W) hr (fun _ _ x => x) fun W₁ st₁ d h₁ m₁ v s₁ l₁ _ r₁ p₁ q₁ => ?_)
  obtain rfl : v = d := p₁
  obtain ⟨rfl, q₁⟩ := q₁
  exact fun h' e hm => ⟨W₁, st₁, "AssertionError", false, l₁, ⟨e, h₁, m₁, [], rfl, r₁.gens, r₁.os, ⟨r₁.gnd, r₁.wok⟩, .inl ⟨rfl, s₁.heap, r₁.fr, r₁.news, hm.of⟩⟩, q₁⟩
/-- a while, its turns in a run under the claim's caller -/
theorem cs_while {P : KF} {t : Expr} {body : List Stmt} {pos : Pos} {env : Env} (I : Nat → St → Prop)
    (turn : ∀ n st₁, I n st₁ → AB G c (isTrue t env (eval t env)) st₁ (fun b st₂ => (b = true → CS G c (execs body env) st₂ (loopK (fun st₃ => ∃ k, k < n ∧ I k st₃) P) NoX) ∧ (b = false → P .next st₂)) NoX)
    (n : Nat) (h : I n st) : CS G c (exec (.While t body [] pos) env) st P X := by
  intro W s h₀ m hr
  refine wpC_While (codeC_whileLoop (fun k s' => ∃ W' st' h₀' m', W.Le W' ∧ Rel G c W' st' h₀' m' s' ∧ I k st') ?_ n ⟨W, st, h₀, m, .refl W, hr, h⟩)
  rintro k s' hj2
  refine Classical.byContradiction fun hng => ?_
  obtain ⟨W', st', h₀', m', l', r', hi⟩ := hj2
  refine hng ?_
  clear hng
  refine wpC_of ((turn k st' hi).step l' r' (fun e s x => (xp_no x).elim) fun W₁ st₁ d h₁' m₁' v s₁ l₁ _ r₁ p₁ h₁ => ?_)
  obtain rfl : v = d := p₁
  cases v with
  | false => exact rep_done (af := .next) l₁ r₁ rfl (h₁.2 rfl)
  | true =>
    refine wpC_mono (h₁.1 rfl W₁ s₁ _ _ r₁) (fun f s₂ q => ?_) fun e s₂ x => xp_no x
    refine Classical.byContradiction fun hng => ?_
    obtain ⟨W₂, st₂, af, _, _, l₂, r₂, p₂, h₂⟩ := q
    refine hng ?_
    clear hng
    have go : (∃ j, j < k ∧ I j st₂) → ∃ j, j < k ∧ ∃ W' st' h₀' m', W.Le W' ∧ Rel G c W' st' h₀' m' s₂ ∧ I j st' := fun ⟨j, hj, hI⟩ => ⟨j, hj, W₂, st₂, _, _, l₁.trans l₂, r₂, hI⟩
    exact turn_end (R := fun f s => match f with | .next => ∃ j, j < k ∧ ∃ W' st' h₀' m', W.Le W' ∧ Rel G c W' st' h₀' m' s ∧ I j st' | .cont => ∃ j, j < k ∧ ∃ W' st' h₀' m', W.Le W' ∧ Rel G c W' st' h₀' m' s ∧ I j st' | .brk => QP RepF G c W P .next s | .ret v => QP RepF G c W P (.ret v) s) (l₁.trans l₂) r₂ p₂ h₂ (fun q => ⟨go q, go q⟩) id fun _ q => q
end

theorem wpC_Try {prog : Program} {w : World} {A : Around} {E : Value → Shared → Prop} {s : Shared} {env : Env} {body : List Stmt} {h₀ : ExceptHandler} {hs : List ExceptHandler} {pos : Pos} {Q : Flow → Shared → Prop}
    (h : wpC (model prog w) A (execs body env) Q
      (fun e s₁ => wpAny (model prog w) A (noteFrame e env) (fun _ s₂ => wpAny (model prog w) A (setFlight e none) (fun _ s₃ => wpAny (model prog w) A (handleBy e env (h₀ :: hs)) Q E s₃) E s₂) E s₁) s) :
    wpC (model prog w) A (exec (.Try body (h₀ :: hs) [] [] pos) env) Q E s := by
  rw [arm_exec_Try]
  refine wpC_bind (wpC_of (wpAny_standAt ?_))
  show wpC _ _ ((execs body env).attempt >>= _) _ _ s
  refine wpC_bind (wpC_attempt (wpC_mono h (fun f s₁ h₁ => ?_) fun e s₁ h₁ => ?_))
  · cases f with
    | next => exact wpC_of (wpAny_execs_nil h₁)
    | brk => exact wpC_pure h₁
    | cont => exact wpC_pure h₁
    | ret v => exact wpC_pure h₁
  · exact wpC_of (wpAny_bind (wpAny_mono h₁ (fun _ s₂ h₂ => (show wpAny _ _ (setFlight e none >>= fun _ => handleBy e env (h₀ :: hs)) _ _ s₂ from wpAny_bind h₂)) fun _ _ x => x))
/-- what a clause of a builtin exception asks -/
structure Cls (G : Gl) (c : Ac) (x : Str) (T : String) : Prop where
  hx : nsIn G.K mainGlobals x = some none
  hv : bootBuiltins x = some (.type T)
  hn : x ≠ "__name__"
  hexc : isSubtype (.type T) (.type "BaseException") = pure true
  hnt : isSubtype (.type ((Manifest.find? T).elim "type" fun y => y.metatype)) (.type "tuple") = pure false
  hsub : isSubtype (.type T) (.type T) = pure true
  hkd : c.env.kindOf x = some .globalImplicit
  hd : (x == ("__debug__" : Str)) = false
section
variable {G : Gl} {c : Ac} {st : St} {X : XPost}
theorem caught2 {P : KF} {x y : Str} {T1 T2 cls : String} {np nq p1 p2 hp hq : Pos} (hm : c.hm = none) (c1 : Cls G c x T1) (c2 : Cls G c y T2) (h12 : isSubtype (.type T2) (.type T1) = pure false) (hc : cls = T1 ∨ cls = T2)
    {W₀ W₁ : Wd} (l₁ : W₀.Le W₁) {s' : Shared} {ea t : Addr} {h₁ g : Heap} {m₁ : Str → Option Value} {vs : List Value} (hgn : s'.gens = #[]) (hos : s'.os = G.os) (co : Core G c W₁ st h₁ m₁) (F : Fr h₁ c.L g m₁)
    (R : RaisedS G.base g (c.env :: c.outer) ea (.type cls) t vs W₁.N s'.heap) (up : g.UpToSlots s'.heap) (hP : P .next ⟨st.env, st.ls, true⟩) :
    wpAny (model G.prog G.w) c.A (noteFrame (.ref ea) c.env) (fun _ s₂ => wpAny (model G.prog G.w) c.A (setFlight (.ref ea) none) (fun _ s₃ =>
      wpAny (model G.prog G.w) c.A (handleBy (.ref ea) c.env [.ExceptHandler (some (.Name x np)) none [.Pass p1] hp, .ExceptHandler (some (.Name y nq)) none [.Pass p2] hq]) (QP RepF G c W₀ P) (fun _ _ => False) s₃) (fun _ _ => False) s₂) (fun _ _ => False) s' := by
  refine Classical.byContradiction fun hng => ?_
  obtain ⟨A₀, outer, g₀, nm, sc, L, fa, cd, hm', room, cp⟩ := c
  refine hng ?_
  clear hng
  cases hm
  refine Classical.byContradiction fun hng => ?_
  obtain ⟨⟨B, hB, hBG, hl, hfl, hnew⟩, htup⟩ := R
  refine hng ?_
  clear hng
  have hL : B.get? L = none := by
    refine Classical.byContradiction fun hng => ?_
    obtain ⟨_, ⟨L', _, hf, hn', _⟩, _⟩ := hfl.2.2.1
    refine hng ?_
    clear hng
    obtain rfl : L = L' := Option.some.inj hf
    exact hn'
  refine wpAny_looks_onW (Around.frames_deeper co.gnd.below.stack) rfl hfl fun h₄ hheld₄ hsm₄ => ?_
  refine wpAny_landsW hheld₄ fun h₅ hheld hsm₅' => ?_
  have hsm₅ := hsm₄.trans hsm₅'
  refine Classical.byContradiction fun hng => ?_
  obtain ⟨g₅, T₅, F₅, K₅⟩ := kts_ground co.gnd.below F hBG hheld.1 (up.trans hsm₅)
  have X₅ : G.K.In g₅ := co.gnd.kb.keeps K₅.stays
  have P₅ : TopRead G.p G.loose G.mg G.mb g₅ := topRead_of (co.gnd.tb.keeps K₅.stays)
  obtain ⟨ob, hob, hobc⟩ := hheld.there
  refine hng ?_
  clear hng
  have hit : ∀ {pp : Pos} (E' : Value → Shared → Prop), wpAny (model G.prog G.w) ((A₀.deeper (envOf nm sc L fa cd)).mark (some (.ref ea))) (setFlight (.ref ea) none) (fun _ s₃ => wpAny (model G.prog G.w) ((A₀.deeper (envOf nm sc L fa cd)).mark (some (.ref ea))) (execs [.Pass pp] (envOf nm sc L fa cd)) (QP RepF G ⟨A₀, outer, g₀, nm, sc, L, fa, cd, none, room, cp⟩ W₀ P) E' s₃) E' { s' with heap := h₅ } := by
    intro pp E'
    refine lands_againW (s := { s' with heap := h₅ }) hheld fun h₆ hfl₆ hsm₆ => ?_
    refine Classical.byContradiction fun hng => ?_
    obtain ⟨g₆, T₆, F₆, K₆⟩ := kts_ground co.gnd.below F hBG hfl₆.1 ((up.trans hsm₅).trans hsm₆)
    refine hng ?_
    clear hng
    refine wpAny_execs_cons (wpAny_Pass (wpAny_execs_nil ?_))
    have Nl : News g₆ L h₆ W₁.N := fun q hq => ⟨hfl₆.1 _ _ (hl q hq).1, (fun z => by have := (hl q hq).1; rw [z, hL] at this; cases this), T₆.none_ _ (kts_none F.keep (hl q hq).2.1)⟩
    exact ⟨W₁, ⟨st.env, st.ls, true⟩, .next, g₆, m₁, l₁, ⟨⟨co.gnd.turn.trans T₆, fun q => (nomatch (q : true = false)), K₆, co.gnd.kb.keeps K₆.stays, co.gnd.tb.keeps K₆.stays, co.gnd.kb, co.gnd.tb, co.gnd.dicts.turn T₆, co.gnd.fn, co.gnd.dep, co.gnd.unt⟩, ⟨co.wok.cpo, co.wok.loc, co.wok.len, co.wok.nodup, co.wok.lists⟩, F₆, Nl, hgn, hos⟩, rfl, hP⟩
  rcases hc with rfl | rfl
  · exact wpAny_handleBy_builtin (A := A₀.deeper (envOf nm sc L fa cd)) (X := cls) (T := cls) (b := true) c1.hexc c1.hnt c1.hsub (name_B F₅ X₅ P₅ c1.hx c1.hv c1.hn ⟨rfl, ⟨ob, hob, hobc⟩, hit _⟩ co.gnd.fn c1.hkd c1.hd)
  · exact wpAny_handleBy_builtin (A := A₀.deeper (envOf nm sc L fa cd)) (X := cls) (T := T1) (b := false) c1.hexc c1.hnt h12 (name_B F₅ X₅ P₅ c1.hx c1.hv c1.hn ⟨rfl, ⟨ob, hob, hobc⟩,
      wpAny_handleBy_builtin (A := A₀.deeper (envOf nm sc L fa cd)) (X := cls) (T := cls) (b := true) c2.hexc c2.hnt c2.hsub (name_B F₅ X₅ P₅ c2.hx c2.hv c2.hn ⟨rfl, ⟨ob, hob, hobc⟩, hit _⟩ co.gnd.fn c2.hkd c2.hd)⟩ co.gnd.fn c1.hkd c1.hd)
/-- try: .. except X: pass; except Y: pass -/
theorem cs_try2 {P : KF} {x y : Str} {T1 T2 : String} {body : List Stmt} {np nq p1 p2 hp hq pos : Pos} (hm : c.hm = none) (c1 : Cls G c x T1) (c2 : Cls G c y T2) (h12 : isSubtype (.type T2) (.type T1) = pure false)
    (h : CS G c (execs body c.env) st P (fun cls fl st₁ => fl = true ∧ (cls = T1 ∨ cls = T2) ∧ P .next ⟨st₁.env, st₁.ls, true⟩)) :
    CS G c (exec (.Try body [.ExceptHandler (some (.Name x np)) none [.Pass p1] hp, .ExceptHandler (some (.Name y nq)) none [.Pass p2] hq] [] [] pos) c.env) st P X := by
  intro W s h₀ m hr
  refine wpC_mono (E := fun _ _ => False) (Q := QP RepF G c W P) (wpC_Try (wpC_mono (h W s h₀ m hr) (fun _ _ q => q) fun e s' hx => ?_)) (fun _ _ q => q) (fun _ _ q => q.elim)
  refine Classical.byContradiction fun hng => ?_
  obtain ⟨W₁, st₁, cls, fl, l₁, ⟨ea, h₁, m₁, vs, rfl, hg, ho, co, th⟩, rfl, q₁, q₂⟩ := hx
  refine hng ?_
  clear hng
  rcases th with ⟨q, _⟩ | ⟨_, g, t, F, R, up⟩
  · cases q
  · exact caught2 hm c1 c2 h12 q₁ l₁ hg ho co F R up q₂
end

/-! the calendar, plain -/
abbrev leapP (y : Int) : Prop := y % 4 = 0 ∧ (y % 100 ≠ 0 ∨ y % 400 = 0)
def dimT : List Int := [-1, 31, 28, 31, 30, 31, 30, 31, 31, 30, 31, 30, 31]
def dbmT : List Int := [-1, 0, 31, 59, 90, 120, 151, 181, 212, 243, 273, 304, 334]
def dby (y : Int) : Int := (y - 1) * 365 + (y - 1) / 4 - (y - 1) / 100 + (y - 1) / 400
def lpI (y : Int) : Int := if leapP y then 1 else 0
def tb (m : Int) : Int := dbmT.getD m.toNat 0
def td (m : Int) : Int := dimT.getD m.toNat 0
/-- days ahead of the month, in the year -/
def dbm (y m : Int) : Int := tb m + if 2 < m then lpI y else 0
def dim (y m : Int) : Int := td m + if m = 2 then lpI y else 0
def Valid (y m d : Int) : Prop := 1 ≤ m ∧ m ≤ 12 ∧ 1 ≤ d ∧ d ≤ dim y m
def ordn (y m d : Int) : Int := dby y + dbm y m + d
theorem lpI_cases (y : Int) : (leapP y ∧ lpI y = 1) ∨ (¬ leapP y ∧ lpI y = 0) := by
  by_cases h : leapP y
  · exact .inl ⟨h, if_pos h⟩
  · exact .inr ⟨h, if_neg h⟩
theorem lpI_range (y : Int) : 0 ≤ lpI y ∧ lpI y ≤ 1 := by
  rcases lpI_cases y with ⟨_, e⟩ | ⟨_, e⟩
  · rw [e]; decide
  · rw [e]; decide
theorem emod_per {a w : Int} (k q : Int) (h : 400 = k * q) : (400 * a + w) % k = w % k := by
  rw [h, Int.mul_assoc, Int.add_comm, Int.add_mul_emod_self_left]
theorem ediv_per {a w : Int} (k q : Int) (hk : k ≠ 0) (h : 400 = k * q) : (400 * a + w) / k = w / k + q * a := by
  rw [h, Int.mul_assoc, Int.add_comm, Int.add_mul_ediv_left _ _ hk]
theorem leap_per {a w : Int} : leapP (400 * a + w) ↔ leapP w := by
  unfold leapP
  rw [emod_per 4 100 rfl, emod_per 100 4 rfl, emod_per 400 1 rfl]
theorem dby_per {a w : Int} : dby (400 * a + w) = 146097 * a + dby w := by
  unfold dby
  rw [Int.add_sub_assoc (400 * a) w 1, ediv_per 4 100 (by decide) rfl, ediv_per 100 4 (by decide) rfl, ediv_per 400 1 (by decide) rfl]
  generalize (w - 1) / 4 = u
  generalize (w - 1) / 100 = v
  generalize (w - 1) / 400 = x
  lia
theorem lpI_per {a w : Int} : lpI (400 * a + w) = lpI w := ite_congr (propext leap_per) (fun _ => rfl) fun _ => rfl
/-- a year's place in its four hundred -/
theorem yr (y : Int) : ∃ (a : Int) (z : Nat), z < 400 ∧ y = 400 * a + ((z + 1 : Nat) : Int) := ⟨(y - 1) / 400, ((y - 1) % 400).toNat, by lia, by lia⟩
theorem succ_tab : ∀ z : Nat, z < 400 → dby ((z + 1 : Nat) + 1) = dby ((z + 1 : Nat) : Int) + 365 + lpI ((z + 1 : Nat) : Int) := by decide +kernel
theorem dby_succ (y : Int) : dby (y + 1) = dby y + 365 + lpI y := by
  refine Classical.byContradiction fun hng => ?_
  obtain ⟨a, z, hz, rfl⟩ := yr y
  refine hng ?_
  clear hng
  rw [Int.add_assoc, dby_per, dby_per, lpI_per, succ_tab z hz, Int.add_assoc (146097 * a), Int.add_assoc (146097 * a)]
theorem dby_mono (y : Int) (k : Nat) : dby y ≤ dby (y + k) := by
  induction k with
  | zero => rw [show y + ((0 : Nat) : Int) = y from Int.add_zero y]; exact Int.le_refl _
  | succ k ih =>
    rw [show y + ((k + 1 : Nat) : Int) = y + k + 1 by lia, dby_succ]
    have := (lpI_range (y + k)).1
    lia
theorem dby_lt {y z : Int} (h : y < z) : dby y + 365 + lpI y ≤ dby z := by
  rw [← dby_succ]
  have := dby_mono (y + 1) (z - (y + 1)).toNat
  rwa [Int.toNat_of_nonneg (by lia), show y + 1 + (z - (y + 1)) = z by lia] at this
/-- the twelve rows -/
theorem mtab : ∀ k : Nat, k < 13 → 1 ≤ k → 28 ≤ dimT.getD k 0 ∧ dimT.getD k 0 ≤ 31 ∧ 0 ≤ dbmT.getD k 0 ∧ dbmT.getD k 0 + dimT.getD k 0 ≤ 365 := by decide
theorem mtabG : ∀ k : Nat, k < 13 → 1 ≤ k → 32 * (k : Int) ≤ dbmT.getD k 0 + 50 ∧ dbmT.getD k 0 + dimT.getD k 0 + 50 < 32 * ((k : Int) + 2) ∧ (k = 12 → dbmT.getD k 0 + dimT.getD k 0 + 50 < 416) := by decide
theorem mtabN : ∀ k : Nat, k < 12 → 1 ≤ k → dbmT.getD (k + 1) 0 = dbmT.getD k 0 + dimT.getD k 0 := by decide
theorem mtab2 : ∀ j < 13, ∀ k < 13, 1 ≤ j → j < k → dbmT.getD j 0 + dimT.getD j 0 ≤ dbmT.getD k 0 := by decide
theorem m_nat {m : Int} (h1 : 1 ≤ m) (h2 : m ≤ 12) : ∃ k : Nat, m = k ∧ m.toNat = k ∧ k < 13 ∧ 1 ≤ k := ⟨m.toNat, by lia, rfl, by lia, by lia⟩
theorem dbm_lt {y m m' : Int} (h1 : 1 ≤ m) (h2 : m < m') (h3 : m' ≤ 12) : dbm y m + dim y m ≤ dbm y m' := by
  refine Classical.byContradiction fun hng => ?_
  obtain ⟨j, e1, e2, j1, j2⟩ := m_nat h1 (by lia)
  obtain ⟨k, f1, f2, k1, k2⟩ := m_nat (m := m') (by lia) h3
  refine hng ?_
  clear hng
  have := mtab2 j j1 k k1 j2 (by lia)
  have l := lpI_range y
  unfold dbm dim tb td
  rw [e2, f2]
  generalize dbmT.getD j 0 = a at *
  generalize dimT.getD j 0 = b at *
  generalize dbmT.getD k 0 = c at *
  split <;> split <;> split <;> lia
theorem valid_range {y m d : Int} (h : Valid y m d) : 1 ≤ dbm y m + d ∧ dbm y m + d ≤ 365 + lpI y := by
  refine Classical.byContradiction fun hng => ?_
  obtain ⟨h1, h2, h3, h4⟩ := h
  obtain ⟨j, e1, e2, j1, j2⟩ := m_nat h1 h2
  refine hng ?_
  clear hng
  have t := mtab j j1 j2
  have l := lpI_range y
  unfold dim td at h4
  unfold dbm tb
  rw [e2] at h4 ⊢
  generalize dbmT.getD j 0 = a at *
  generalize dimT.getD j 0 = b at *
  refine Classical.byContradiction fun hng => ?_
  obtain ⟨_, _, t1, t2⟩ := t
  refine hng ?_
  clear hng
  split at h4 <;> split <;> lia
theorem year_unique {y y' a a' : Int} (h1 : 1 ≤ a) (h2 : a ≤ 365 + lpI y) (h1' : 1 ≤ a') (h2' : a' ≤ 365 + lpI y') (e : dby y + a = dby y' + a') : y = y' ∧ a = a' := by
  rcases Int.lt_trichotomy y y' with q | q | q
  · have := dby_lt q
    lia
  · subst q
    exact ⟨rfl, by lia⟩
  · have := dby_lt q
    lia
theorem valid_unique {y m d y' m' d' : Int} (h : Valid y m d) (h' : Valid y' m' d') (e : ordn y m d = ordn y' m' d') : y = y' ∧ m = m' ∧ d = d' := by
  have r := valid_range h
  have r' := valid_range h'
  unfold ordn at e
  rw [Int.add_assoc, Int.add_assoc] at e
  refine Classical.byContradiction fun hng => ?_
  obtain ⟨rfl, e2⟩ := year_unique r.1 r.2 r'.1 r'.2 e
  obtain ⟨h1, h2, h3, h4⟩ := h
  obtain ⟨k1, k2, k3, k4⟩ := h'
  refine hng ?_
  clear hng
  rcases Int.lt_trichotomy m m' with q | q | q
  · have := dbm_lt (y := y) h1 q k2
    lia
  · subst q
    exact ⟨rfl, rfl, by lia⟩
  · have := dbm_lt (y := y) k1 q h2
    lia
/-- what _ord2ymd reckons -/
def oY (n : Int) : Int :=
  (n - 1) / 146097 * 400 + 1 + ((n - 1) % 146097 / 36524 * 100 + (n - 1) % 146097 % 36524 / 1461 * 4 + (n - 1) % 146097 % 36524 % 1461 / 365)
def oR (n : Int) : Int := (n - 1) % 146097 % 36524 % 1461 % 365
set_option synthInstance.maxHeartbeats 400000 in
set_option synthInstance.maxSize 2000 in
theorem cyc_tab : ∀ z : Nat, z < 400 → (leapP ((z + 1 : Nat) : Int) ↔ (z % 4 = 3 ∧ (z % 100 / 4 ≠ 24 ∨ z / 100 = 3))) ∧ dby ((z + 1 : Nat) : Int) = ((36524 * (z / 100) + (1461 * (z % 100 / 4) + 365 * (z % 4)) : Nat) : Int) := by decide +kernel
theorem dm {k q r x : Int} (h : 0 ≤ r ∧ r < k) (hx : x = k * q + r) : x / k = q ∧ x % k = r := by
  subst hx
  have hk : k ≠ 0 := Int.ne_of_gt (Int.lt_of_le_of_lt h.1 h.2)
  rw [Int.add_comm, Int.add_mul_ediv_left _ _ hk, Int.ediv_eq_zero_of_lt h.1 h.2, Int.add_mul_emod_self_left, Int.emod_eq_of_lt h.1 h.2]
  exact ⟨Int.zero_add q, rfl⟩
theorem o_fwd {n a c f i r : Int} (h1 : 0 ≤ r ∧ r < 365) (h2 : 0 ≤ 365 * i + r ∧ 365 * i + r < 1461) (h3 : 0 ≤ 1461 * f + (365 * i + r) ∧ 1461 * f + (365 * i + r) < 36524) (h4 : 0 ≤ 36524 * c + (1461 * f + (365 * i + r)) ∧ 36524 * c + (1461 * f + (365 * i + r)) < 146097)
    (hn : n - 1 = 146097 * a + (36524 * c + (1461 * f + (365 * i + r)))) : (n - 1) / 146097 = a ∧ (n - 1) % 146097 / 36524 = c ∧ (n - 1) % 146097 % 36524 / 1461 = f ∧ (n - 1) % 146097 % 36524 % 1461 / 365 = i ∧ (n - 1) % 146097 % 36524 % 1461 % 365 = r := by
  obtain ⟨e1, e2⟩ := dm h4 hn
  obtain ⟨e3, e4⟩ := dm h3 rfl
  obtain ⟨e5, e6⟩ := dm h2 rfl
  obtain ⟨e7, e8⟩ := dm h1 rfl
  rw [e2, e4, e6]
  exact ⟨e1, e3, e5, e7, e8⟩
/-- the Monday of the year's first week -/
def w1 (y : Int) : Int := dby y + 1 - (dby y + 1 + 6) % 7 + if 3 < (dby y + 1 + 6) % 7 then 7 else 0
theorem w1_spec (y : Int) : w1 y % 7 = 1 ∧ dby y + 1 ≤ w1 y + 3 ∧ w1 y + 3 ≤ dby y + 7 := by
  unfold w1
  generalize dby y = t
  split <;> lia
def WeekOk (y w : Int) : Prop := (1 ≤ w ∧ w ≤ 52) ∨ (w = 53 ∧ ((dby y + 1) % 7 = 4 ∨ ((dby y + 1) % 7 = 3 ∧ leapP y)))

/-! the laws' own calendar -/
def gN (z : Nat) : Nat := 365 * z + z / 4 - z / 100 + z / 400
def fN (d : Nat) : Nat := d - d / 1460 + d / 36524 - d / 146096
set_option synthInstance.maxHeartbeats 400000 in
set_option synthInstance.maxSize 2000 in
theorem yo_tab : ∀ z : Nat, z < 400 → (365 * z ≤ fN (gN z) ∧ fN (gN (z + 1) - 1) < 365 * (z + 1) ∧ gN (z + 1) ≤ 146097) ∧ (dby ((z + 1 : Nat) : Int) = gN z ∧ (gN (z + 1) : Int) = gN z + 365 + lpI ((z + 1 : Nat) : Int) ∧ (gN z : Int) = 365 * z + (z : Int) / 4 - (z : Int) / 100) := by decide +kernel
theorem fN_mono {d e : Nat} (h : d ≤ e) (he : e < 146097) : fN d ≤ fN e := by
  have a : d - d / 1460 ≤ e - e / 1460 := by lia
  have b : d / 36524 - d / 146096 ≤ e / 36524 - e / 146096 := by lia
  unfold fN
  lia
def mpI (m : Int) : Int := if 2 < m then m - 3 else m + 9
def doyI (m d : Int) : Int := (153 * mpI m + 2) / 5 + d - 1
set_option synthInstance.maxHeartbeats 400000 in
set_option synthInstance.maxSize 2000 in
theorem mtabM : ∀ m : Nat, m < 13 → ∀ d : Nat, d < 32 → 1 ≤ m → 1 ≤ d → (d : Int) ≤ dimT.getD m 0 + (if m = 2 then 1 else 0) →
    (5 * doyI m d + 2) / 153 = mpI m ∧ (mpI m + 2) % 12 + 1 = m ∧ mpI m / 10 = (if 2 < m then 0 else 1) ∧ dbmT.getD m 0 + d + 305 = doyI m d + (if 2 < m then 365 else 0) ∧ 0 ≤ doyI m d ∧ doyI m d < 365 + (if m = 2 ∧ 28 < d then 1 else 0) := by decide +kernel
theorem cyc (y : Int) : ∃ (a : Int) (z : Nat), z < 400 ∧ 400 * a + z = y := ⟨y / 400, (y % 400).toNat, by lia, by lia⟩
/-- a date told from the first of March on -/
theorem march {y m d n : Int} (hv : Valid y m d) (hn : ordn y m d = n) : ∃ (a : Int) (z : Nat) (mp doy : Int), z < 400 ∧ 0 ≤ doy ∧ doy < 365 + lpI (400 * a + z + 1) ∧ n + 305 = dby (400 * a + z + 1) + doy ∧ d = doy - (153 * mp + 2) / 5 + 1 ∧ (5 * doy + 2) / 153 = mp ∧ 400 * a + z + mp / 10 = y ∧ (mp + 2) % 12 + 1 = m := by
  refine Classical.byContradiction fun hng => ?_
  obtain ⟨h1, h2, h3, h4⟩ := hv
  obtain ⟨j, rfl, e2, j1, j2⟩ := m_nat h1 h2
  obtain ⟨i, rfl⟩ : ∃ i : Nat, d = i := ⟨d.toNat, (Int.toNat_of_nonneg (Int.le_trans (by decide) h3)).symm⟩
  refine hng ?_
  clear hng
  have l := lpI_range y
  have t := mtab j j1 j2
  subst hn
  unfold dim td at h4
  unfold ordn dbm tb
  rw [e2] at h4 ⊢
  have h4' : (i : Int) ≤ dimT.getD j 0 + (if j = 2 then 1 else 0) ∧ (j = 2 ∧ 28 < i → lpI y = 1) ∧ i < 32 := by
    have t2 : j = 2 → dimT.getD j 0 = 28 := by rintro rfl; rfl
    clear h1 h2 h3
    generalize dimT.getD j 0 = b at *
    lia
  refine Classical.byContradiction fun hng => ?_
  obtain ⟨t1, t2, t3, t4, t5, t6⟩ := mtabM j j1 i h4'.2.2 j2 (Int.ofNat_le.mp h3) h4'.1
  refine hng ?_
  clear hng
  have e6 : ∀ x : Int, x = doyI j i - (153 * mpI j + 2) / 5 + 1 ↔ x = i := fun x => by unfold doyI; generalize (153 * mpI j + 2) / 5 = u; lia
  by_cases q : 2 < j
  · refine Classical.byContradiction fun hng => ?_
    obtain ⟨a, z, hz, ha⟩ := cyc y
    refine hng ?_
    clear hng
    rw [if_pos q] at t3 t4
    rw [if_neg (fun w => by rw [w.1] at q; exact absurd q (by decide))] at t6
    refine ⟨a, z, mpI j, doyI j i, hz, t5, ?_, ?_, (e6 _).mpr rfl, t1, by rw [t3, Int.add_zero]; exact ha, t2⟩
    · have := lpI_range (400 * a + z + 1)
      lia
    · rw [ha, dby_succ, if_pos (show (2 : Int) < (j : Int) from Int.ofNat_lt.mpr q)]
      lia
  · refine Classical.byContradiction fun hng => ?_
    obtain ⟨a, z, hz, ha⟩ := cyc (y - 1)
    refine hng ?_
    clear hng
    rw [if_neg q] at t3 t4
    have hy : 400 * a + (z : Int) + 1 = y := by rw [ha]; exact Int.sub_add_cancel y 1
    refine ⟨a, z, mpI j, doyI j i, hz, t5, ?_, ?_, (e6 _).mpr rfl, t1, by rw [t3]; exact hy, t2⟩
    · rw [hy]
      refine Int.lt_of_lt_of_le t6 (Int.add_le_add_left ?_ 365)
      by_cases w : j = 2 ∧ 28 < i
      · rw [if_pos w, h4'.2.1 w]; exact Int.le_refl 1
      · rw [if_neg w]; exact l.1
    · rw [hy, if_neg (fun w : (2 : Int) < (j : Int) => q (Int.ofNat_lt.mp w))]
      lia
theorem k_lt {g g' k : Nat} {l : Int} (h : (g' : Int) = g + 365 + l) (hk : (k : Int) < 365 + l) : g + k ≤ g' - 1 := by lia
theorem day_out {g k z : Nat} {q p : Int} (h : (g : Int) = 365 * z + q - p) : ((g + k : Nat) : Int) - 365 * z - q + p = k := by lia
theorem law_date {y m d n : Int} (hv : Valid y m d) (hn : ordn y m d = n) : ∃ era day year day' month : Int, (n + 305) / 146097 = era ∧ (n + 305) % 146097 = day ∧ (day - day / 1460 + day / 36524 - day / 146096) / 365 = year ∧ day - 365 * year - year / 4 + year / 100 = day' ∧ (5 * day' + 2) / 153 = month ∧
    400 * era + year + month / 10 = y ∧ (month + 2) % 12 + 1 = m ∧ day' - (153 * month + 2) / 5 + 1 = d := by
  refine Classical.byContradiction fun hng => ?_
  obtain ⟨a, z, mp, doy, z4, d0, d1, en, ed, em, ey, emm⟩ := march hv hn
  obtain ⟨⟨t1, t2, t3⟩, t4, t5, t6⟩ := yo_tab z z4
  refine hng ?_
  clear hng
  rw [show 400 * a + (z : Int) + 1 = 400 * a + ((z + 1 : Nat) : Int) from Int.add_assoc _ _ _] at d1 en
  rw [lpI_per] at d1
  rw [dby_per, t4, Int.add_assoc] at en
  refine Classical.byContradiction fun hng => ?_
  obtain ⟨k, rfl⟩ : ∃ k : Nat, doy = k := ⟨doy.toNat, (Int.toNat_of_nonneg d0).symm⟩
  have lt := k_lt t5 d1
  have lt' : gN z + k < 146097 := Nat.lt_of_le_of_lt lt (Nat.lt_of_lt_of_le (Nat.sub_lt (Nat.lt_of_lt_of_le (Nat.succ_pos _) (Nat.le_trans (Nat.succ_le_of_lt (Nat.pos_of_ne_zero fun w => by rw [w] at t5; have := lpI_range ((z + 1 : Nat) : Int); lia)) (Nat.le_refl _))) (by decide)) t3)
  have f1 := fN_mono (Nat.le_add_right (gN z) k) lt'
  have f2 := fN_mono lt (Nat.lt_of_lt_of_le (Nat.sub_lt (Nat.pos_of_ne_zero fun w => by rw [w] at t5; have := lpI_range ((z + 1 : Nat) : Int); lia) (by decide)) t3)
  obtain ⟨e1, e2⟩ := dm (k := 146097) (q := a) (r := ((gN z + k : Nat) : Int)) ⟨Int.natCast_nonneg _, Int.ofNat_lt.mpr lt'⟩ en
  refine hng ?_
  clear hng
  have ez : ((gN z + k : Nat) : Int) - ((gN z + k : Nat) : Int) / 1460 + ((gN z + k : Nat) : Int) / 36524 - ((gN z + k : Nat) : Int) / 146096 = fN (gN z + k) := by
    generalize gN z + k = x
    unfold fN
    lia
  refine ⟨a, ((gN z + k : Nat) : Int), z, k, mp, e1, e2, ?_, day_out t6, em, ey, emm, ed.symm⟩
  rw [ez]
  exact congrArg Int.ofNat (Nat.div_eq_of_lt_le (by rw [Nat.mul_comm]; exact Nat.le_trans t1 f1) (by rw [Nat.mul_comm]; exact Nat.lt_of_le_of_lt f2 t2))

/-! figures -/
def fig : Nat → Nat → List Nat
  | 0, _ => []
  | k + 1, x => fig k (x / 10) ++ [48 + x % 10]
theorem fig_len : ∀ k x, (fig k x).length = k := by
  intro k
  induction k with
  | zero => exact fun _ => rfl
  | succ k ih => exact fun x => by show (fig k (x / 10) ++ [48 + x % 10]).length = _; rw [List.length_append, ih]; rfl
theorem fig_dig {k x c : Nat} (h : c ∈ fig k x) : 48 ≤ c ∧ c ≤ 57 := by
  induction k generalizing x with
  | zero => cases h
  | succ k ih =>
    rcases List.mem_append.mp h with q | q
    · exact ih q
    · rw [List.mem_singleton.mp q]
      lia
theorem fig_val : ∀ k x, NumText.digitsVal (fig k x) = x % 10 ^ k := by
  intro k
  induction k with
  | zero => exact fun x => (Nat.mod_one x).symm
  | succ k ih =>
    intro x
    show NumText.digitsVal (fig k (x / 10) ++ [48 + x % 10]) = _
    rw [NumText.digitsVal_snoc, ih, Nat.pow_succ', Nat.mod_mul]
    lia
theorem int_fig {k : Nat} (x : Nat) (h1 : 0 < k) (h2 : k ≤ 640) : PySem.intText? (tx (fig k x)) = some ((x % 10 ^ k : Nat) : Int) := by
  rw [intText_digits (x := tx (fig k x)) (fun c hc => fig_dig hc) (fun e => by have := fig_len k x; rw [show fig k x = [] from e] at this; exact absurd this (Nat.ne_of_lt h1)) (by rw [tx_len, fig_len]; lia)]
  exact congrArg (fun n : Nat => some (n : Int)) (fig_val k x)
theorem digit_to : ∀ d : Nat, d < 10 → (Nat.digitChar d).toNat = 48 + d := by decide
theorem fig_str : ∀ k x, x < 10 ^ k → (Nat.toDigits 10 (10 ^ k + x)).map Char.toNat = 49 :: fig k x := by
  intro k
  induction k with
  | zero =>
    intro x h
    have : x = 0 := by lia
    subst this
    rfl
  | succ k ih =>
    intro x h
    rw [Nat.pow_succ'] at h
    have t : Nat.toDigits 10 ((10 ^ k + x / 10)) ++ Nat.toDigits 10 (x % 10) = Nat.toDigits 10 (10 * (10 ^ k + x / 10) + x % 10) := Nat.toDigits_append_toDigits (by decide) (by have := Nat.pow_pos (n := k) (show 0 < 10 by decide); lia) (Nat.mod_lt _ (by decide))
    rw [show 10 ^ (k + 1) + x = 10 * (10 ^ k + x / 10) + x % 10 by rw [Nat.pow_succ']; lia, ← t, List.map_append, ih _ (by lia), Nat.toDigits_of_lt_base (Nat.mod_lt _ (by decide))]
    show 49 :: (fig k (x / 10) ++ [(Nat.digitChar (x % 10)).toNat]) = _
    rw [digit_to _ (Nat.mod_lt _ (by decide))]
    rfl
theorem str_fig {k : Nat} {x : Nat} (h : x < 10 ^ k) : Str.ofString (toString ((10 ^ k + x : Nat) : Int)) = tx (49 :: fig k x) := by
  have e := KIN.signs_num (10 ^ k + x)
  rw [fig_str k x h] at e
  exact congrArg Str.mk (Array.toList_inj.mp e)
/-- a sign among the figures -/
abbrev dg (c : Nat) : Prop := 48 ≤ c ∧ c ≤ 57
theorem cont_one (x : Str) (c : Nat) : Txt.contains x (tx [c]) = decide (c ∈ x.cps.toList) := StrLaws.found_one x c
theorem figs : (Str.ofString "0123456789").cps.toList = [48, 49, 50, 51, 52, 53, 54, 55, 56, 57] := by decide +kernel
theorem dig_in (c : Nat) : Txt.contains (Str.ofString "0123456789") (tx [c]) = decide (dg c) := by
  rw [cont_one, figs, decide_eq_decide]
  refine ⟨fun h => (show ∀ c ∈ [48, 49, 50, 51, 52, 53, 54, 55, 56, 57], 48 ≤ c ∧ c ≤ 57 by decide) c h, fun ⟨h1, h2⟩ => ?_⟩
  have := (show ∀ k < 10, 48 + k ∈ [48, 49, 50, 51, 52, 53, 54, 55, 56, 57] by decide) (c - 48) (Nat.sub_lt_left_of_lt_add h1 (Nat.lt_succ_of_le h2))
  rwa [Nat.add_sub_cancel' h1] at this

structure E0 where
  w : World
  mean : ExcName → Option Value
  mg : Str → Option Value
  mb : Str → Option Value
  base : Heap
  os : OsState
noncomputable def gl (e : E0) : Gl := ⟨PySem.Challenge.rw_dm0257_04.row.prog, e.w, Mine.hd04.heap_39 e.w.params, Mine.hd04.view_39, looseW hd04.view_39
      [Str.ofString "_DAYS_IN_MONTH", Str.ofString "_DAYS_BEFORE_MONTH", Str.ofString "_DI400Y", Str.ofString "_DI100Y",
        Str.ofString "_DI4Y", Str.ofString "_FRACTION_CORRECTION"], e.mean, e.mg, e.mb, e.base, e.os⟩
noncomputable def tab : List (Str × GV) := [
  (Str.ofString "MINYEAR", .int 1), (Str.ofString "MAXYEAR", .int 9999), (Str.ofString "_DAYS_IN_MONTH", .ro dimT), (Str.ofString "_DAYS_BEFORE_MONTH", .ro dbmT),
  (Str.ofString "_is_leap", .fn 28), (Str.ofString "_days_before_year", .fn 35), (Str.ofString "_days_in_month", .fn 42), (Str.ofString "_days_before_month", .fn 49), (Str.ofString "_ymd2ord", .fn 56),
  (Str.ofString "_DI400Y", .int 146097), (Str.ofString "_DI100Y", .int 36524), (Str.ofString "_DI4Y", .int 1461), (Str.ofString "_ord2ymd", .fn 66), (Str.ofString "_is_ascii_digit", .fn 73),
  (Str.ofString "_find_isoformat_datetime_separator", .fn 80), (Str.ofString "_parse_isoformat_date", .fn 87), (Str.ofString "_FRACTION_CORRECTION", .ro [100000, 10000, 1000, 100, 10]), (Str.ofString "_parse_hh_mm_ss_ff", .fn 95),
  (Str.ofString "_isoweek_to_gregorian", .fn 102), (Str.ofString "_isoweek1monday", .fn 109), (Str.ofString "_law_figures", .fn 116), (Str.ofString "_law_date", .fn 123), (Str.ofString "_law_week", .fn 130), (Str.ofString "_law_day", .fn 137),
  (Str.ofString "_law_sign", .fn 144), (Str.ofString "_law_clock", .fn 149),
  (Str.ofString "divmod", .blt "divmod"), (Str.ofString "len", .blt "len"), (Str.ofString "chr", .blt "chr"), (Str.ofString "all", .blt "all"),
  (Str.ofString "AssertionError", .typ "AssertionError"), (Str.ofString "ValueError", .typ "ValueError"), (Str.ofString "int", .typ "int"), (Str.ofString "str", .typ "str"), (Str.ofString "list", .typ "list"), (Str.ofString "range", .typ "range"), (Str.ofString "map", .typ "map")]
theorem forall_cons {α : Type} {p : α → Prop} {a : α} {l : List α} (h : p a) (r : ∀ x ∈ l, p x) : ∀ x ∈ a :: l, p x := fun x hx => by
  rcases List.mem_cons.mp hx with rfl | q
  · exact h
  · exact r x q
theorem gokB {G : Gl} {x : Str} {id : String} (h1 : nsIn G.K mainGlobals x = some none) (h2 : bootBuiltins x = some (.builtin id)) (h3 : x ≠ "__name__") : GOk G x (.blt id) := ⟨h1, h2, h3⟩
theorem gokT {G : Gl} {x : Str} {t : String} (h1 : nsIn G.K mainGlobals x = some none) (h2 : bootBuiltins x = some (.type t)) (h3 : x ≠ "__name__") : GOk G x (.typ t) := ⟨h1, h2, h3⟩
theorem tabOk (e : E0) : TabOk (gl e) tab := by
  unfold TabOk tab
  repeat refine forall_cons (by first
    | exact ⟨rfl, rfl⟩
    | exact ⟨_, rfl⟩
    | (dsimp only; exact gokB rfl (by boot_by_name) (by decide))
    | (dsimp only; exact gokT rfl (by boot_by_name) (by decide))
    | exact ⟨_, _, _, rfl, rfl, by repeat (first | exact IntsAre.nil | apply IntsAre.cons)⟩) ?_
  intro x hx
  cases hx
theorem mulL {a b : Int} (h1 : -(2 ^ 64) < a) (h2 : a < 2 ^ 64) : IntMulOk a b := IntMulOk.of_left (intBits_le_64 h1 h2)
theorem mulR {a b : Int} (h1 : -(2 ^ 64) < b) (h2 : b < 2 ^ 64) : IntMulOk a b := IntMulOk.of_right (intBits_le_64 h1 h2)
theorem spl {p : Prop} [Decidable p] {A B : Prop} (h1 : p → A) (h2 : ¬ p → B) : (decide p = true → A) ∧ (decide p = false → B) :=
  ⟨fun h => h1 (of_decide_eq_true h), fun h => h2 (of_decide_eq_false h)⟩
theorem splO {p : Prop} [Decidable p] {A B : Prop} (h1 : ¬ p → A) (h2 : p → B) : (decide p = false → A) ∧ (decide p = true → B) :=
  ⟨fun h => h1 (of_decide_eq_false h), fun h => h2 (of_decide_eq_true h)⟩
theorem splT {A B : Prop} (h : A) : (true = true → A) ∧ (true = false → B) := ⟨fun _ => h, fun q => by cases q⟩
theorem splF {A B : Prop} (h : B) : (false = true → A) ∧ (false = false → B) := ⟨fun q => (by cases q), fun _ => h⟩
theorem dT {p : Prop} [Decidable p] {A : Prop} (hp : p) (h : A) : decide p = true ∧ A := ⟨decide_eq_true hp, h⟩
theorem fin_eq {P : KP} {st : St} {d d' : D} (h : P d st) (e : d = d') : P d' st := e ▸ h
theorem dbool {a b : Prop} [Decidable a] [Decidable b] (h : a ↔ b) : D.bool (decide a) = D.bool (decide b) := congrArg D.bool (decide_eq_decide.mpr h)
theorem dint {a b : Int} (h : a = b) : D.int a = D.int b := h ▸ rfl
section
variable {e : E0} {c : Ac} {st : St} {X : XPost} {P : KP}
theorem len1 {α : Type} {vs : List α} (h : vs.length = 1) : ∃ a, vs = [a] := List.length_eq_one_iff.mp h
theorem c_dby (y : Int) (hroom : 1 ≤ c.room) (h : P (.int (dby y)) st) : EVN (gl e) c (callV (.ref 35)) [.int y] st P X := by
  refine fn (tabOk e) 20 35 0 [Str.ofString "year"] rfl rfl (fun vs h => by obtain ⟨a, rfl⟩ := len1 h; rfl) hroom (by rfl) fun A₀ outer g₀ L hA => ?_
  exact ⟨mulR (by decide) (by decide), h⟩
end

theorem len2 {α : Type} {vs : List α} (h : vs.length = 2) : ∃ a b, vs = [a, b] := by
  cases vs with
  | nil => cases h
  | cons a r =>
    obtain ⟨b, rfl⟩ := len1 (Nat.succ.inj h)
    exact ⟨a, b, rfl⟩
theorem len3 {α : Type} {vs : List α} (h : vs.length = 3) : ∃ a b c, vs = [a, b, c] := by
  cases vs with
  | nil => cases h
  | cons a r =>
    refine Classical.byContradiction fun hng => ?_
    obtain ⟨b, c, rfl⟩ := len2 (Nat.succ.inj h)
    refine hng ?_
    clear hng
    exact ⟨a, b, c, rfl⟩
theorem getD_at {ns : List Int} {k : Nat} (h : k < ns.length) : (ns.map D.int)[k]? = some (.int (ns.getD k 0)) := by
  rw [List.getElem?_map, List.getElem?_eq_getElem h, List.getD_eq_getElem?_getD, List.getElem?_eq_getElem h]
  rfl
theorem m13 {m : Int} (h1 : 1 ≤ m) (h2 : m ≤ 12) : m.toNat < 13 := by lia
section
variable {e : E0} {c : Ac} {st : St} {X : XPost} {P : KP}
theorem c_is_leap (y : Int) (hroom : 1 ≤ c.room) (h : P (.bool (decide (leapP y))) st) : EVN (gl e) c (callV (.ref 28)) [.int y] st P X := by
  refine fn (tabOk e) 20 28 0 [Str.ofString "year"] rfl rfl (fun vs h => by obtain ⟨a, rfl⟩ := len1 h; rfl) hroom (by rfl) fun A₀ outer g₀ L hA => ?_
  refine spl (fun q1 => splO (fun q2 => ?_) fun q2 => ?_) fun q1 => ?_
  · exact fin_eq h (dbool ⟨fun h => h.2.resolve_left q2, fun h => ⟨q1, .inr h⟩⟩)
  · exact fin_eq h (dbool ⟨fun _ => q2, fun _ => ⟨q1, .inl q2⟩⟩)
  · exact fin_eq h (dbool ⟨fun h => h.1, fun h => absurd h q1⟩)
theorem td_at {m : Int} (h1 : 1 ≤ m) (h2 : m ≤ 12) : (dimT.map D.int)[m.toNat]? = some (.int (td m)) := getD_at (m13 h1 h2)
theorem tb_at {m : Int} (h1 : 1 ≤ m) (h2 : m ≤ 12) : (dbmT.map D.int)[m.toNat]? = some (.int (tb m)) := getD_at (m13 h1 h2)
theorem m_lo {m : Int} (h1 : 1 ≤ m) : 0 ≤ m := Int.le_trans (by decide) h1
theorem m_hi {m : Int} (h2 : m ≤ 12) : m < 2 ^ 63 := Int.lt_of_le_of_lt h2 (by decide)
theorem c_dim (y m : Int) (h1 : 1 ≤ m) (h2 : m ≤ 12) (hroom : 2 ≤ c.room) (h : P (.int (dim y m)) st) : EVN (gl e) c (callV (.ref 42)) [.int y, .int m] st P X := by
  refine fn (tabOk e) 20 42 1 [Str.ofString "year", Str.ofString "month"] rfl rfl (fun vs h => by obtain ⟨a, b, rfl⟩ := len2 h; rfl) hroom (by rfl) fun A₀ outer g₀ L hA => ?_
  have e0 : ∀ k : Int, (m = 2 → lpI y = k) → dim y m = td m + if m = 2 then k else 0 := fun k hk => by
    unfold dim
    by_cases q : m = 2
    · rw [if_pos q, if_pos q, hk q]
    · rw [if_neg q, if_neg q]
  refine spl (fun _ => ⟨decide_eq_true h2, spl (fun q => ⟨c_is_leap y (Nat.le_refl 1) (spl (fun l => ?_) fun l => ?_)⟩) fun q => ?_⟩) fun q => absurd h1 q
  · rw [e0 1 fun _ => if_pos l, if_pos q, q] at h
    exact splT h
  · rw [e0 0 fun _ => if_neg l, if_pos q, Int.add_zero] at h
    exact splF ⟨ev_item rfl (m_lo h1) (td_at h1 h2) h (m_hi h2)⟩
  · rw [e0 0 fun w => absurd w q, if_neg q, Int.add_zero] at h
    exact splF ⟨ev_item rfl (m_lo h1) (td_at h1 h2) h (m_hi h2)⟩
theorem c_dbm1 (y : Int) (hroom : 1 ≤ c.room) (h : P (.int 0) st) : EVN (gl e) c (callV (.ref 49)) [.int y, .int 1] st P X := by
  refine fn (tabOk e) 20 49 0 [Str.ofString "year", Str.ofString "month"] rfl rfl (fun vs h => by obtain ⟨a, b, rfl⟩ := len2 h; rfl) hroom (by rfl) fun A₀ outer g₀ L hA => ?_
  refine splT ⟨rfl, ?_⟩
  exact ⟨ev_item (e := .int 0) rfl (by decide) rfl (splF h) (by decide)⟩
theorem c_ymd1 (y : Int) (hroom : 3 ≤ c.room) (h : P (.int (dby y + 1)) st) : EVN (gl e) c (callV (.ref 56)) [.int y, .int 1, .int 1] st P X := by
  refine fn (tabOk e) 20 56 2 [Str.ofString "year", Str.ofString "month", Str.ofString "day"] rfl rfl (fun vs h => by obtain ⟨a, b, c, rfl⟩ := len3 h; rfl) hroom (by rfl) fun A₀ outer g₀ L hA => ?_
  refine splT ⟨rfl, ⟨c_dim y 1 (by decide) (by decide) (Nat.le_refl 2) ?_⟩⟩
  rw [show dim y 1 = 31 from Int.add_zero _]
  refine splT ⟨rfl, ⟨c_dby y (Nat.le_add_left 1 1) ⟨c_dbm1 y (Nat.le_add_left 1 1) ?_⟩⟩⟩
  exact fin_eq h (dint (by rw [Int.add_zero]))
theorem c_w1 (y : Int) (hroom : 4 ≤ c.room) (h : P (.int (w1 y)) st) : EVN (gl e) c (callV (.ref 109)) [.int y] st P X := by
  refine fn (tabOk e) 20 109 3 [Str.ofString "year"] rfl rfl (fun vs h => by obtain ⟨a, rfl⟩ := len1 h; rfl) hroom (by rfl) fun A₀ outer g₀ L hA => ?_
  refine ⟨c_ymd1 y (Nat.le_refl 3) (spl (fun q => ?_) fun q => ?_)⟩
  · exact fin_eq h (dint (by unfold w1; rw [if_pos q]))
  · exact fin_eq h (dint (by unfold w1; rw [if_neg q, Int.add_zero]))
theorem mguess {y m d : Int} (h : Valid y m d) : (dbm y m + d - 1 + 50) / 32 = m ∨ ((dbm y m + d - 1 + 50) / 32 = m + 1 ∧ m < 12) := by
  refine Classical.byContradiction fun hng => ?_
  obtain ⟨h1, h2, h3, h4⟩ := h
  obtain ⟨j, e1, e2, j1, j2⟩ := m_nat h1 h2
  refine hng ?_
  clear hng
  have t := mtabG j j1 j2
  have l := lpI_range y
  unfold dim td at h4
  unfold dbm tb
  rw [e2] at h4 ⊢
  rw [e1] at h4 ⊢
  generalize dbmT.getD j 0 = a at *
  generalize dimT.getD j 0 = b at *
  refine Classical.byContradiction fun hng => ?_
  obtain ⟨t1, t2, t3⟩ := t
  refine hng ?_
  clear hng
  have : 32 * (j : Int) ≤ (a + if 2 < (j : Int) then lpI y else 0) + d - 1 + 50 ∧ (a + if 2 < (j : Int) then lpI y else 0) + d - 1 + 50 < 32 * (j + 2) ∧ ((j : Int) = 12 → (a + if 2 < (j : Int) then lpI y else 0) + d - 1 + 50 < 416) := by
    split at h4 <;> split <;> lia
  generalize (a + if 2 < (j : Int) then lpI y else 0) + d - 1 + 50 = x at *
  lia
end

theorem dbm_next {y m : Int} (h1 : 1 ≤ m) (h2 : m < 12) : dbm y (m + 1) = dbm y m + dim y m := by
  refine Classical.byContradiction fun hng => ?_
  obtain ⟨k, e1, e2, k1, k2⟩ := m_nat h1 (Int.le_of_lt h2)
  refine hng ?_
  clear hng
  have := mtabN k (by lia) k2
  unfold dbm dim tb td
  rw [show (m + 1).toNat = k + 1 by lia, e2, this]
  by_cases q : m = 2
  · rw [if_pos q, if_pos (by lia), if_neg (by lia)]
    lia
  · rw [if_neg q]
    by_cases z : 2 < m
    · rw [if_pos z, if_pos (by lia)]
      lia
    · rw [if_neg z, if_neg (by lia)]
      lia
theorem dec_tab : ∀ z : Nat, z < 400 → z = 100 * (z / 100) + 4 * (z % 100 / 4) + z % 4 ∧ z / 100 < 4 ∧ z % 100 / 4 < 25 ∧ z % 4 < 4 := by decide +kernel
theorem o_one {n a r : Int} {c f i : Nat} (hc : c < 4) (hf : f < 25) (hi : i < 4) (r0 : 0 ≤ r) (r1 : r < 365) (hn : n - 1 = 146097 * a + ((36524 * c + (1461 * f + 365 * i) : Nat) : Int) + r) :
    (n - 1) / 146097 = a ∧ (n - 1) % 146097 / 36524 = c ∧ (n - 1) % 146097 % 36524 / 1461 = f ∧ (n - 1) % 146097 % 36524 % 1461 / 365 = i ∧ (n - 1) % 146097 % 36524 % 1461 % 365 = r := by
  have h2 : 0 ≤ 365 * (i : Int) + r ∧ 365 * (i : Int) + r < 1461 := by lia
  have h3 : 0 ≤ 1461 * (f : Int) + (365 * (i : Int) + r) ∧ 1461 * (f : Int) + (365 * (i : Int) + r) < 36524 := by lia
  exact o_fwd ⟨r0, r1⟩ h2 h3 (by lia) (by lia)
theorem o_two {n a : Int} {c f : Nat} (hc : c < 4) (hf : f < 24) (hn : n - 1 = 146097 * a + ((36524 * c + (1461 * f + 365 * 3) : Nat) : Int) + 365) :
    (n - 1) / 146097 = a ∧ (n - 1) % 146097 / 36524 = c ∧ (n - 1) % 146097 % 36524 / 1461 = f ∧ (n - 1) % 146097 % 36524 % 1461 / 365 = 4 ∧ (n - 1) % 146097 % 36524 % 1461 % 365 = 0 := by
  have h3 : 0 ≤ 1461 * (f : Int) + (365 * 4 + 0) ∧ 1461 * (f : Int) + (365 * 4 + 0) < 36524 := by lia
  exact o_fwd (by decide) (by decide) h3 (by lia) (by lia)
theorem y_of {y a : Int} {z c f i : Nat} (hy : y = 400 * a + ((z + 1 : Nat) : Int)) (hz : z = 100 * c + 4 * f + i) : y = a * 400 + 1 + ((c : Int) * 100 + f * 4 + i) := by lia
theorem le366 {x : Int} (h1 : x ≤ 365 + 1) (h2 : 365 ≤ x - 1) : x - 1 = 365 := by lia
theorem le365 {x : Int} (h1 : x ≤ 365 + 0) (h2 : 365 ≤ x - 1) : False := by lia
theorem e366 {x : Int} (h : x - 1 = 365) : x = 366 := by lia
theorem y_back (x u v : Int) : x + (u + v + 3) = x + (u + v + 4) - 1 := by lia
theorem y_last (a : Int) : a * 400 + 1 + (((3 : Nat) : Int) * 100 + ((24 : Nat) : Int) * 4 + ((3 : Nat) : Int)) = a * 400 + 1 + (4 * 100 + 0 * 4 + 0) - 1 := by lia
theorem o_both {y m d n : Int} (hv : Valid y m d) (hn : ordn y m d = n) :
    (¬ ((n - 1) % 146097 % 36524 % 1461 / 365 = 4 ∨ (n - 1) % 146097 / 36524 = 4) ∧ y = oY n ∧ dbm y m + d - 1 = oR n ∧ (((n - 1) % 146097 % 36524 % 1461 / 365 = 3 ∧ ((n - 1) % 146097 % 36524 / 1461 ≠ 24 ∨ (n - 1) % 146097 / 36524 = 3)) ↔ leapP y)) ∨
    (((n - 1) % 146097 % 36524 % 1461 / 365 = 4 ∨ (n - 1) % 146097 / 36524 = 4) ∧ oR n = 0 ∧ y = oY n - 1 ∧ m = 12 ∧ d = 31) := by
  refine Classical.byContradiction fun hng => ?_
  obtain ⟨r1, r2⟩ := valid_range hv
  obtain ⟨a, z, hz, hy⟩ := yr y
  obtain ⟨t1, t2⟩ := cyc_tab z hz
  obtain ⟨zc, c4, f25, i4⟩ := dec_tab z hz
  refine hng ?_
  clear hng
  have ly := (show leapP y ↔ leapP ((z + 1 : Nat) : Int) by rw [hy]; exact leap_per).trans t1
  have hs : n - 1 = dby y + (dbm y m + d - 1) := by rw [← hn]; unfold ordn; rw [Int.add_assoc, Int.add_sub_assoc]
  rw [show dby y = 146097 * a + dby ((z + 1 : Nat) : Int) by rw [hy, dby_per], t2] at hs
  have r0 : 0 ≤ dbm y m + d - 1 := Int.sub_nonneg_of_le r1
  have hu := valid_unique hv (y' := y) (m' := 12) (d' := 31)
  rw [hn] at hu
  unfold oY oR
  rcases Int.lt_or_le (dbm y m + d - 1) 365 with q | q
  · refine Classical.byContradiction fun hng => ?_
    obtain ⟨e1, e2, e3, e4, e5⟩ := o_one c4 f25 i4 r0 q hs
    refine hng ?_
    clear hng
    rw [e1, e2, e3, e4, e5, ly]
    exact .inl ⟨fun w => w.elim (fun w => absurd (Int.ofNat_inj.mp w) (Nat.ne_of_lt i4)) fun w => absurd (Int.ofNat_inj.mp w) (Nat.ne_of_lt c4), y_of hy zc, rfl, and_congr Int.ofNat_inj (or_congr (not_congr Int.ofNat_inj) Int.ofNat_inj)⟩
  · have lp : leapP y ∧ dbm y m + d - 1 = 365 := by
      rcases lpI_cases y with ⟨w1, w2⟩ | ⟨_, w2⟩
      · rw [w2] at r2
        exact ⟨w1, le366 r2 q⟩
      · rw [w2] at r2
        exact (le365 r2 q).elim
    rw [lp.2] at hs
    have hm : m = 12 ∧ d = 31 := by
      have e12 : dbm y 12 = 335 := by unfold dbm lpI; rw [if_pos lp.1]; rfl
      refine (hu ⟨by decide, by decide, by decide, Int.le_refl 31⟩ ?_).2
      rw [← hn]
      unfold ordn
      rw [e12, Int.add_assoc, e366 lp.2, Int.add_assoc]
      rfl
    obtain ⟨i3, fc⟩ := ly.mp lp.1
    rw [i3] at hs zc
    refine .inr ?_
    clear t1 t2 ly hu hv hn r1 r2 r0 q lp
    by_cases f24 : z % 100 / 4 = 24
    · have c3 := fc.resolve_left (fun w => w f24)
      rw [c3, f24] at hs zc
      refine Classical.byContradiction fun hng => ?_
      obtain ⟨e1, e2, e3, e4, e5⟩ := o_fwd (n := n) (a := a) (c := 4) (f := 0) (i := 0) (r := 0) (by decide) (by decide) (by decide) (by decide) (hs.trans (Int.add_assoc _ _ _))
      refine hng ?_
      clear hng
      rw [e1, e2, e3, e4, e5]
      exact ⟨.inr rfl, rfl, (y_of hy zc).trans (y_last a), hm⟩
    · refine Classical.byContradiction fun hng => ?_
      obtain ⟨e1, e2, e3, e4, e5⟩ := o_two c4 (Nat.lt_of_le_of_ne (Nat.le_of_lt_succ f25) f24) hs
      refine hng ?_
      clear hng
      rw [e1, e2, e3, e4, e5]
      refine ⟨.inl rfl, rfl, ?_, hm⟩
      rw [y_of hy zc]
      exact y_back _ _ _
theorem o_ends {y m d n : Int} (hv : Valid y m d) (hn : ordn y m d = n) (ho : (n - 1) % 146097 % 36524 % 1461 / 365 = 4 ∨ (n - 1) % 146097 / 36524 = 4) : oR n = 0 ∧ y = oY n - 1 ∧ m = 12 ∧ d = 31 :=
  (o_both hv hn).elim (fun q => absurd ho q.1) fun q => q.2
theorem o_mid {y m d n : Int} (hv : Valid y m d) (hn : ordn y m d = n) (ho : ¬ ((n - 1) % 146097 % 36524 % 1461 / 365 = 4 ∨ (n - 1) % 146097 / 36524 = 4)) : y = oY n ∧ dbm y m + d - 1 = oR n ∧ (((n - 1) % 146097 % 36524 % 1461 / 365 = 3 ∧ ((n - 1) % 146097 % 36524 / 1461 ≠ 24 ∨ (n - 1) % 146097 / 36524 = 3)) ↔ leapP y) :=
  (o_both hv hn).elim (fun q => q.2) fun q => absurd q.1 ho
theorem dbm_leap {y m : Int} (q : 2 < m) : tb m + (if decide (leapP y) = true then 1 else 0) = dbm y m := by
  unfold dbm lpI
  rw [if_pos q]
  by_cases l : leapP y
  · rw [if_pos l, if_pos (decide_eq_true l)]
  · rw [if_neg l, if_neg (by rw [decide_eq_true_eq]; exact l)]
theorem dbm_early {y m : Int} (q : ¬ 2 < m) : tb m + (if decide (2 < m) = true then 1 else 0) = dbm y m := by
  unfold dbm
  rw [if_neg q, if_neg (by rw [decide_eq_true_eq]; exact q)]
theorem dim_leap {y m : Int} (q : m = 2) : td m + (if decide (leapP y) = true then 1 else 0) = dim y m := by
  unfold dim lpI
  rw [if_pos q]
  by_cases l : leapP y
  · rw [if_pos l, if_pos (decide_eq_true l)]
  · rw [if_neg l, if_neg (by rw [decide_eq_true_eq]; exact l)]
theorem dim_else {y m : Int} (q : ¬ m = 2) : td m + (if decide (m = 2) = true then 1 else 0) = dim y m := by
  unfold dim
  rw [if_neg q, if_neg (by rw [decide_eq_true_eq]; exact q)]
section
variable {e : E0} {c : Ac} {st : St} {X : XPost} {P : KP}
theorem c_o2y (y m d n : Int) (hv : Valid y m d) (hn : ordn y m d = n) (hh : c.A.handled = none) (hroom : 3 ≤ c.room) (h : P (.tup [.int y, .int m, .int d]) st) : EVN (gl e) c (callV (.ref 66)) [.int n] st P X := by
  refine fn (tabOk e) 30 66 2 [Str.ofString "n"] rfl rfl (fun vs h => by obtain ⟨a, rfl⟩ := len1 h; rfl) hroom (by rfl) fun A₀ outer g₀ L hA => ?_
  have hA := hA.trans hh
  have M : ∀ {a b : Int}, -(2 ^ 64) < b → b < 2 ^ 64 → IntMulOk a b := mulR
  refine ⟨hA, ⟨ev_divmod (by decide) (by decide) ⟨M (by decide) (by decide), hA, ⟨ev_divmod (by decide) (by decide) ⟨hA, ⟨ev_divmod (by decide) (by decide) ⟨hA, ⟨ev_divmod (by decide) (by decide) ⟨M (by decide) (by decide), M (by decide) (by decide), ?_⟩⟩⟩⟩⟩⟩⟩⟩⟩
  refine splO (fun q1 => splO (fun q2 => splF ?_) fun q2 => splT ?_) fun q1 => splT ?_
  · refine Classical.byContradiction fun hng => ?_
    obtain ⟨e1, e2, e3⟩ := o_mid hv hn (fun q => q.elim q1 q2)
    refine hng ?_
    clear hng
    show gS _ _ _ _ _ [] ⟨[(Str.ofString "n", .int (oR n)), (Str.ofString "n400", .int ((n - 1) / 146097)), (Str.ofString "year", .int (oY n)), (Str.ofString "n100", .int ((n - 1) % 146097 / 36524)), (Str.ofString "n4", .int ((n - 1) % 146097 % 36524 / 1461)), (Str.ofString "n1", .int ((n - 1) % 146097 % 36524 % 1461 / 365))], st.ls, false⟩ _
    rw [← e1, ← e2]
    refine gE_join (.bool (decide (leapP y))) (spl (fun a => splO (fun b => ⟨dbool ⟨fun z => e3.mp ⟨a, .inr z⟩, fun z => (e3.mpr z).2.resolve_left b⟩, rfl⟩) fun b => ⟨dbool ⟨fun z => e3.mp ⟨a, .inl b⟩, fun z => b⟩, rfl⟩) fun a => ⟨dbool ⟨fun z => absurd z a, fun z => (e3.mpr z).1⟩, rfl⟩) ?_
    clear e1 e2 e3 q1 q2 hn M
    refine ⟨c_is_leap y (Nat.le_add_left 1 1) ⟨beq_self_eq_true _, ⟨ev_shr5 ?_⟩⟩⟩
    refine Classical.byContradiction fun hng => ?_
    obtain ⟨h1, h2, h3, h4⟩ := id hv
    refine hng ?_
    clear hng
    rcases mguess hv with hm | ⟨hm, hm12⟩
    · rw [hm]
      refine gE_join (.int (dbm y m)) ⟨ev_item rfl (m_lo h1) (tb_at h1 h2) (spl (fun q => ⟨dint (dbm_leap q), rfl⟩) fun q => ⟨dint (dbm_early q), rfl⟩) (m_hi h2)⟩ ?_
      refine spl (fun q => absurd q (by lia)) fun q => spl (fun q => ⟨c_dim y m h1 h2 (Nat.le_refl 2) (dT (by lia) ?_)⟩) fun q => absurd q (by lia)
      exact fin_eq h (by rw [show dbm y m + d - 1 - dbm y m + 1 = d by lia])
    · rw [hm]
      have hx := dbm_next (y := y) h1 hm12
      have g1 : 1 ≤ m + 1 := by lia
      have g2 : m + 1 ≤ 12 := by lia
      refine gE_join (.int (dbm y (m + 1))) ⟨ev_item rfl (m_lo g1) (tb_at g1 g2) (spl (fun q => ⟨dint (dbm_leap q), rfl⟩) fun q => ⟨dint (dbm_early q), rfl⟩) (m_hi g2)⟩ ?_
      refine spl (fun q => ?_) fun q => absurd q (by lia)
      have b1 : 1 ≤ m + 1 - 1 := by lia
      have b2 : m + 1 - 1 ≤ 12 := by lia
      have b3 : m + 1 - 1 = m := by lia
      refine gE_join (.int 1) ⟨rfl, rfl⟩ ?_
      refine gE_join (.int (dim y (m + 1 - 1))) ?_ ?_
      · exact ⟨ev_item rfl (m_lo b1) (td_at b1 b2) (spl (fun q => ⟨dint (dim_leap q), rfl⟩) fun q => ⟨dint (dim_else q), rfl⟩) (m_hi b2)⟩
      refine spl (fun q => ⟨c_dim y (m + 1 - 1) b1 b2 (Nat.le_refl 2) (dT (by rw [b3]; lia) ?_)⟩) fun q => absurd q (by rw [b3]; lia)
      exact fin_eq h (by rw [b3, show dbm y m + d - 1 - (dbm y (m + 1) - dim y m) + 1 = d by lia])
  · refine Classical.byContradiction fun hng => ?_
    obtain ⟨o1, rfl, rfl, rfl⟩ := o_ends hv hn (.inr q2)
    refine hng ?_
    clear hng
    exact ⟨decide_eq_true o1, h⟩
  · refine Classical.byContradiction fun hng => ?_
    obtain ⟨o1, rfl, rfl, rfl⟩ := o_ends hv hn (.inl q1)
    refine hng ?_
    clear hng
    exact ⟨decide_eq_true o1, h⟩
theorem splOT {A B : Prop} (h : B) : (true = false → A) ∧ (true = true → B) := ⟨fun q => (nomatch q), fun _ => h⟩
theorem splOF {A B : Prop} (h : A) : (false = false → A) ∧ (false = true → B) := ⟨fun _ => h, fun q => (nomatch q)⟩
theorem splNT {b : Bool} {A B : Prop} (hb : b = true) (h : B) : ((!b) = true → A) ∧ ((!b) = false → B) := by
  subst hb
  exact splF h
theorem splNF {b : Bool} {A B : Prop} (hb : b = false) (h : A) : ((!b) = true → A) ∧ ((!b) = false → B) := by
  subst hb
  exact splT h
theorem c_iso (y w k y' m d : Int) (hy : 1 ≤ y ∧ y ≤ 9999) (hw : WeekOk y w) (hk : 1 ≤ k ∧ k ≤ 7) (hv : Valid y' m d) (hn : ordn y' m d = w1 y + ((w - 1) * 7 + (k - 1))) (hh : c.A.handled = none) (hroom : 5 ≤ c.room) (h : P (.tup [.int y', .int m, .int d]) st) :
    EVN (gl e) c (callV (.ref 102)) [.int y, .int w, .int k] st P X := by
  refine fn (tabOk e) 30 102 4 [Str.ofString "year", Str.ofString "week", Str.ofString "day"] rfl rfl (fun vs h => by obtain ⟨a, b, c, rfl⟩ := len3 h; rfl) hroom (by rfl) fun A₀ outer g₀ L hA => ?_
  have hA := hA.trans hh
  refine spl (fun _ => splNT (decide_eq_true hy.2) ?_) fun q => absurd hy.1 q
  have d0 : 0 < k := by lia
  have d8 : k < 8 := by lia
  have w0 : 0 < w := by rcases hw with z | z <;> lia
  refine spl (fun _ => ?_) fun q => absurd w0 q
  rcases hw with z | ⟨rfl, z⟩
  · refine splNT (decide_eq_true (show w < 53 by lia)) ?_
    exact spl (fun _ => splNT (decide_eq_true d8) ⟨mulR (by decide) (by decide), ⟨c_w1 y (Nat.le_refl 4) ⟨c_o2y y' m d _ hv hn hA (Nat.le_add_left 3 1) h⟩⟩⟩) fun q => absurd d0 q
  · refine splT (splT ⟨c_ymd1 y (Nat.le_add_left 3 1) (splO (fun q1 => spl (fun q2 => ⟨c_is_leap y (Nat.le_add_left 1 3) ?_⟩) fun q2 => ?_) fun q1 => ?_)⟩)
    · have lp := (z.resolve_left q1).2
      refine spl (fun _ => splOT (splT (splF ?_))) fun q => absurd lp q
      exact spl (fun _ => splNT (decide_eq_true d8) ⟨mulR (by decide) (by decide), ⟨c_w1 y (Nat.le_refl 4) ⟨c_o2y y' m d _ hv hn hA (Nat.le_add_left 3 1) h⟩⟩⟩) fun q => absurd d0 q
    · exact absurd (z.resolve_left q1).1 q2
    · refine splT (splF ?_)
      exact spl (fun _ => splNT (decide_eq_true d8) ⟨mulR (by decide) (by decide), ⟨c_w1 y (Nat.le_refl 4) ⟨c_o2y y' m d _ hv hn hA (Nat.le_add_left 3 1) h⟩⟩⟩) fun q => absurd d0 q
end

theorem one_eq {c k : Nat} : tx [c] = tx [k] ↔ c = k := by
  constructor
  · intro h
    have := congrArg (fun x : Str => x.cps.toList) h
    simpa using this
  · rintro rfl
    rfl
theorem s_dash : Str.ofString "-" = tx [45] := by decide +kernel
theorem s_W : Str.ofString "W" = tx [87] := by decide +kernel
/-- how far the figures run -/
def run : List Nat → Nat
  | [] => 0
  | c :: r => if dg c then run r + 1 else 0
theorem run_le : ∀ l, run l ≤ l.length := by
  intro l
  induction l with
  | nil => exact Nat.le_refl 0
  | cons c r ih =>
    unfold run
    split
    · exact Nat.succ_le_succ ih
    · exact Nat.zero_le _
theorem run_dg {l : List Nat} {j : Nat} (h : j < run l) : ∃ c, l[j]? = some c ∧ dg c := by
  induction l generalizing j with
  | nil => cases h
  | cons c r ih =>
    unfold run at h
    split at h
    · cases j with
      | zero => exact ⟨c, rfl, ‹_›⟩
      | succ j => exact ih (Nat.lt_of_succ_lt_succ h)
    · cases h
theorem run_end {l : List Nat} {c : Nat} (h : l[run l]? = some c) : ¬ dg c := by
  induction l with
  | nil => cases h
  | cons a r ih =>
    unfold run at h
    split at h
    · exact ih h
    · cases h
      assumption
def dgo : Option Nat → Bool
  | some c => decide (dg c)
  | none => false
theorem is_dash {c : Nat} : tx [c] = Str.ofString "-" ↔ c = 45 := by rw [s_dash]; exact one_eq
theorem is_W {c : Nat} : tx [c] = Str.ofString "W" ↔ c = 87 := by rw [s_W]; exact one_eq
theorem some_ne {o : Option Nat} {c k : Nat} (e : o = some c) (h : ¬ c = k) : ¬ o = some k := fun z => h (Option.some.inj (e.symm.trans z))
/-- the place that _find_isoformat_datetime_separator tells -/
def sepOf (l : List Nat) : Int :=
  if l[4]? = some 45 then (if l[5]? = some 87 then (if l[8]? = some 45 then (if dgo l[10]? = true then 8 else 10) else 8) else 10)
  else if l[4]? = some 87 then (if 7 + run (l.drop 7) < 9 then ((7 + run (l.drop 7) : Nat) : Int) else if (7 + run (l.drop 7)) % 2 = 0 then 7 else 8) else 8
theorem sep_cast (x : Nat) : (if x < 9 then (x : Int) else if x % 2 = 0 then 7 else 8) = if (x : Int) < 9 then (x : Int) else if (x : Int) % 2 = 0 then 7 else 8 :=
  ite_congr (propext Int.ofNat_lt.symm) (fun _ => rfl) fun _ => ite_congr (propext ⟨fun h => congrArg Int.ofNat h, fun h => Int.ofNat.inj h⟩) (fun _ => rfl) fun _ => rfl
theorem at_lt {l : List Nat} {k n : Nat} (hn : n < l.length) (h : k ≤ n) : ∃ c, l[k]? = some c := ⟨_, List.getElem?_eq_getElem (Nat.lt_of_le_of_lt h hn)⟩
section
variable {e : E0} {c : Ac} {st : St} {X : XPost} {P : KP}
theorem c_isdig (k : Nat) (hroom : 1 ≤ c.room) (h : P (.bool (decide (dg k))) st) : EVN (gl e) c (callV (.ref 73)) [.str (tx [k])] st P X := by
  refine fn (tabOk e) 20 73 0 [Str.ofString "c"] rfl rfl (fun vs h => by obtain ⟨a, rfl⟩ := len1 h; rfl) hroom (by rfl) fun A₀ outer g₀ L hA => ?_
  exact fin_eq h (congrArg D.bool (dig_in k).symm)
theorem c_find (l : List Nat) (hz : l.length ≤ 16384) (h7 : 7 < l.length) (h10 : l[4]? = some 45 → l[5]? = some 87 → 10 < l.length) (hroom : 2 ≤ c.room) (h : P (.int (sepOf l)) st) : EVN (gl e) c (callV (.ref 80)) [.str (tx l)] st P X := by
  refine fn (tabOk e) 30 80 1 [Str.ofString "dtstr"] rfl rfl (fun vs h => by obtain ⟨a, rfl⟩ := len1 h; rfl) hroom (by rfl) fun A₀ outer g₀ L hA => ?_
  refine Classical.byContradiction fun hng => ?_
  obtain ⟨c4, e4⟩ := at_lt h7 (show 4 ≤ 7 by decide)
  obtain ⟨c5, e5⟩ := at_lt h7 (show 5 ≤ 7 by decide)
  refine hng ?_
  clear hng
  have i7 : (7 : Int) < l.length := Int.ofNat_lt.mpr h7
  refine ⟨ev_lenS (spl (fun q => absurd q (Int.ne_of_gt i7)) fun _ => ⟨decide_eq_true i7, ⟨ev_itemS (by decide) e4 (spl (fun q4 => ?_) fun q4 => ?_) hz⟩⟩) hz⟩
  · have p4 : l[4]? = some 45 := is_dash.mp q4 ▸ e4
    refine ⟨ev_itemS (by decide) e5 (spl (fun q5 => ?_) fun q5 => ?_) hz⟩
    · have p5 : l[5]? = some 87 := is_W.mp q5 ▸ e5
      have hl := h10 p4 p5
      refine Classical.byContradiction fun hng => ?_
      obtain ⟨c8, e8⟩ := at_lt hl (show 8 ≤ 10 by decide)
      obtain ⟨c10, e10⟩ := at_lt hl (Nat.le_refl 10)
      refine hng ?_
      clear hng
      have i10 : (10 : Int) < l.length := Int.ofNat_lt.mpr hl
      have i8 : (8 : Int) < l.length := Int.lt_trans (by decide) i10
      refine spl (fun z => absurd (Int.lt_trans i8 z) (by decide)) fun _ => spl (fun _ => ⟨ev_itemS (by decide) e8 (spl (fun q8 => splT ?_) fun q8 => splF ?_) hz⟩) fun z => absurd i8 z
      · have p8 : l[8]? = some 45 := is_dash.mp q8 ▸ e8
        refine spl (fun z => absurd z (Int.ne_of_gt (Int.lt_trans (by decide) i10))) fun _ => spl (fun _ => ⟨ev_itemS (by decide) e10 ⟨c_isdig _ (Nat.le_refl 1) (spl (fun q10 => splT ?_) fun q10 => splF ?_)⟩ hz⟩) fun z => absurd i10 z
        · exact fin_eq h (dint (by unfold sepOf; rw [if_pos p4, if_pos p5, if_pos p8, e10, if_pos (show dgo (some c10) = true from decide_eq_true q10)]))
        · exact fin_eq h (dint (by unfold sepOf; rw [if_pos p4, if_pos p5, if_pos p8, e10, if_neg (by rw [show dgo (some c10) = decide (dg c10) from rfl, decide_eq_true_eq]; exact q10)]))
      · exact fin_eq h (dint (by unfold sepOf; rw [if_pos p4, if_pos p5, if_neg (some_ne e8 fun z => q8 (is_dash.mpr z))]))
    · exact fin_eq h (dint (by unfold sepOf; rw [if_pos p4, if_neg (some_ne e5 fun z => q5 (is_W.mpr z))]))
  · have n4 : ¬ l[4]? = some 45 := some_ne e4 fun z => q4 (is_dash.mpr z)
    refine ⟨ev_itemS (by decide) e4 (spl (fun q5 => ?_) fun q5 => ?_) hz⟩
    · have p4 : l[4]? = some 87 := is_W.mp q5 ▸ e4
      have hrun := run_le (l.drop 7)
      rw [List.length_drop] at hrun
      refine ⟨as_while (fun n st₁ => ∃ j, j ≤ run (l.drop 7) ∧ n = run (l.drop 7) - j ∧ st₁ = ⟨[(Str.ofString "dtstr", .str (tx l)), (Str.ofString "len_dtstr", .int l.length), (Str.ofString "date_separator", .str (Str.ofString "-")), (Str.ofString "week_indicator", .str (Str.ofString "W")), (Str.ofString "idx", .int (7 + j : Nat))], st.ls, false⟩) ?_ (run (l.drop 7)) ⟨0, Nat.zero_le _, rfl, rfl⟩⟩
      rintro n _ hj2
      refine Classical.byContradiction fun hng => ?_
      obtain ⟨j, hj, rfl, rfl⟩ := hj2
      refine hng ?_
      clear hng
      have done : j = run (l.drop 7) → sepOf l = if ((7 + j : Nat) : Int) < 9 then ((7 + j : Nat) : Int) else if ((7 + j : Nat) : Int) % 2 = 0 then 7 else 8 := by
        rintro rfl
        unfold sepOf
        rw [if_neg n4, if_pos p4]
        exact sep_cast _
      refine (gEB_ok (tabOk e) 10).2 _ _ _ (spl (fun q => gS_ok (tabOk e) 10 _ _ _ ?_) fun q => ?_)
      · obtain ⟨ch, ech⟩ : ∃ c, l[7 + j]? = some c := ⟨_, List.getElem?_eq_getElem (Int.ofNat_lt.mp q)⟩
        refine ⟨ev_itemS (Int.natCast_nonneg _) ech ⟨c_isdig _ (Nat.le_refl 1) ?_⟩ hz⟩
        by_cases qd : dg ch
        · refine splNT (decide_eq_true qd) ?_
          have hj' : j < run (l.drop 7) := by
            rcases Nat.lt_or_ge j (run (l.drop 7)) with z | z
            · exact z
            · obtain rfl : j = run (l.drop 7) := Nat.le_antisymm hj z
              exact absurd qd (run_end (by rw [List.getElem?_drop]; exact ech))
          exact ⟨_, Nat.sub_lt_sub_left hj' (Nat.lt_succ_self j), j + 1, hj', rfl, rfl⟩
        · refine splNF (decide_eq_false qd) ?_
          have hj' : j = run (l.drop 7) := by
            rcases Nat.lt_or_ge j (run (l.drop 7)) with z | z
            · refine Classical.byContradiction fun hng => ?_
              obtain ⟨c', h1, h2⟩ := run_dg z
              refine hng ?_
              clear hng
              rw [List.getElem?_drop, ech] at h1
              cases h1
              exact absurd h2 qd
            · exact Nat.le_antisymm hj z
          rw [done hj'] at h
          refine spl (fun w => ?_) fun w => spl (fun w' => ?_) fun w' => ?_
          · exact fin_eq h (dint (if_pos w))
          · exact fin_eq h (dint (by rw [if_neg w, if_pos w']))
          · exact fin_eq h (dint (by rw [if_neg w, if_neg w']))
      · rw [done (Nat.le_antisymm hj (Nat.le_trans hrun (Nat.sub_le_of_le_add (by rw [Nat.add_comm]; exact Nat.le_of_not_lt fun w => q (Int.ofNat_lt.mpr w)))))] at h
        refine spl (fun w => ?_) fun w => spl (fun w' => ?_) fun w' => ?_
        · exact fin_eq h (dint (if_pos w))
        · exact fin_eq h (dint (by rw [if_neg w, if_pos w']))
        · exact fin_eq h (dint (by rw [if_neg w, if_neg w']))
    · exact fin_eq h (dint (by unfold sepOf; rw [if_neg n4, if_neg (some_ne e4 fun z => q5 (is_W.mpr z))]))
end

theorem neT {p : Prop} [Decidable p] (h : p) : (!(decide p == true)) = false := by rw [decide_eq_true h]; rfl
theorem neF {p : Prop} [Decidable p] (h : ¬ p) : (!(decide p == false)) = false := by rw [decide_eq_false h]; rfl
theorem splFof {b : Bool} {A B : Prop} (hb : b = false) (h : B) : (b = true → A) ∧ (b = false → B) := by subst hb; exact splF h
theorem splTof {b : Bool} {A B : Prop} (hb : b = true) (h : A) : (b = true → A) ∧ (b = false → B) := by subst hb; exact splT h
section
variable {G : Gl} {c : Ac} {st : St} {X : XPost} {P : KP}
theorem ev_neB {a b : Bool} (h : P (.bool (!(a == b))) st) : A2 G c (compareOp .NotEq) (.bool a) (.bool b) st P X := by
  rintro W s h₀ m _ _ hr rfl rfl
  exact SeqAt.RcNeAt.bool_bool a b _ _ _ _ (hr.here0 Rep.ob h)
theorem ev_notin {a : Int} {ns : List Int} (ha : a ∈ ns) (h : P (.bool false) st) : A2 G c (compareOp .NotIn) (.int a) (.tup (ns.map D.int)) st P X := by
  rintro W s h₀ m _ _ hr hj7 hj8
  refine Classical.byContradiction fun hng => ?_
  obtain ⟨t, rfl⟩ := hj7
  obtain ⟨l, vs, n, rfl, hm, h3⟩ := hj8
  have hT : s.heap.IsTuple l vs.toArray := ⟨_, (hr.news _ hm).1, rfl, n, rfl⟩
  have key : ∀ (ns : List Int) (vs : List Value), Reps G.base W vs (ns.map D.int) → (∀ y ∈ vs, ∃ i t, y = .int i t) ∧ (a ∈ ns → ∃ t, Value.int a t ∈ vs) := by
    intro ns
    induction ns with
    | nil => rintro _ rfl; exact ⟨fun _ h => (nomatch h), fun h => (nomatch h)⟩
    | cons n ns ih =>
      rintro _ ⟨_, r, rfl, ⟨t, rfl⟩, hr⟩
      refine ⟨fun y hy => (List.mem_cons.mp hy).elim (fun e => ⟨n, t, e⟩) ((ih r hr).1 y), fun h => (List.mem_cons.mp h).elim (fun e => ⟨t, e ▸ .head _⟩) fun h => ?_⟩
      obtain ⟨u, hu⟩ := (ih r hr).2 h
      exact ⟨u, .tail _ hu⟩
  obtain ⟨k1, k2⟩ := key ns vs h3
  obtain ⟨u, hu⟩ := k2 ha
  refine hng ?_
  clear hng
  refine SeqAt.notIn_tupleAt (e := fun y => match y with | .int i _ => i == a | _ => false) hT (fun y hy => ?_) ?_
  · refine Classical.byContradiction fun hng => ?_
    obtain ⟨i, t', rfl⟩ := k1 y (List.mem_toArray.mp hy)
    refine hng ?_
    clear hng
    exact fun prog w E Q h => wpAny_eqBool_int h
  · rw [show (vs.toArray.any fun y => match y with | .int i _ => i == a | _ => false) = true by
      rw [List.any_toArray, List.any_eq_true]
      exact ⟨_, hu, beq_self_eq_true a⟩]
    exact hr.here0 Rep.ob h
end
section
variable {e : E0} {c : Ac} {st : St} {X : XPost} {P : KP}
theorem dig_ne {x k : Nat} (h : k < 48) : ¬ 48 + x = k := by lia
theorem dig_W {x : Nat} : ¬ 48 + x % 10 = 87 := by lia
theorem int4 {x : Nat} (h : x < 10000) : PySem.intText? (tx (fig 4 x)) = some (x : Int) := by
  have := int_fig (k := 4) x (by decide) (by decide)
  rwa [Nat.mod_eq_of_lt h] at this
theorem int2 {x : Nat} (h : x < 100) : PySem.intText? (tx (fig 2 x)) = some (x : Int) := by
  have := int_fig (k := 2) x (by decide) (by decide)
  rwa [Nat.mod_eq_of_lt h] at this
theorem int1 {x : Nat} (h : x < 10) : PySem.intText? (tx (fig 1 x)) = some (x : Int) := by
  have := int_fig (k := 1) x (by decide) (by decide)
  rwa [Nat.mod_eq_of_lt h] at this
theorem in_tri {a : Int} (h : a = 7 ∨ a = 8 ∨ a = 10) : a ∈ [7, 8, 10] := by
  rcases h with rfl | rfl | rfl <;> decide
theorem c_pd0 (y m d : Nat) (hy : y < 10000) (hm : m < 100) (hd : d < 100) (hroom : 1 ≤ c.room) (h : P (.lst st.ls.length) ⟨st.env, st.ls ++ [[.int y, .int m, .int d]], st.tn⟩) : EVN (gl e) c (callV (.ref 87)) [.str (tx (fig 4 y ++ 45 :: (fig 2 m ++ 45 :: fig 2 d)))] st P X := by
  refine fn (tabOk e) 30 87 0 [Str.ofString "dtstr"] rfl rfl (fun vs h => by obtain ⟨a, rfl⟩ := len1 h; rfl) hroom (by rfl) fun A₀ outer g₀ L hA => ?_
  have hz : (fig 4 y ++ 45 :: (fig 2 m ++ 45 :: fig 2 d)).length ≤ 16384 := Nat.le_of_ble_eq_true rfl
  refine ⟨ev_lenS ⟨ev_notin (ns := [7, 8, 10]) (in_tri (.inr (.inr rfl))) (splF ⟨sl_s (by decide) (by decide) hz ⟨ev_int (int4 hy) (Nat.le_of_ble_eq_true rfl) ?_⟩⟩)⟩ hz⟩
  refine gE_join (.bool true) ⟨ev_itemS (ch := 45) (by decide) rfl ⟨congrArg D.bool (decide_eq_true s_dash.symm), rfl⟩ hz⟩ ?_
  refine ⟨sl_s (by decide) (by decide) hz (spl (fun q => absurd (is_W.mp q) dig_W) fun _ => ?_)⟩
  refine ⟨sl_s (by decide) (by decide) hz ⟨ev_int (int2 hm) (Nat.le_of_ble_eq_true rfl) ⟨sl_s (by decide) (by decide) hz ?_⟩⟩⟩
  refine ⟨ev_neB (splFof (neT (is_dash.mpr rfl)) ?_)⟩
  refine ⟨sl_s (by decide) (by decide) hz ⟨ev_int (int2 hd) (Nat.le_of_ble_eq_true rfl) ?_⟩⟩
  exact h
theorem c_pd1 (y m d : Nat) (hy : y < 10000) (hm : m < 100) (hd : d < 100) (hroom : 1 ≤ c.room) (h : P (.lst st.ls.length) ⟨st.env, st.ls ++ [[.int y, .int m, .int d]], st.tn⟩) : EVN (gl e) c (callV (.ref 87)) [.str (tx (fig 4 y ++ (fig 2 m ++ fig 2 d)))] st P X := by
  refine fn (tabOk e) 30 87 0 [Str.ofString "dtstr"] rfl rfl (fun vs h => by obtain ⟨a, rfl⟩ := len1 h; rfl) hroom (by rfl) fun A₀ outer g₀ L hA => ?_
  have hz : (fig 4 y ++ (fig 2 m ++ fig 2 d)).length ≤ 16384 := Nat.le_of_ble_eq_true rfl
  refine ⟨ev_lenS ⟨ev_notin (ns := [7, 8, 10]) (in_tri (.inr (.inl rfl))) (splF ⟨sl_s (by decide) (by decide) hz ⟨ev_int (int4 hy) (Nat.le_of_ble_eq_true rfl) ?_⟩⟩)⟩ hz⟩
  refine gE_join (.bool false) ⟨ev_itemS (by decide) rfl ⟨congrArg D.bool (decide_eq_false fun q => dig_ne (by decide) (is_dash.mp q)), rfl⟩ hz⟩ ?_
  refine ⟨sl_s (by decide) (by decide) hz (spl (fun q => absurd (is_W.mp q) dig_W) fun _ => ?_)⟩
  refine ⟨sl_s (by decide) (by decide) hz ⟨ev_int (int2 hm) (Nat.le_of_ble_eq_true rfl) ⟨sl_s (by decide) (by decide) hz ?_⟩⟩⟩
  refine ⟨ev_neB (splFof (neF fun q => dig_ne (by decide) (is_dash.mp q)) ?_)⟩
  refine ⟨sl_s (by decide) (by decide) hz ⟨ev_int (int2 hd) (Nat.le_of_ble_eq_true rfl) ?_⟩⟩
  exact h
theorem c_pd2 (y w k : Nat) (y' m d : Int) (hy : 1 ≤ y ∧ y ≤ 9999) (hw : WeekOk y w) (hw' : w < 100) (hk : 1 ≤ k ∧ k ≤ 7) (hv : Valid y' m d) (hn : ordn y' m d = w1 y + (((w : Int) - 1) * 7 + ((k : Int) - 1))) (hh : c.A.handled = none) (hroom : 6 ≤ c.room) (h : P (.lst st.ls.length) ⟨st.env, st.ls ++ [[.int y', .int m, .int d]], st.tn⟩) : EVN (gl e) c (callV (.ref 87)) [.str (tx (fig 4 y ++ 45 :: 87 :: (fig 2 w ++ 45 :: fig 1 k)))] st P X := by
  refine fn (tabOk e) 30 87 5 [Str.ofString "dtstr"] rfl rfl (fun vs h => by obtain ⟨a, rfl⟩ := len1 h; rfl) hroom (by rfl) fun A₀ outer g₀ L hA => ?_
  have hz : (fig 4 y ++ 45 :: 87 :: (fig 2 w ++ 45 :: fig 1 k)).length ≤ 16384 := Nat.le_of_ble_eq_true rfl
  refine ⟨ev_lenS ⟨ev_notin (ns := [7, 8, 10]) (in_tri (.inr (.inr rfl))) (splF ⟨sl_s (by decide) (by decide) hz ⟨ev_int (int4 (by lia)) (Nat.le_of_ble_eq_true rfl) ?_⟩⟩)⟩ hz⟩
  refine gE_join (.bool true) ⟨ev_itemS (ch := 45) (by decide) rfl ⟨congrArg D.bool (decide_eq_true s_dash.symm), rfl⟩ hz⟩ ?_
  refine ⟨sl_s (by decide) (by decide) hz (splTof (decide_eq_true (is_W.mpr rfl)) ?_)⟩
  refine ⟨sl_s (by decide) (by decide) hz ⟨ev_int (int2 hw') (Nat.le_of_ble_eq_true rfl) ⟨ev_lenS (splT ⟨sl_s (by decide) (by decide) hz ?_⟩) hz⟩⟩⟩
  refine ⟨ev_neB (splFof (neT (is_dash.mpr rfl)) ?_)⟩
  refine ⟨sl_s (by decide) (by decide) hz ⟨ev_int (int1 (by lia)) (Nat.le_of_ble_eq_true rfl) ?_⟩⟩
  exact ⟨c_iso y w k y' m d ⟨by lia, by lia⟩ hw ⟨by lia, by lia⟩ hv hn (hA.trans hh) (Nat.le_refl 5) ⟨ev_listT (Nat.le_of_ble_eq_true rfl) h⟩⟩
theorem c_pd3 (y w k : Nat) (y' m d : Int) (hy : 1 ≤ y ∧ y ≤ 9999) (hw : WeekOk y w) (hw' : w < 100) (hk : 1 ≤ k ∧ k ≤ 7) (hv : Valid y' m d) (hn : ordn y' m d = w1 y + (((w : Int) - 1) * 7 + ((k : Int) - 1))) (hh : c.A.handled = none) (hroom : 6 ≤ c.room) (h : P (.lst st.ls.length) ⟨st.env, st.ls ++ [[.int y', .int m, .int d]], st.tn⟩) : EVN (gl e) c (callV (.ref 87)) [.str (tx (fig 4 y ++ 87 :: (fig 2 w ++ fig 1 k)))] st P X := by
  refine fn (tabOk e) 30 87 5 [Str.ofString "dtstr"] rfl rfl (fun vs h => by obtain ⟨a, rfl⟩ := len1 h; rfl) hroom (by rfl) fun A₀ outer g₀ L hA => ?_
  have hz : (fig 4 y ++ 87 :: (fig 2 w ++ fig 1 k)).length ≤ 16384 := Nat.le_of_ble_eq_true rfl
  refine ⟨ev_lenS ⟨ev_notin (ns := [7, 8, 10]) (in_tri (.inr (.inl rfl))) (splF ⟨sl_s (by decide) (by decide) hz ⟨ev_int (int4 (by lia)) (Nat.le_of_ble_eq_true rfl) ?_⟩⟩)⟩ hz⟩
  refine gE_join (.bool false) ⟨ev_itemS (ch := 87) (by decide) rfl ⟨congrArg D.bool (decide_eq_false fun q => absurd (is_dash.mp q) (by decide)), rfl⟩ hz⟩ ?_
  refine ⟨sl_s (by decide) (by decide) hz (splTof (decide_eq_true (is_W.mpr rfl)) ?_)⟩
  refine ⟨sl_s (by decide) (by decide) hz ⟨ev_int (int2 hw') (Nat.le_of_ble_eq_true rfl) ⟨ev_lenS (splT ⟨sl_s (by decide) (by decide) hz ?_⟩) hz⟩⟩⟩
  refine ⟨ev_neB (splFof (neF fun q => dig_ne (by decide) (is_dash.mp q)) ?_)⟩
  refine ⟨sl_s (by decide) (by decide) hz ⟨ev_int (int1 (by lia)) (Nat.le_of_ble_eq_true rfl) ?_⟩⟩
  exact ⟨c_iso y w k y' m d ⟨by lia, by lia⟩ hw ⟨by lia, by lia⟩ hv hn (hA.trans hh) (Nat.le_refl 5) ⟨ev_listT (Nat.le_of_ble_eq_true rfl) h⟩⟩
theorem c_pd4 (y w : Nat) (y' m d : Int) (hy : 1 ≤ y ∧ y ≤ 9999) (hw : WeekOk y w) (hw' : w < 100) (hv : Valid y' m d) (hn : ordn y' m d = w1 y + (((w : Int) - 1) * 7 + (1 - 1))) (hh : c.A.handled = none) (hroom : 6 ≤ c.room) (h : P (.lst st.ls.length) ⟨st.env, st.ls ++ [[.int y', .int m, .int d]], st.tn⟩) : EVN (gl e) c (callV (.ref 87)) [.str (tx (fig 4 y ++ 45 :: 87 :: fig 2 w))] st P X := by
  refine fn (tabOk e) 30 87 5 [Str.ofString "dtstr"] rfl rfl (fun vs h => by obtain ⟨a, rfl⟩ := len1 h; rfl) hroom (by rfl) fun A₀ outer g₀ L hA => ?_
  have hz : (fig 4 y ++ 45 :: 87 :: fig 2 w).length ≤ 16384 := Nat.le_of_ble_eq_true rfl
  refine ⟨ev_lenS ⟨ev_notin (ns := [7, 8, 10]) (in_tri (.inr (.inl rfl))) (splF ⟨sl_s (by decide) (by decide) hz ⟨ev_int (int4 (by lia)) (Nat.le_of_ble_eq_true rfl) ?_⟩⟩)⟩ hz⟩
  refine gE_join (.bool true) ⟨ev_itemS (ch := 45) (by decide) rfl ⟨congrArg D.bool (decide_eq_true s_dash.symm), rfl⟩ hz⟩ ?_
  refine ⟨sl_s (by decide) (by decide) hz (splTof (decide_eq_true (is_W.mpr rfl)) ?_)⟩
  refine ⟨sl_s (by decide) (by decide) hz ⟨ev_int (int2 hw') (Nat.le_of_ble_eq_true rfl) ⟨ev_lenS (splF ?_) hz⟩⟩⟩
  exact ⟨c_iso y w 1 y' m d ⟨by lia, by lia⟩ hw (by decide) hv hn (hA.trans hh) (Nat.le_refl 5) ⟨ev_listT (Nat.le_of_ble_eq_true rfl) h⟩⟩
theorem c_pd5 (y w : Nat) (y' m d : Int) (hy : 1 ≤ y ∧ y ≤ 9999) (hw : WeekOk y w) (hw' : w < 100) (hv : Valid y' m d) (hn : ordn y' m d = w1 y + (((w : Int) - 1) * 7 + (1 - 1))) (hh : c.A.handled = none) (hroom : 6 ≤ c.room) (h : P (.lst st.ls.length) ⟨st.env, st.ls ++ [[.int y', .int m, .int d]], st.tn⟩) : EVN (gl e) c (callV (.ref 87)) [.str (tx (fig 4 y ++ 87 :: fig 2 w))] st P X := by
  refine fn (tabOk e) 30 87 5 [Str.ofString "dtstr"] rfl rfl (fun vs h => by obtain ⟨a, rfl⟩ := len1 h; rfl) hroom (by rfl) fun A₀ outer g₀ L hA => ?_
  have hz : (fig 4 y ++ 87 :: fig 2 w).length ≤ 16384 := Nat.le_of_ble_eq_true rfl
  refine ⟨ev_lenS ⟨ev_notin (ns := [7, 8, 10]) (in_tri (.inl rfl)) (splF ⟨sl_s (by decide) (by decide) hz ⟨ev_int (int4 (by lia)) (Nat.le_of_ble_eq_true rfl) ?_⟩⟩)⟩ hz⟩
  refine gE_join (.bool false) ⟨ev_itemS (ch := 87) (by decide) rfl ⟨congrArg D.bool (decide_eq_false fun q => absurd (is_dash.mp q) (by decide)), rfl⟩ hz⟩ ?_
  refine ⟨sl_s (by decide) (by decide) hz (splTof (decide_eq_true (is_W.mpr rfl)) ?_)⟩
  refine ⟨sl_s (by decide) (by decide) hz ⟨ev_int (int2 hw') (Nat.le_of_ble_eq_true rfl) ⟨ev_lenS (splF ?_) hz⟩⟩⟩
  exact ⟨c_iso y w 1 y' m d ⟨by lia, by lia⟩ hw (by decide) hv hn (hA.trans hh) (Nat.le_refl 5) ⟨ev_listT (Nat.le_of_ble_eq_true rfl) h⟩⟩
end

section
variable {G : Gl} {c : Ac} {st : St} {X : XPost} {P : KP}
theorem ev_range2 {a b : Int} (h : P (.rng a b 1) st) : EVN G c (callV (.type "range")) [.int a, .int b] st P X := by
  intro W s h₀ m vs hr hv
  refine Classical.byContradiction fun hng => ?_
  obtain ⟨_, _, rfl, ⟨_, rfl⟩, ⟨_, rfl⟩⟩ := hv.two
  refine hng ?_
  clear hng
  refine call_range_2 ?_
  exact ⟨newW W _ _, st, .rng a b 1, h₀, m, newW_le, hr.newObj _ (hr.fr.push _) (News.push hr.fr hr.news _), ⟨_, _, _, _, rfl, .head _⟩, h⟩
theorem sl_eq {v : Expr} {l r : List Nat} {i j : Int} (p k : Nat) (hi : i = p) (hj : j = (p + k : Nat)) (e : (l.drop p).take k = r) (hz : l.length ≤ 16384) (h : P (.str (tx r)) st) : SL G c X v (.str (tx l)) (.int i) (.int j) st P := by
  subst hi hj e
  exact sl_s (Int.natCast_nonneg _) (Int.natCast_nonneg _) hz (by rw [Int.toNat_natCast, Int.toNat_natCast, Nat.add_sub_cancel_left]; exact h)
theorem gSet_last {P : KF} {v : D} {n : Int} {env : List (Str × D)} {ls : List (List D)} {ds es : List D} {tn : Bool} (h0 : 0 ≤ n) (h1 : n < ds.length) (h2 : n < 2 ^ 63) (he : ds.set n.toNat v = es) (h : P .next ⟨env, ls ++ [es], tn⟩) : gSet P v (.lst ls.length) (.int n) ⟨env, ls ++ [ds], tn⟩ := by
  subst he
  refine opt_of (a := ds) get_last ⟨⟨h0, h2, h1⟩, ?_⟩
  show P .next ⟨env, (ls ++ [ds]).set ls.length _, tn⟩
  rw [set_last]
  exact h
end
/-- the components so far -/
def cm (x : Nat → Nat) : Nat → List D
  | 0 => [.int 0, .int 0, .int 0, .int 0]
  | 1 => [.int (x 0), .int 0, .int 0, .int 0]
  | 2 => [.int (x 0), .int (x 1), .int 0, .int 0]
  | _ => [.int (x 0), .int (x 1), .int (x 2), .int 0]
theorem cm_len (x : Nat → Nat) (i : Nat) : (cm x i).length = 4 := by
  match i with
  | 0 => rfl
  | 1 => rfl
  | 2 => rfl
  | _ + 3 => rfl
theorem cm_set {x : Nat → Nat} {i : Nat} (h : i < 3) : (cm x i).set i (.int (x i)) = cm x (i + 1) := by
  match i, h with
  | 0, _ => rfl
  | 1, _ => rfl
  | 2, _ => rfl
  | _ + 3, h => lia
theorem s_colon : Str.ofString ":" = tx [58] := by decide +kernel
structure Clk (l : List Nat) (x : Nat → Nat) (n w : Nat) (sep : Bool) : Prop where
  n1 : 1 ≤ n
  n3 : n ≤ 3
  hx : ∀ i, i < n → x i < 100
  two : ∀ i, i < n → (l.drop (i * w)).take 2 = fig 2 (x i)
  len : ∀ i, i < n → i * w + 2 ≤ l.length
  mid : ∀ i, i + 1 < n → ∃ ch, (l.drop (i * w + 2)).take 1 = [ch] ∧ decide (ch = 58) = sep
  wd : w = 2 + if sep = true then 1 else 0
  fin : n < 3 → l.length = (n - 1) * w + 2
  zs : l.length ≤ 1000
noncomputable abbrev tE (l : List Nat) (k : Nat) (pv : Int) (cv nc hs : D) : List (Str × D) :=
  [(Str.ofString "tstr", .str (tx l)), (Str.ofString "len_str", .int l.length), (Str.ofString "time_comps", .lst k), (Str.ofString "pos", .int pv), (Str.ofString "comp", cv), (Str.ofString "next_char", nc), (Str.ofString "has_sep", hs)]
noncomputable abbrev tE0 (l : List Nat) (k : Nat) : List (Str × D) :=
  [(Str.ofString "tstr", .str (tx l)), (Str.ofString "len_str", .int l.length), (Str.ofString "time_comps", .lst k), (Str.ofString "pos", .int 0)]
theorem one_lt (ch : Nat) : ((tx [ch]).length : Int) < 2 ^ 63 := show ((1 : Nat) : Int) < 2 ^ 63 by decide
theorem tx_colon {ch : Nat} : tx [ch] = Str.ofString ":" ↔ ch = 58 := by rw [s_colon]; exact one_eq
theorem fig_take {k : Nat} : ∀ (j x : Nat), (fig (k + j) x).take k = fig k (x / 10 ^ j) := by
  intro j
  induction j with
  | zero => exact fun x => by rw [Nat.pow_zero, Nat.div_one, List.take_of_length_le (by rw [fig_len]; exact Nat.le_refl _)]; rfl
  | succ j ih =>
    intro x
    show (fig (k + j) (x / 10) ++ [48 + x % 10]).take k = _
    rw [List.take_append_of_le_length (by rw [fig_len]; exact Nat.le_add_right k j), ih, Nat.div_div_eq_div_mul, ← Nat.pow_succ']
theorem fc_at {s : Nat} (h1 : 1 ≤ s) (h5 : s ≤ 5) : (([100000, 10000, 1000, 100, 10] : List Int).map D.int)[s - 1]? = some (.int ((10 ^ (6 - s) : Nat) : Int)) := by
  rw [List.getElem?_map, (show ∀ s < 6, 1 ≤ s → ([100000, 10000, 1000, 100, 10] : List Int)[s - 1]? = some ((10 ^ (6 - s) : Nat) : Int) by decide +kernel) s (Nat.lt_succ_of_le h5) h1]
  rfl
theorem s_dots : (Str.ofString ".,").cps.toList = [46, 44] := by decide +kernel
theorem frac_hi {r s : Nat} (h : 6 ≤ s) : r * 10 ^ 6 / 10 ^ s = r / 10 ^ (s - 6) := by
  have : 10 ^ s = 10 ^ (s - 6) * 10 ^ 6 := by rw [← Nat.pow_add]; congr 1; lia
  rw [this, Nat.mul_div_mul_right _ _ (Nat.pow_pos (by decide))]
theorem frac_lo {r s : Nat} (h : s ≤ 6) : r * 10 ^ 6 / 10 ^ s = r * 10 ^ (6 - s) := by
  have : 10 ^ 6 = 10 ^ (6 - s) * 10 ^ s := by rw [← Nat.pow_add]; congr 1; lia
  rw [this, ← Nat.mul_assoc, Nat.mul_div_cancel _ (Nat.pow_pos (by decide))]
/-- a fraction behind three pairs -/
theorem a_ll {L p s : Nat} (h : L - p = s + 1) (g : p ≤ L) : L = p + 1 + s := by lia
theorem a_pl {L p s : Nat} (h : L = p + 1 + s) : (p : Int) < L := by lia
theorem a_es {L p s : Nat} (h : L = p + 1 + s) : (L : Int) - ((p : Int) + 1) = s := by lia
theorem a_ef {L p s : Nat} (h : L = p + 1 + s) : (p : Int) + 1 + ((L : Int) - ((p : Int) + 1)) = (p + 1 + s : Nat) := by lia
theorem a_n2 {L p : Nat} (h : p + 2 ≤ L) : ¬(L : Int) - p < 2 := by lia
theorem a_ti (i : Nat) : 0 + (i : Int) * 1 = i := by lia
theorem a_lo {s : Nat} (h : 1 ≤ s) : 0 ≤ (s : Int) - 1 ∧ ((s : Int) - 1).toNat = s - 1 := by lia
theorem a_hi {s : Nat} (h : s ≤ 5) : (s : Int) - 1 < 2 ^ 63 ∧ (s : Int) < 6 := by lia
theorem a_i3 {i : Nat} (h : i < 3) : 0 ≤ 0 + (i : Int) * 1 ∧ 0 + (i : Int) * 1 < (4 : Nat) ∧ 0 + (i : Int) * 1 < 2 ^ 63 := by lia
theorem a_i0 {i : Nat} (h : 1 ≤ i) : ¬0 + (i : Int) * 1 = 0 := by lia
theorem a_i2 {i n : Nat} (h : i + 1 < n) (g : n ≤ 3) : ¬2 ≤ 0 + (i : Int) * 1 := by lia
theorem a_m1 (n : Nat) : ((min 1 n : Nat) : Int) < 2 ^ 63 := by lia
structure Tail (l : List Nat) (x : Nat → Nat) (w : Nat) (v : List D) (ch sz rs : Nat) : Prop where
  dot : ch = 46 ∨ ch = 44
  s1 : 1 ≤ sz
  s9 : sz ≤ 9
  lt : rs < 10 ^ sz
  dr : l.drop (2 * w + 2) = ch :: fig sz rs
  v3 : v = [.int (x 0), .int (x 1), .int (x 2), .int ((rs * 10 ^ 6 / 10 ^ sz : Nat) : Int)]
section
variable {e : E0} {c : Ac} {st : St} {X : XPost} {P : KP}
theorem c_time (l : List Nat) (x : Nat → Nat) (n w : Nat) (sep : Bool) (k : Clk l x n w sep) (v : List D) (hh : c.A.handled = none)
    (ht : (l.length = (n - 1) * w + 2 ∧ v = cm x n) ∨ (n = 3 ∧ ∃ ch sz rs, Tail l x w v ch sz rs))
    (hroom : 3 ≤ c.room) (h : P (.lst st.ls.length) ⟨st.env, st.ls ++ [v], st.tn⟩) : EVN (gl e) c (callV (.ref 95)) [.str (tx l)] st P X := by
  have hz : l.length ≤ 16384 := Nat.le_trans k.zs (by decide)
  have n1 := k.n1
  have n3 := k.n3
  refine fn (tabOk e) 4 95 2 [Str.ofString "tstr"] rfl rfl (fun vs h => by obtain ⟨a, rfl⟩ := len1 h; rfl) hroom (by rfl) fun A₀ outer g₀ L hA => ?_
  refine ⟨ev_lenS ⟨AW.mp (P := fun af st' => af = .next ∧ ∃ cv nc hs, st' = ⟨tE l st.ls.length (((n - 1) * w + 2 : Nat) : Int) cv nc hs, st.ls ++ [cm x n], false⟩) ?loop ?after⟩ hz⟩
  case after =>
    rintro _ _ hj2
    refine Classical.byContradiction fun hng => ?_
    obtain ⟨rfl, cv, nc, hs, rfl⟩ := hj2
    refine hng ?_
    clear hng
    refine ⟨gS_ok (tabOk e) 3 _ _ _ ?_⟩
    rcases ht with ⟨h1, rfl⟩ | ⟨rfl, ch, sz, rs, T⟩
    · refine spl (fun q => absurd q (by rw [h1]; exact Int.lt_irrefl _)) fun _ => h
    have ll : l.length = 2 * w + 2 + 1 + sz := by
      have := congrArg List.length T.dr
      rw [List.length_drop, List.length_cons, fig_len] at this
      exact a_ll this (k.len 2 (by decide))
    have ech : l[2 * w + 2]? = some ch := by
      have := congrArg (·[0]?) T.dr
      rwa [List.getElem?_drop] at this
    have dr : l.drop (2 * w + 2 + 1) = fig sz rs := by rw [← List.drop_drop, T.dr]; rfl
    have s1 := T.s1
    have s9 := T.s9
    refine spl (fun q => ?_) fun q => absurd (show (((3 - 1) * w + 2 : Nat) : Int) < l.length from a_pl ll) q
    refine ⟨(gEB_ok (tabOk e) 5).1 _ _ _ ⟨ev_itemS (ch := ch) (Int.natCast_nonneg _) ech ⟨(gEB_ok (tabOk e) 5).1 _ _ _ ?_⟩ hz⟩⟩
    refine ⟨ev_notinS (splNT ?_ ⟨(gEB_ok (tabOk e) 5).1 _ _ _ ?_⟩)⟩
    · rw [cont_one, s_dots, decide_eq_true_eq]
      rcases T.dot with rfl | rfl <;> decide
    have gA := tabOk e _ (lookup_mem (T := tab) (x := Str.ofString "all") (g := .blt "all") rfl)
    have gM := tabOk e _ (lookup_mem (T := tab) (x := Str.ofString "map") (g := .typ "map") rfl)
    have gF := tabOk e _ (lookup_mem (T := tab) (x := Str.ofString "_is_ascii_digit") (g := .fn 73) rfl)
    refine ⟨as_cons (as_if (ab_not (ab_plain (ae_all (r := 1) gA.1 gA.2.1 gM.1 gM.2.1 gF.1 gA.2.2 gM.2.2 rfl rfl rfl rfl rfl rfl ((vw _).fine rfl) (hA.trans hh) rfl (Nat.le_refl 2) ((gEB_ok (tabOk e) 10).1 _ _ _ ?_)) rfl)))⟩
    refine ⟨sl_sfrom (Int.natCast_nonneg (2 * w + 2 + 1)) hz ⟨fig sz rs, ?_, fun c hc => Nat.lt_of_le_of_lt (fig_dig hc).2 (by decide), fun c hc => c_isdig c (Nat.le_refl 1) ⟨congrArg D.bool (decide_eq_true (fig_dig hc)), rfl⟩, ?_⟩⟩
    · rw [show (((((3 - 1) * w + 2 : Nat) : Int)) + 1).toNat = 2 * w + 2 + 1 from rfl, dr]
    refine at_bool (splF (as_nil ?_))
    refine gS_ok (tabOk e) 20 _ _ _ ?_
    have es : (l.length : Int) - ((((3 - 1) * w + 2 : Nat) : Int) + 1) = sz := a_es ll
    refine spl (fun q6 => ?_) fun q6 => ?_
    · have h6 : 6 ≤ sz := Int.ofNat_le.mp (es ▸ q6)
      refine ⟨sl_eq (r := fig 6 (rs / 10 ^ (sz - 6))) (2 * w + 2 + 1) 6 rfl rfl ?_ hz ⟨ev_int (int_fig _ (by decide) (by decide)) (by rw [fig_len]; decide) ?_⟩⟩
      · rw [dr, ← fig_take, Nat.add_sub_cancel' h6]
      refine gSet_last (by decide) (by rw [cm_len]; decide) (by decide) rfl (splF ?_)
      have e3 : rs / 10 ^ (sz - 6) % 10 ^ 6 = rs * 10 ^ 6 / 10 ^ sz := by
        rw [frac_hi h6, Nat.mod_eq_of_lt]
        rw [Nat.div_lt_iff_lt_mul (Nat.pow_pos (by decide)), ← Nat.pow_add, Nat.add_sub_cancel' h6]
        exact T.lt
      rw [T.v3, ← e3] at h
      exact h
    · have h6 : sz ≤ 5 := Nat.le_of_lt_succ (Nat.lt_of_not_le fun z => q6 (es ▸ Int.ofNat_le.mpr z))
      refine ⟨sl_eq (r := fig sz rs) (2 * w + 2 + 1) sz rfl (a_ef ll) (by rw [dr, List.take_of_length_le (by rw [fig_len]; exact Nat.le_refl _)]) hz ⟨ev_int (int_fig _ s1 (Nat.le_trans s9 (by decide))) (by rw [fig_len]; exact Nat.le_trans s9 (by decide)) ?_⟩⟩
      refine gSet_last (by decide) (by rw [cm_len]; decide) (by decide) rfl (spl (fun _ => ⟨as_augI ((gEB_ok (tabOk e) 5).1 _ _ _ ((gEB_ok (tabOk e) 5).1 _ _ _ ⟨3, _, _, rfl, get_last, by decide, by decide, rfl, (gEB_ok (tabOk e) 5).1 _ _ _ ⟨ev_item (ds := ([100000, 10000, 1000, 100, 10] : List Int).map D.int) rfl (es ▸ (a_lo s1).1) (by rw [es, (a_lo s1).2]; exact fc_at s1 h6) ⟨_, rfl, mulR ?_ ?_, rfl, ?_⟩ (es ▸ (a_hi h6).1)⟩⟩)) fun _ _ _ => rfl⟩) fun z => absurd (show _ < (6 : Int) from es ▸ (a_hi h6).2) z)
      · exact Int.lt_of_lt_of_le (by decide) (Int.natCast_nonneg _)
      · exact Int.ofNat_lt.mpr (Nat.lt_of_le_of_lt (Nat.pow_le_pow_right (by decide) (Nat.sub_le 6 sz)) (by decide))
      · have e3 : ((rs * 10 ^ 6 / 10 ^ sz : Nat) : Int) = ((rs % 10 ^ sz : Nat) : Int) * ((10 ^ (6 - sz) : Nat) : Int) := by rw [frac_lo (Nat.le_succ_of_le h6), Nat.mod_eq_of_lt T.lt, Int.natCast_mul]
        rw [T.v3, e3] at h
        show P (.lst st.ls.length) ⟨st.env, (st.ls ++ [_]).set st.ls.length _, st.tn⟩
        rw [set_last]
        exact h
  refine for_rng (a := 0) (b := 3) (e := 1) (n := 3) (fun i st' => i < n ∧ ((i = 0 ∧ st' = ⟨tE0 l st.ls.length, st.ls ++ [cm x 0], false⟩) ∨ (1 ≤ i ∧ ∃ pv cv nc, pv = ((i * w : Nat) : Int) ∧ st' = ⟨tE l st.ls.length pv cv nc (.bool sep), st.ls ++ [cm x i], false⟩)))
    ((gEB_ok (tabOk e) 10).1 _ _ _ ?rng) (fun _ _ => rfl) ?sz ?sm ?turn ?done ⟨n1, .inl ⟨rfl, rfl⟩⟩ (hA.trans hh) rfl rfl
  case rng => exact ⟨ev_range2 ⟨rfl, rfl⟩⟩
  case sz => rfl
  case sm => rfl
  case done => rintro st' ⟨hi, _⟩; exact absurd n3 (Nat.not_le_of_gt hi)
  case turn =>
    rintro i _ ⟨hi, ⟨rfl, rfl⟩ | ⟨i1, pv, cv, nc, rfl, rfl⟩⟩ i3
    · refine gS_ok (tabOk e) 20 _ _ _ ?_
      have := a_n2 (k.len 0 hi)
      refine spl (fun q => absurd q (by rw [Nat.zero_mul] at this; exact this)) fun _ => ?_
      refine ⟨sl_eq 0 2 rfl rfl ((congrArg (fun z => (l.drop z).take 2) (Nat.zero_mul w).symm).trans (k.two 0 hi)) hz ⟨ev_int (int2 (k.hx 0 hi)) (Nat.le_of_ble_eq_true rfl) ?_⟩⟩
      refine gSet_last (by decide) (by rw [cm_len]; decide) (by decide) rfl ?_
      rcases Nat.lt_or_ge 1 n with q | q
      · refine Classical.byContradiction fun hng => ?_
        obtain ⟨ch, e1, e2⟩ := k.mid 0 q
        refine hng ?_
        clear hng
        have hs : decide (tx [ch] = Str.ofString ":") = sep := (decide_eq_decide.mpr tx_colon).trans e2
        refine ⟨sl_eq 2 1 rfl rfl ((congrArg (fun z => (l.drop z).take 1) (show 2 = 0 * w + 2 from congrArg (· + 2) (Nat.zero_mul w).symm)).trans e1) hz (splT ⟨at_str (splOF (splOF (splF ?_))) (one_lt _)⟩)⟩
        refine spl (fun z => spl (fun y => absurd z y) fun _ => splF ?_) fun z => splF ?_
        all_goals
          refine ⟨q, .inr ⟨Nat.le_refl 1, _, _, _, ?_, congrArg (fun b => (⟨tE l st.ls.length _ _ _ (.bool b), _, false⟩ : St)) hs⟩⟩
          rw [hs, k.wd, Nat.one_mul]
          cases sep <;> rfl
      · obtain rfl : n = 1 := Nat.le_antisymm q n1
        have e0 : (1 - 1) * w + 2 = 2 := congrArg (· + 2) (Nat.zero_mul w)
        refine ⟨sl_eq (r := []) 2 1 rfl rfl (by rw [List.drop_of_length_le (by rw [k.fin (by decide), e0]; exact Nat.le_refl 2)]; rfl) hz (splT ⟨at_str (splOT (splT ?_)) (by decide)⟩)⟩
        exact ⟨rfl, _, _, _, congrArg (fun b : Nat => (⟨tE l st.ls.length (b : Int) _ _ _, _, false⟩ : St)) e0.symm⟩
    · refine gS_ok (tabOk e) 20 _ _ _ ?_
      have ti : (0 + (i : Int) * 1).toNat = i := congrArg Int.toNat (a_ti i)
      refine spl (fun q => absurd q (a_n2 (k.len i hi))) fun _ => ?_
      refine ⟨sl_eq (i * w) 2 rfl rfl (k.two i hi) hz ⟨ev_int (int2 (k.hx i hi)) (Nat.le_of_ble_eq_true rfl) ?_⟩⟩
      refine gSet_last (es := cm x (i + 1)) (a_i3 i3).1 (by rw [cm_len]; exact (a_i3 i3).2.1) (a_i3 i3).2.2 (by rw [ti]; exact cm_set i3) ?_
      rcases Nat.lt_or_ge (i + 1) n with q | q
      · refine Classical.byContradiction fun hng => ?_
        obtain ⟨ch, e1, e2⟩ := k.mid i q
        refine hng ?_
        clear hng
        refine ⟨sl_eq (i * w + 2) 1 rfl rfl e1 hz (spl (fun z => absurd z (a_i0 i1)) fun _ => ⟨at_str (splOF (splO (fun _ => splF ?_) fun z => absurd z (a_i2 q n3))) (one_lt _)⟩)⟩
        refine ⟨fun hs => spl (fun z => absurd (tx_colon.mpr (of_decide_eq_true (e2.trans hs))) z) fun _ => splF ?_, fun hs => splF ?_⟩
        all_goals
          refine ⟨q, .inr ⟨Nat.le_add_left 1 i, _, _, _, ?_, rfl⟩⟩
          rw [hs, Nat.succ_mul, k.wd, hs]
          rfl
      · obtain rfl : n = i + 1 := Nat.le_antisymm q hi
        refine ⟨sl_eq (i * w + 2) 1 rfl rfl rfl hz (spl (fun z => absurd z (a_i0 i1)) fun _ => ⟨at_str ⟨fun hb => splO (fun z => ?_) fun _ => splT ?_, fun _ => splT ?_⟩ ?_⟩)⟩
        · exfalso
          rw [List.drop_of_length_le (by rw [k.fin (by lia)]; exact Nat.le_refl _)] at hb
          cases hb
        · exact ⟨rfl, _, _, _, rfl⟩
        · exact ⟨rfl, _, _, _, rfl⟩
        · rw [tx_len, List.length_take]
          exact a_m1 _
end

theorem ifP {p : Prop} [Decidable p] {A B : Prop} (h : p) (a : A) : if p then A else B := by rw [if_pos h]; exact a
theorem fig_mod {k : Nat} : ∀ x : Nat, fig k (x % 10 ^ k) = fig k x := by
  induction k with
  | zero => exact fun _ => rfl
  | succ k ih =>
    intro x
    show fig k (x % 10 ^ (k + 1) / 10) ++ [48 + x % 10 ^ (k + 1) % 10] = fig k (x / 10) ++ [48 + x % 10]
    rw [Nat.pow_succ', Nat.mod_mul_right_div_self, ih, Nat.mod_mul_right_mod]
theorem s_nine : ∀ s : Nat, s < 10 → (4 * s ≤ 134217728) ∧ 2 * 10 ^ s < 4294967296 := by decide
section
variable {e : E0} {c : Ac} {st : St} {X : XPost} {P : KP}
theorem c_fig (x s : Nat) (h9 : s ≤ 9) (hroom : 1 ≤ c.room) (h : P (.str (tx (fig s x))) st) : EVN (gl e) c (callV (.ref 116)) [.int x, .int s] st P X := by
  refine fn (tabOk e) 20 116 0 [Str.ofString "x", Str.ofString "size"] rfl rfl (fun vs h => by obtain ⟨a, b, rfl⟩ := len2 h; rfl) hroom (by rfl) fun A₀ outer g₀ L hA => ?_
  obtain ⟨b1, b2⟩ := s_nine s (by lia)
  have hp : ∀ {Q : KP} {st' : St} {c' : Ac} {X' : XPost}, Q (.int ((10 ^ s : Nat) : Int)) st' → A2 (gl e) c' (binaryOp .Pow) (.int 10) (.int s) st' Q X' := fun q => ev_pow (Int.natCast_nonneg _) (Int.ofNat_le.mpr b1) (by rw [Int.toNat_natCast]; rw [show (10 : Int) ^ s = ((10 ^ s : Nat) : Int) from (Int.natCast_pow 10 s).symm]; exact q)
  have pos : (0 : Int) < ((10 ^ s : Nat) : Int) := Int.ofNat_lt.mpr (Nat.pow_pos (by decide))
  refine ⟨hp (ifP pos ⟨hp ⟨ev_str ?_ ?_⟩⟩)⟩
  · rw [show (x : Int) % ((10 ^ s : Nat) : Int) + ((10 ^ s : Nat) : Int) = ((10 ^ s + x % 10 ^ s : Nat) : Int) from (by rw [Int.natCast_add, Int.natCast_emod, Int.add_comm]), Int.natAbs_natCast]
    have := Nat.mod_lt x (Nat.pow_pos (n := s) (show 0 < 10 by decide))
    exact Nat.lt_of_lt_of_le ((Nat.log2_lt (by lia)).mpr (show _ < 2 ^ 32 by lia)) (by decide)
  · rw [show (x : Int) % ((10 ^ s : Nat) : Int) + ((10 ^ s : Nat) : Int) = ((10 ^ s + x % 10 ^ s : Nat) : Int) from (by rw [Int.natCast_add, Int.natCast_emod, Int.add_comm]), str_fig (Nat.mod_lt x (Nat.pow_pos (n := s) (show 0 < 10 by decide))), fig_mod]
    exact ⟨sl_sfrom (by decide) (by rw [List.length_cons, fig_len]; lia) h⟩
theorem c_lawdate (y m d n : Int) (hv : Valid y m d) (hn : ordn y m d = n) (hh : c.A.handled = none) (hroom : 1 ≤ c.room) (h : P (.lst st.ls.length) ⟨st.env, st.ls ++ [[.int y, .int m, .int d]], st.tn⟩) : EVN (gl e) c (callV (.ref 123)) [.int n] st P X := by
  refine fn (tabOk e) 20 123 0 [Str.ofString "n"] rfl rfl (fun vs h => by obtain ⟨a, rfl⟩ := len1 h; rfl) hroom (by rfl) fun A₀ outer g₀ L hA => ?_
  refine Classical.byContradiction fun hng => ?_
  obtain ⟨era, day, year, day', month, h1, h2, h3, h4, h5, h6, h7, h8⟩ := law_date hv hn
  refine hng ?_
  clear hng
  refine ⟨hA.trans hh, ⟨ev_divmod (by decide) (by decide) ?_⟩⟩
  rw [h1, h2]
  subst h3 h4 h5 h6 h7 h8
  refine ⟨mulL (by decide) (by decide), mulL (by decide) (by decide), mulL (by decide) (by decide), mulL (by decide) (by decide), h⟩
theorem c_week (y m d n : Int) (hv : Valid y m d) (hn : ordn y m d = n - (n - 1) % 7 + 3) (hh : c.A.handled = none) (hroom : 2 ≤ c.room) (h : ∀ ls', st.ls <+: ls' → P (.lst ls'.length) ⟨st.env, ls' ++ [[.int y, .int ((n - (n - 1) % 7 + 3 - (dby y + 1)) / 7 + 1), .int ((n - 1) % 7 + 1)]], st.tn⟩) : EVN (gl e) c (callV (.ref 130)) [.int n] st P X := by
  refine fn (tabOk e) 20 130 1 [Str.ofString "n"] rfl rfl (fun vs h => by obtain ⟨a, rfl⟩ := len1 h; rfl) hroom (by rfl) fun A₀ outer g₀ L hA => ?_
  refine ⟨c_lawdate y m d _ hv hn (hA.trans hh) (Nat.le_refl 1) ⟨ev_item (e := .int y) get_last (by decide) rfl ⟨mulL (by decide) (by decide), ?_⟩ (by decide)⟩⟩
  have e1 : 365 * (y - 1) + (y - 1) / 4 - (y - 1) / 100 + (y - 1) / 400 + 1 = dby y + 1 := by unfold dby; rw [Int.mul_comm]
  have e2 : y - 1 + 1 = y := Int.sub_add_cancel y 1
  have key : ∀ z w : Int, z = y → w = dby y + 1 → P (.lst (st.ls ++ [[D.int y, D.int m, D.int d]]).length) ⟨st.env, st.ls ++ [[.int y, .int m, .int d]] ++ [[.int z, .int ((n - (n - 1) % 7 + 3 - w) / 7 + 1), .int ((n - 1) % 7 + 1)]], st.tn⟩ := by
    rintro _ _ rfl rfl
    exact h _ (List.prefix_append _ _)
  exact key _ _ e2 e1
end

section
variable {e : E0} {c : Ac} {st : St} {X : XPost} {P : KP}
theorem join3 (s a b c : List Nat) : Txt.join (tx s) [tx a, tx b, tx c] = tx (a ++ (s ++ (b ++ (s ++ c)))) := by
  refine congrArg Str.mk ?_
  show ((a.toArray ++ s.toArray ++ b.toArray) ++ s.toArray ++ c.toArray) = _
  simp only [List.append_toArray, List.append_assoc]
theorem join2 (s a b : List Nat) : Txt.join (tx s) [tx a, tx b] = tx (a ++ (s ++ b)) := by
  refine congrArg Str.mk ?_
  show (a.toArray ++ s.toArray ++ b.toArray) = _
  simp only [List.append_toArray, List.append_assoc]
theorem str_one {k : Nat} (h : k < 10) : Str.ofString (toString (k : Int)) = tx (fig 1 k) := (show ∀ k < 10, Str.ofString (toString ((k : Nat) : Int)) = tx (fig 1 k) by decide +kernel) k h
theorem s_no : Str.ofString "" = tx [] := by decide +kernel
/-- the sign between the parts -/
def sepT (way : Int) : List Nat := if way % 2 = 0 then [45] else []
theorem sepT_len (way : Int) : (sepT way).length ≤ 1 := by unfold sepT; split <;> decide
theorem sep_even {way : Int} (q : way % 2 = 0) : Str.ofString "-" = tx (sepT way) := by unfold sepT; rw [if_pos q]; exact s_dash
theorem sep_odd {way : Int} (q : ¬ way % 2 = 0) : Str.ofString "" = tx (sepT way) := by unfold sepT; rw [if_neg q]; exact s_no
theorem ev_join3 {G : Gl} {s : Str} {way : Int} {k : Nat} {a b d : List Nat} (hs : s = tx (sepT way)) (hk : st.ls[k]? = some [.str (tx a), .str (tx b), .str (tx d)]) (hz : a.length + (b.length + d.length) ≤ 1000) (h : P (.str (tx (a ++ (sepT way ++ (b ++ (sepT way ++ d)))))) st) : EVN G c (callV (.builtin "str.join")) [.str s, .lst k] st P X := by
  subst hs
  have := sepT_len way
  refine ev_join (ys := [tx a, tx b, tx d]) hk ?_ (by rw [join3]; exact h)
  show (tx a).length + ((tx b).length + ((tx d).length + 0)) + 3 * (tx (sepT way)).length ≤ _
  rw [tx_len, tx_len, tx_len, tx_len]
  lia
theorem ev_join2 {G : Gl} {s : Str} {way : Int} {k : Nat} {a b : List Nat} (hs : s = tx (sepT way)) (hk : st.ls[k]? = some [.str (tx a), .str (tx b)]) (hz : a.length + b.length ≤ 1000) (h : P (.str (tx (a ++ (sepT way ++ b)))) st) : EVN G c (callV (.builtin "str.join")) [.str s, .lst k] st P X := by
  subst hs
  have := sepT_len way
  refine ev_join (ys := [tx a, tx b]) hk ?_ (by rw [join2]; exact h)
  show (tx a).length + ((tx b).length + 0) + 2 * (tx (sepT way)).length ≤ _
  rw [tx_len, tx_len, tx_len]
  lia
theorem pre2 {α : Type} {l : List α} {a b : α} : l <+: l ++ [a] ++ [b] := (List.prefix_append l [a]).trans (List.prefix_append _ _)
theorem c_dayD (way : Int) (y m d : Nat) (n : Int) (hw : way < 2) (hv : Valid y m d) (hn : ordn y m d = n) (hh : c.A.handled = none) (hroom : 2 ≤ c.room) (h : ∀ ls', st.ls <+: ls' → P (.str (tx (fig 4 y ++ (sepT way ++ (fig 2 m ++ (sepT way ++ fig 2 d)))))) ⟨st.env, ls', st.tn⟩) : EVN (gl e) c (callV (.ref 137)) [.int way, .int n] st P X := by
  refine fn (tabOk e) 20 137 1 [Str.ofString "way", Str.ofString "n"] rfl rfl (fun vs h => by obtain ⟨a, b, rfl⟩ := len2 h; rfl) hroom (by rfl) fun A₀ outer g₀ L hA => ?_
  refine spl (fun _ => ⟨hA.trans hh, ⟨c_lawdate y m d n hv hn (hA.trans hh) (Nat.le_refl 1) (opt_of get_last ?_)⟩⟩) fun q => absurd hw q
  refine ⟨c_fig y 4 (by decide) (Nat.le_refl 1) ⟨c_fig m 2 (by decide) (Nat.le_refl 1) ⟨c_fig d 2 (by decide) (Nat.le_refl 1) ?_⟩⟩⟩
  refine spl (fun q => absurd hw (by lia)) fun _ => ?_
  refine ⟨ae_join rfl rfl rfl ((gEB_ok (tabOk e) 5).1 _ _ _ ?_)⟩
  have hz : (fig 4 y).length + ((fig 2 m).length + (fig 2 d).length) ≤ 1000 := by rw [fig_len, fig_len, fig_len]; decide
  refine spl (fun q => ⟨_, rfl, (gEB_ok (tabOk e) 5).1 _ _ _ (ev_join3 (sep_even q) get_last hz ?_)⟩) fun q => ⟨_, rfl, (gEB_ok (tabOk e) 5).1 _ _ _ (ev_join3 (sep_odd q) get_last hz ?_)⟩
  · exact h _ pre2
  · exact h _ pre2
theorem c_dayW (way : Int) (y w k : Nat) (m d n : Int) (hw : 2 ≤ way) (hv : Valid y m d) (hn : ordn y m d = n - (n - 1) % 7 + 3) (ew : (n - (n - 1) % 7 + 3 - (dby y + 1)) / 7 + 1 = w) (ek : (n - 1) % 7 + 1 = k) (k9 : k < 10) (hh : c.A.handled = none) (hroom : 3 ≤ c.room)
    (h1 : way ≤ 3 → ∀ ls', st.ls <+: ls' → P (.str (tx (fig 4 y ++ (sepT way ++ (87 :: fig 2 w ++ (sepT way ++ fig 1 k)))))) ⟨st.env, ls', st.tn⟩) (h2 : 3 < way → ∀ ls', st.ls <+: ls' → P (.str (tx (fig 4 y ++ (sepT way ++ 87 :: fig 2 w)))) ⟨st.env, ls', st.tn⟩) : EVN (gl e) c (callV (.ref 137)) [.int way, .int n] st P X := by
  refine fn (tabOk e) 20 137 2 [Str.ofString "way", Str.ofString "n"] rfl rfl (fun vs h => by obtain ⟨a, b, rfl⟩ := len2 h; rfl) hroom (by rfl) fun A₀ outer g₀ L hA => ?_
  refine spl (fun q => absurd q (by lia)) fun _ => ⟨hA.trans hh, ⟨c_week y m d n hv hn (hA.trans hh) (Nat.le_refl 2) fun ls' hl => opt_of get_last ?_⟩⟩
  rw [ew, ek]
  refine ⟨c_fig y 4 (by decide) (Nat.le_add_left 1 1) ⟨c_fig w 2 (by decide) (Nat.le_add_left 1 1) ⟨?_⟩⟩⟩
  rw [s_W]
  refine ev_addS ⟨ev_str ?_ ?_⟩ (by rw [fig_len]; decide)
  · rw [Int.natAbs_natCast]
    rcases Nat.eq_zero_or_pos k with q | q
    · rw [q]; decide
    · exact Nat.lt_of_lt_of_le ((Nat.log2_lt (by lia)).mpr (show k < 2 ^ 4 by lia)) (by decide)
  rw [str_one k9]
  refine spl (fun q => ⟨sl_to get_last (by decide) (Nat.le_of_ble_eq_true rfl) ?_⟩) fun q => ?_
  · refine ⟨ae_join rfl rfl rfl ((gEB_ok (tabOk e) 5).1 _ _ _ ?_)⟩
    have hz : (fig 4 y).length + (87 :: fig 2 w).length ≤ 1000 := by rw [List.length_cons, fig_len, fig_len]; decide
    refine spl (fun z => ⟨_, rfl, (gEB_ok (tabOk e) 5).1 _ _ _ (ev_join2 (sep_even z) get_last hz ?_)⟩) fun z => ⟨_, rfl, (gEB_ok (tabOk e) 5).1 _ _ _ (ev_join2 (sep_odd z) get_last hz ?_)⟩
    · exact h2 q _ (hl.trans (pre2.trans (List.prefix_append _ _)))
    · exact h2 q _ (hl.trans (pre2.trans (List.prefix_append _ _)))
  · refine ⟨ae_join rfl rfl rfl ((gEB_ok (tabOk e) 5).1 _ _ _ ?_)⟩
    have hz : (fig 4 y).length + ((87 :: fig 2 w).length + (fig 1 k).length) ≤ 1000 := by rw [List.length_cons, fig_len, fig_len, fig_len]; decide
    refine spl (fun z => ⟨_, rfl, (gEB_ok (tabOk e) 5).1 _ _ _ (ev_join3 (sep_even z) get_last hz ?_)⟩) fun z => ⟨_, rfl, (gEB_ok (tabOk e) 5).1 _ _ _ (ev_join3 (sep_odd z) get_last hz ?_)⟩
    · exact h1 (Int.not_lt.mp q) _ (hl.trans pre2)
    · exact h1 (Int.not_lt.mp q) _ (hl.trans pre2)
end

/-- the pairs glued -/
def jt (s : List Nat) (a b c : Nat) : Nat → List Nat
  | 0 => []
  | 1 => fig 2 a
  | 2 => fig 2 a ++ (s ++ fig 2 b)
  | _ => fig 2 a ++ (s ++ (fig 2 b ++ (s ++ fig 2 c)))
def tm (a b c : Nat) : Nat → Nat
  | 0 => a
  | 1 => b
  | _ => c
def colT (sep : Bool) : List Nat := match sep with
  | true => [58]
  | false => []
/-- a clock's text and what it says -/
structure TimeOk (l : List Nat) (v : List D) (x : Nat → Nat) (n w : Nat) (sep : Bool) : Prop where
  clk : Clk l x n w sep
  what : (l.length = (n - 1) * w + 2 ∧ v = cm x n) ∨ (n = 3 ∧ ∃ ch sz rs, Tail l x w v ch sz rs)
theorem clk_of {sep : Bool} {a b c n : Nat} (t : List Nat) (ha : a < 100) (hb : b < 100) (hc : c < 100) (n1 : 1 ≤ n) (n3 : n ≤ 3) (ht : n < 3 → t = []) (htl : t.length ≤ 100) : Clk (jt (colT sep) a b c n ++ t) (tm a b c) n (2 + if sep = true then 1 else 0) sep := by
  have hx : ∀ i, i < n → tm a b c i < 100 := fun i _ => by
    rcases i with _ | _ | i
    · exact ha
    · exact hb
    · exact hc
  have nd : ∀ x : Nat, decide (48 + x % 10 = 58) = false := fun x => decide_eq_false (by lia)
  have no : ∀ {k i : Nat} {p : Prop}, k ≤ i → i < k → p := fun h1 h2 => absurd (Nat.lt_of_le_of_lt h1 h2) (Nat.lt_irrefl _)
  obtain rfl | rfl | rfl : n = 1 ∨ n = 2 ∨ n = 3 := by lia
  · obtain rfl := ht (by decide)
    cases sep
    all_goals
      refine ⟨by decide, by decide, hx, fun i hi => ?_, fun i hi => ?_, fun i hi => ?_, rfl, fun _ => rfl, Nat.le_of_ble_eq_true rfl⟩
      · rcases i with _ | i
        · rfl
        · exact no (Nat.le_add_left 1 i) hi
      · rcases i with _ | i
        · exact Nat.le_refl 2
        · exact no (Nat.le_add_left 1 i) hi
      · exact no (Nat.le_add_left 1 i) hi
  · obtain rfl := ht (by decide)
    cases sep
    all_goals
      refine ⟨by decide, by decide, hx, fun i hi => ?_, fun i hi => ?_, fun i hi => ?_, rfl, fun _ => rfl, Nat.le_of_ble_eq_true rfl⟩
      · rcases i with _ | _ | i
        · rfl
        · rfl
        · exact no (Nat.le_add_left 2 i) hi
      · rcases i with _ | _ | i
        · exact Nat.le_of_ble_eq_true rfl
        · exact Nat.le_of_ble_eq_true rfl
        · exact no (Nat.le_add_left 2 i) hi
      · rcases i with _ | i
        · first | exact ⟨58, rfl, rfl⟩ | exact ⟨_, rfl, nd _⟩
        · exact no (Nat.le_add_left 2 i) hi
  · have ll : ∀ {k : Nat}, k ≤ 6 → k ≤ (jt (colT sep) a b c 3 ++ t).length := fun h => by
      rw [List.length_append]
      cases sep
      · exact Nat.le_trans h (Nat.le_add_right 6 _)
      · exact Nat.le_trans h (Nat.le_trans (by decide) (Nat.le_add_right 8 _))
    have lz : (jt (colT sep) a b c 3 ++ t).length ≤ 1000 := by
      rw [List.length_append]
      cases sep
      · exact Nat.le_trans (Nat.add_le_add (Nat.le_refl 6) htl) (by decide)
      · exact Nat.le_trans (Nat.add_le_add (Nat.le_refl 8) htl) (by decide)
    refine ⟨by decide, by decide, hx, fun i hi => ?_, fun i hi => ?_, fun i hi => ?_, rfl, fun z => absurd z (by decide), lz⟩
    · cases sep
      all_goals
        rcases i with _ | _ | _ | i
        · rfl
        · rfl
        · rfl
        · exact no (Nat.le_add_left 3 i) hi
    · cases sep
      · exact ll (show i * 2 + 2 ≤ 6 by lia)
      · rw [List.length_append]
        exact Nat.le_trans (m := 8) (show i * 3 + 2 ≤ 8 by lia) (Nat.le_add_right 8 _)
    · cases sep
      all_goals
        rcases i with _ | _ | i
        · first | exact ⟨58, rfl, rfl⟩ | exact ⟨_, rfl, nd _⟩
        · first | exact ⟨58, rfl, rfl⟩ | exact ⟨_, rfl, nd _⟩
        · exact no (Nat.le_add_left 3 i) hi
/-- without a fraction -/
theorem time_plain {sep : Bool} {a b c n : Nat} (ha : a < 100) (hb : b < 100) (hc : c < 100) (n1 : 1 ≤ n) (n3 : n ≤ 3) : TimeOk (jt (colT sep) a b c n) (cm (tm a b c) n) (tm a b c) n (2 + if sep = true then 1 else 0) sep := by
  have k := clk_of (sep := sep) [] ha hb hc n1 n3 (fun _ => rfl) (Nat.zero_le _)
  rw [List.append_nil] at k
  refine ⟨k, .inl ⟨?_, rfl⟩⟩
  obtain rfl | rfl | rfl : n = 1 ∨ n = 2 ∨ n = 3 := by lia
  all_goals cases sep <;> rfl
/-- with a fraction -/
theorem time_frac {sep : Bool} {a b c ch sz rs : Nat} (ha : a < 100) (hb : b < 100) (hc : c < 100) (hd : ch = 46 ∨ ch = 44) (s1 : 1 ≤ sz) (s9 : sz ≤ 9) (hr : rs < 10 ^ sz) :
    TimeOk (jt (colT sep) a b c 3 ++ ch :: fig sz rs) [.int a, .int b, .int c, .int ((rs * 10 ^ 6 / 10 ^ sz : Nat) : Int)] (tm a b c) 3 (2 + if sep = true then 1 else 0) sep := by
  refine ⟨clk_of _ ha hb hc (by decide) (by decide) (fun z => absurd z (by decide)) (by rw [List.length_cons, fig_len]; lia), .inr ⟨rfl, ch, sz, rs, hd, s1, s9, hr, ?_, rfl⟩⟩
  cases sep <;> rfl
theorem run_cons {c : Nat} {l : List Nat} (h : dg c) : run (c :: l) = run l + 1 := by
  show (if dg c then run l + 1 else 0) = _
  rw [if_pos h]
theorem run_stop {c : Nat} {l : List Nat} (h : ¬ dg c) : run (c :: l) = 0 := by
  show (if dg c then run l + 1 else 0) = _
  rw [if_neg h]
theorem run_app : ∀ {f t : List Nat}, (∀ c ∈ f, dg c) → run (f ++ t) = f.length + run t := by
  intro f t h
  induction f with
  | nil => exact (Nat.zero_add _).symm
  | cons c r ih =>
    rw [List.cons_append, run_cons (h c (.head _)), ih fun c hc => h c (.tail _ hc), List.length_cons]
    lia
theorem run_fig {k x : Nat} {t : List Nat} : run (fig k x ++ t) = k + run t := by rw [run_app fun c hc => fig_dig hc, fig_len]

def parts (a b c : Nat) (p : Nat) : List D := [D.int a, D.int b, D.int c].take p
def figD : D → D
  | .int i => .str (tx (fig 2 i.toNat))
  | d => d
theorem one23 {p : Nat} (h1 : 1 ≤ p) (h3 : p ≤ 3) : p = 1 ∨ p = 2 ∨ p = 3 := by lia
theorem parts_due {a b c p : Nat} (h1 : 1 ≤ p) (h3 : p ≤ 3) : parts a b c p ++ List.replicate (4 - p) (D.int 0) = cm (tm a b c) p := by
  rcases one23 h1 h3 with rfl | rfl | rfl <;> rfl
theorem colT_len (sep : Bool) : (colT sep).length ≤ 1 := by cases sep <;> decide
theorem mem_parts {a b c p : Nat} {d : D} (h : d ∈ parts a b c p) : ∃ i : Nat, d = .int i := by
  have := List.mem_of_mem_take h
  rcases List.mem_cons.mp this with rfl | this
  · exact ⟨_, rfl⟩
  rcases List.mem_cons.mp this with rfl | this
  · exact ⟨_, rfl⟩
  rcases List.mem_cons.mp this with rfl | this
  · exact ⟨_, rfl⟩
  cases this
theorem jt_len {sep : Bool} {a b c n : Nat} : (jt (colT sep) a b c n).length ≤ 8 := by
  rcases n with _ | _ | _ | n <;> cases sep <;> exact Nat.le_of_ble_eq_true rfl
theorem s_dots' : Str.ofString ".," = tx [46, 44] := by decide +kernel
section
variable {e : E0} {c : Ac} {st : St} {X : XPost} {P : KP}
theorem ev_joinP {G : Gl} {s : Str} {sep : Bool} {k p : Nat} {a b d : Nat} (hs : s = tx (colT sep)) (h1 : 1 ≤ p) (h3 : p ≤ 3) (hk : st.ls[k]? = some ((parts a b d p).map figD)) (h : P (.str (tx (jt (colT sep) a b d p))) st) : EVN G c (callV (.builtin "str.join")) [.str s, .lst k] st P X := by
  have := colT_len sep
  subst hs
  rcases one23 h1 h3 with rfl | rfl | rfl
  · refine ev_join (ys := [tx (fig 2 a)]) hk ?_ h
    show (tx (fig 2 a)).length + 0 + 1 * (tx (colT sep)).length ≤ _
    rw [tx_len, tx_len, fig_len]
    lia
  · refine ev_join (ys := [tx (fig 2 a), tx (fig 2 b)]) hk ?_ (by rw [join2]; exact h)
    show (tx (fig 2 a)).length + ((tx (fig 2 b)).length + 0) + 2 * (tx (colT sep)).length ≤ _
    rw [tx_len, tx_len, tx_len, fig_len, fig_len]
    lia
  · refine ev_join (ys := [tx (fig 2 a), tx (fig 2 b), tx (fig 2 d)]) hk ?_ (by rw [join3]; exact h)
    show (tx (fig 2 a)).length + ((tx (fig 2 b)).length + ((tx (fig 2 d)).length + 0)) + 3 * (tx (colT sep)).length ≤ _
    rw [tx_len, tx_len, tx_len, tx_len, fig_len, fig_len, fig_len]
    lia
/-- [_law_figures(part, 2) for part in parts], handed to join -/
theorem ae_figs {scope : Scope} {np p1 p2 p3 px pos : Pos} {iter : Expr} {k k2 : Nat} {ds : List D} (hi : ∀ d ∈ ds, ∃ i : Nat, d = .int i)
    (hh : c.A.handled = none) (hcp : c.cp = none) (hfree : ∀ y ∈ scope.names, y.2 ≠ .free) (hcell : ∀ y ∈ scope.names, y.2 ≠ .cell) (hkind : scope.kind = .function)
    (hnames : ∀ y ∈ scope.names, y.2 = .local → scope.names.lookup y.1 = some .local) (hx : scope.names.lookup (Str.ofString "part") = some .local) (hl : ∀ C, (compEnv scope C c.env).kindOf (Str.ofString "part") = some .local)
    (hk : st.ls[k]? = some ds) (hsz : ds.length ≤ 16384) (hroom : 1 ≤ c.room) (hg : ∀ C, (compEnv scope C c.env).kindOf (Str.ofString "_law_figures") = some .globalImplicit)
    (h : AE (gl e) c (eval iter c.env) st (fun d₀ st₁ => d₀ = .lst k ∧ st₁ = st) X) (hs : ∀ x, foldedSetIterable iter c.env x = pure x)
    (hP : P (.lst st.ls.length) ⟨st.env, st.ls ++ [ds.map figD], st.tn⟩) :
    AE (gl e) c (eval (.ListComp (.Call (.Name (Str.ofString "_law_figures") np) [.Name (Str.ofString "part") p1, .Constant (.int 2) k2 p2] [] p3) [⟨.Name (Str.ofString "part") px, iter, [], 0⟩] scope pos) c.env) st P X := by
  have gF := tabOk e _ (lookup_mem (T := tab) (x := Str.ofString "_law_figures") (g := .fn 116) rfl)
  refine ae_comp figD k ds hh hcp hfree hcell hkind hnames hx hk hsz h (fun C d acc hd => ?_) hP hs
  obtain ⟨i, rfl⟩ := hi d hd
  refine ae_ccall gF.1 gF.2 ?_ hkind (hg C) rfl rfl rfl
  refine al_cons (ae_cname rfl (al_cons (ae_int (al_nil (c_fig i 2 (by decide) hroom ⟨rfl, rfl⟩))) rfl) hkind (hl C) rfl) rfl
end

/-- a sign that stands in clocks -/
def Ck (ch : Nat) : Prop := dg ch ∨ ch = 58 ∨ ch = 46 ∨ ch = 44
structure ClkT (l : List Nat) : Prop where
  ch : ∀ x ∈ l, Ck x
  len : l.length = 5 ∨ 8 ≤ l.length
  shape : ∃ a b c d r, a < 10 ∧ b < 10 ∧ c < 10 ∧ l = (48 + a) :: (48 + b) :: 58 :: (48 + c) :: (48 + d % 10) :: r
theorem ck_fig {k x : Nat} : ∀ c ∈ fig k x, Ck c := fun c hc => .inl (fig_dig hc)
theorem ck_app {l r : List Nat} (h1 : ∀ c ∈ l, Ck c) (h2 : ∀ c ∈ r, Ck c) : ∀ c ∈ l ++ r, Ck c := fun c hc => (List.mem_append.mp hc).elim (h1 c) (h2 c)
theorem ck_cons {a : Nat} {r : List Nat} (h1 : Ck a) (h2 : ∀ c ∈ r, Ck c) : ∀ c ∈ a :: r, Ck c := forall_cons h1 h2
theorem clk_two (a b c : Nat) : ClkT (jt (colT true) a b c 2) :=
  ⟨ck_app ck_fig (ck_cons (.inr (.inl rfl)) ck_fig), .inl rfl, a / 10 % 10, a % 10, b / 10 % 10, b, [], Nat.mod_lt _ (by decide), Nat.mod_lt _ (by decide), Nat.mod_lt _ (by decide), rfl⟩
theorem clk_three {a b c : Nat} {t : List Nat} (ht : ∀ x ∈ t, Ck x) : ClkT (jt (colT true) a b c 3 ++ t) :=
  ⟨ck_app (show ∀ x ∈ fig 2 a ++ 58 :: (fig 2 b ++ 58 :: fig 2 c), Ck x from ck_app (l := fig 2 a) ck_fig (ck_cons (.inr (.inl rfl)) (ck_app (l := fig 2 b) ck_fig (ck_cons (.inr (.inl rfl)) ck_fig)))) ht, .inr (by rw [List.length_append]; exact Nat.le_add_right 8 _), a / 10 % 10, a % 10, b / 10 % 10, b, _, Nat.mod_lt _ (by decide), Nat.mod_lt _ (by decide), Nat.mod_lt _ (by decide), rfl⟩
theorem s_eight : Str.ofString "- TW/;_+" = tx [45, 32, 84, 87, 47, 59, 95, 43] := by decide +kernel
theorem s_blank : Str.ofString " " = tx [32] := by decide +kernel
theorem s_cks : (Str.ofString "0123456789:.,").cps.toList = [48, 49, 50, 51, 52, 53, 54, 55, 56, 57, 58, 46, 44] := by decide +kernel
theorem nck8 : ∀ k < 8, ∀ s, [45, 32, 84, 87, 47, 59, 95, 43][k]? = some s → ¬ Ck s := by
  intro k hk s hs
  have : s ∈ [45, 32, 84, 87, 47, 59, 95, 43] := List.mem_of_getElem? hs
  have h : ∀ s ∈ [45, 32, 84, 87, 47, 59, 95, 43], ¬ (dg s ∨ s = 58 ∨ s = 46 ∨ s = 44) := by decide
  exact h s this
theorem ck_in {s : Nat} (h : Ck s) : s ∈ [48, 49, 50, 51, 52, 53, 54, 55, 56, 57, 58, 46, 44] := by
  rcases h with ⟨h1, h2⟩ | rfl | rfl | rfl
  · have := (show ∀ k < 10, 48 + k ∈ [48, 49, 50, 51, 52, 53, 54, 55, 56, 57, 58, 46, 44] by decide) (s - 48) (Nat.sub_lt_left_of_lt_add h1 (Nat.lt_succ_of_le h2))
    rwa [Nat.add_sub_cancel' h1] at this
  · decide
  · decide
  · decide
section
variable {e : E0} {c : Ac} {st : St} {X : XPost} {P : KP}
theorem c_sign4 (x : Int) (hroom : 1 ≤ c.room) (h : ∀ s, ¬ Ck s → P (.str (tx [s])) st) : EVN (gl e) c (callV (.ref 144)) [.int x] st P X := by
  refine fn (tabOk e) 20 144 0 [Str.ofString "x"] rfl rfl (fun vs h => by obtain ⟨a, rfl⟩ := len1 h; rfl) hroom (by rfl) fun A₀ outer g₀ L hA => ?_
  have fin : ∀ s : Nat, (Txt.contains (Str.ofString "0123456789:.,") (tx [s]) = true → P (.str (Str.ofString " ")) st) ∧ (Txt.contains (Str.ofString "0123456789:.,") (tx [s]) = false → P (.str (tx [s])) st) := fun s => by
    refine ⟨fun _ => ?_, fun q => h s fun z => ?_⟩
    · rw [s_blank]
      exact h 32 (by show ¬ (dg 32 ∨ 32 = 58 ∨ 32 = 46 ∨ 32 = 44); decide)
    · rw [cont_one, s_cks] at q
      exact of_decide_eq_false q (ck_in z)
  refine spl (fun q => ?_) fun q => spl (fun z => ?_) fun z => ?_
  · refine Classical.byContradiction fun hng => ?_
    obtain ⟨k, hk, k4⟩ : ∃ k : Nat, x / 2 % 8 = k ∧ k < 8 := ⟨(x / 2 % 8).toNat, by lia, by lia⟩
    refine hng ?_
    clear hng
    refine ⟨?_⟩
    rw [s_eight, hk]
    have hg := List.getElem?_eq_getElem (l := [45, 32, 84, 87, 47, 59, 95, 43]) k4
    exact ev_itemS (Int.natCast_nonneg _) (by rw [Int.toNat_natCast]; exact hg) (h _ (nck8 k k4 _ hg)) (by decide)
  · exact ⟨ev_chr (by lia) (by lia) (fin _)⟩
  · exact ⟨ev_chr (by lia) (by lia) (fin _)⟩
theorem c_clock4 (x : Int) (hh : c.A.handled = none) (hroom : 2 ≤ c.room)
    (h : ∀ l v y n w ls', TimeOk l v y n w true → ClkT l → l.length ≤ 100 → st.ls <+: ls' → P (.tup [.str (tx l), .lst ls'.length]) ⟨st.env, ls' ++ [v], st.tn⟩) :
    EVN (gl e) c (callV (.ref 149)) [.int x] st P X := by
  refine fn (tabOk e) 1 149 1 [Str.ofString "x"] rfl rfl (fun vs h => by obtain ⟨a, rfl⟩ := len1 h; rfl) hroom (by rfl) fun A₀ outer g₀ L hA => ?_
  have hA := hA.trans hh
  refine Classical.byContradiction fun hng => ?_
  obtain ⟨a, ha, a1⟩ : ∃ a : Nat, x / 3 % 100 = a ∧ a < 100 := ⟨(x / 3 % 100).toNat, by lia, by lia⟩
  obtain ⟨b, hb, b1⟩ : ∃ a : Nat, x / 300 % 100 = a ∧ a < 100 := ⟨(x / 300 % 100).toNat, by lia, by lia⟩
  obtain ⟨d, hd, d1⟩ : ∃ a : Nat, x / 30000 % 100 = a ∧ a < 100 := ⟨(x / 30000 % 100).toNat, by lia, by lia⟩
  refine hng ?_
  clear hng
  have E := fun {c X} => (gEB_ok (c := c) (X := X) (tabOk e) 10).1
  refine ⟨E _ _ _ ⟨as_cons (AW.mp (P := fun af st' => af = .next ∧ ∃ p ls1, (p = 2 ∨ p = 3) ∧ (¬ x % 3 = 0 → p = 3) ∧ st.ls <+: ls1 ∧ st' = ⟨[(Str.ofString "x", D.int x), (Str.ofString "parts", D.lst ls1.length)], ls1 ++ [parts a b d p], false⟩) ?iff ?rest)⟩⟩
  case iff =>
    rw [ha, hb, hd]
    refine as_if ((gEB_ok (tabOk e) 5).2 _ _ _ (spl (fun q => gS_ok (tabOk e) 8 _ _ _ ?_) fun q => gS_ok (tabOk e) 8 _ _ _ ?_))
    · exact ⟨sl_to (ds := [.int a, .int b, .int d]) get_last (by decide) (Nat.le_of_ble_eq_true rfl) ⟨rfl, 2, _, .inl rfl, fun z => absurd q z, List.prefix_append _ _, rfl⟩⟩
    · exact ⟨rfl, 3, _, .inr rfl, fun _ => rfl, List.prefix_refl _, rfl⟩
  case rest =>
    rintro _ _ hj2
    refine Classical.byContradiction fun hng => ?_
    obtain ⟨rfl, p, ls1, hp, hp3, hl1, rfl⟩ := hj2
    refine hng ?_
    clear hng
    have p1 : 1 ≤ p := by lia
    have p3 : p ≤ 3 := by lia
    have pl : (parts a b d p).length = p := by rcases hp with rfl | rfl <;> rfl
    refine as_cons (as_assign (ae_join rfl rfl rfl (E _ _ _ ⟨_, rfl, ?_⟩)) rfl rfl)
    refine ae_figs (k := ls1.length) (ds := parts a b d p) (fun d hd => mem_parts hd) hA rfl (by decide) (by decide) rfl (by decide) rfl (fun _ => rfl) get_last (by rw [pl]; lia) (Nat.le_refl 1) (fun _ => rfl) (E _ _ _ ⟨rfl, rfl⟩) (fun _ => rfl) ?_
    refine ev_joinP (sep := true) s_colon p1 p3 get_last ?_
    refine gS_ok (tabOk e) 15 _ _ _ ?_
    refine ⟨ev_len (ds := parts a b d p) (get_app (get_app get_last)) ?_ (by rw [pl]; lia)⟩
    rw [pl]
    refine ⟨ev_mulL get_last (by lia) (by lia) ⟨ev_addQ (ds := parts a b d p) (es := List.replicate ((4 : Int) - p).toNat (.int 0)) (get_app (get_app (get_app get_last))) get_last ?_ ?_⟩⟩
    · rw [show ((4 : Int) - p).toNat = 4 - p by lia, parts_due p1 p3]
      have hpre : ∀ {l1 l2 l3 l4 : List D}, st.ls <+: ls1 ++ [l1] ++ [l2] ++ [l3] ++ [l4] := fun {_ _ _ _} => hl1.trans (pre2.trans pre2)
      refine spl (fun q => ?_) fun q => ?_
      · obtain rfl := hp3 (by lia)
        refine Classical.byContradiction fun hng => ?_
        obtain ⟨sz, hs, s1, s9⟩ : ∃ s : Nat, x / 3000000 % 9 + 1 = s ∧ 1 ≤ s ∧ s ≤ 9 := ⟨(x / 3000000 % 9 + 1).toNat, by lia, by lia, by lia⟩
        obtain ⟨g1, g2⟩ := s_nine sz (by lia)
        have hpw : ∀ {Q : KP} {st' : St} {c' : Ac} {X' : XPost}, Q (.int ((10 ^ sz : Nat) : Int)) st' → A2 (gl e) c' (binaryOp .Pow) (.int 10) (.int sz) st' Q X' := fun q => ev_pow (Int.natCast_nonneg _) (Int.ofNat_le.mpr g1) (by rw [Int.toNat_natCast]; rw [show (10 : Int) ^ sz = ((10 ^ sz : Nat) : Int) from (Int.natCast_pow 10 sz).symm]; exact q)
        have pos : (0 : Int) < ((10 ^ sz : Nat) : Int) := Int.ofNat_lt.mpr (Nat.pow_pos (by decide))
        obtain ⟨rs, hr, r1⟩ : ∃ r : Nat, x / 27000000 % ((10 ^ sz : Nat) : Int) = r ∧ r < 10 ^ sz := ⟨(x / 27000000 % ((10 ^ sz : Nat) : Int)).toNat, (Int.toNat_of_nonneg (Int.emod_nonneg _ (Int.ne_of_gt pos))).symm, by have := Int.emod_lt_of_pos (x / 27000000) pos; have := Int.emod_nonneg (x / 27000000) (Int.ne_of_gt pos); lia⟩
        refine hng ?_
        clear hng
        refine gE_join (.int sz) ⟨dint hs, rfl⟩ ?_
        refine gE_join (.int rs) ⟨hpw (ifP pos ⟨dint hr, rfl⟩)⟩ ?_
        refine Classical.byContradiction fun hng => ?_
        obtain ⟨ch, hc, hdt⟩ : ∃ ch : Nat, ([46, 44] : List Nat)[((rs : Int) % 2).toNat]? = some ch ∧ (ch = 46 ∨ ch = 44) := by
          rcases Nat.mod_two_eq_zero_or_one rs with z | z
          · exact ⟨46, by rw [show ((rs : Int) % 2).toNat = 0 by lia]; rfl, .inl rfl⟩
          · exact ⟨44, by rw [show ((rs : Int) % 2).toNat = 1 by lia]; rfl, .inr rfl⟩
        refine hng ?_
        clear hng
        have jl := jt_len (sep := true) (a := a) (b := b) (c := d) (n := 3)
        refine ⟨?_⟩
        rw [s_dots']
        refine ev_itemS (by lia) hc ⟨c_fig rs sz s9 (Nat.le_refl 1) ⟨ev_addS ⟨ev_iaddS ⟨mulR (by decide) (by decide), ⟨hpw (ifP ⟨pos, Int.ofNat_lt.mpr (Nat.lt_of_le_of_lt (Nat.pow_le_pow_right (by decide) s9) (by decide))⟩ ?_)⟩⟩ ?_⟩ ?_⟩⟩ (by decide)
        · refine gSet_last (by decide) (by rw [cm_len]; decide) (by decide) rfl ?_
          have tf := time_frac (sep := true) a1 b1 d1 hdt s1 s9 r1
          rw [show ((rs * 10 ^ 6 / 10 ^ sz : Nat) : Int) = (rs : Int) * 1000000 / ((10 ^ sz : Nat) : Int) by rw [Int.natCast_ediv, Int.natCast_mul]; rfl] at tf
          refine h _ _ _ _ _ _ tf (clk_three (ck_cons (.inr (.inr hdt)) ck_fig)) ?_ hpre
          rw [List.length_append]
          show _ + (ch :: fig sz rs).length ≤ 100
          rw [List.length_cons, fig_len]
          lia
        · rw [List.length_append, List.length_singleton, fig_len]
          lia
        · rw [List.length_singleton, fig_len]
          lia
      · refine h _ _ _ _ _ _ (time_plain (sep := true) a1 b1 d1 p1 p3) ?_ (Nat.le_trans jt_len (by decide)) hpre
        rcases hp with rfl | rfl
        · exact clk_two a b d
        · have := clk_three (a := a) (b := b) (c := d) (t := []) (fun _ q => nomatch q)
          rwa [List.append_nil] at this
    · rw [List.length_replicate, pl]
      lia
end

theorem month_ex {y a : Int} (h1 : 1 ≤ a) : ∀ k : Nat, (k : Int) + 1 ≤ 12 → a ≤ dbm y ((k : Int) + 1) + dim y ((k : Int) + 1) → ∃ m d, Valid y m d ∧ dbm y m + d = a := by
  intro k
  induction k with
  | zero =>
    intro _ h
    refine ⟨1, a, ⟨by decide, by decide, h1, ?_⟩, ?_⟩
    · exact Int.le_trans h (Int.le_of_eq (Int.zero_add _))
    · exact Int.zero_add a
  | succ k ih =>
    intro hk h
    rcases Int.lt_or_le (dbm y ((k + 1 : Nat) + 1)) a with q | q
    · exact ⟨(k + 1 : Nat) + 1, a - dbm y ((k + 1 : Nat) + 1), ⟨by lia, hk, by lia, by lia⟩, by lia⟩
    · refine ih (by lia) ?_
      rw [← dbm_next (by lia) (by lia)]
      exact q
theorem srch {b : Int} (g : Nat → Int) (h0 : g 0 ≤ b) : ∀ k, b < g k → ∃ z, z < k ∧ g z ≤ b ∧ b < g (z + 1) := by
  intro k
  induction k with
  | zero => exact fun h => absurd (Int.lt_of_lt_of_le h h0) (Int.lt_irrefl _)
  | succ k ih =>
    intro h
    rcases Int.lt_or_le b (g k) with q | q
    · refine Classical.byContradiction fun hng => ?_
      obtain ⟨z, h1, h2⟩ := ih q
      refine hng ?_
      clear hng
      exact ⟨z, Nat.lt_succ_of_lt h1, h2⟩
    · exact ⟨k, Nat.lt_succ_self k, q, h⟩
theorem doy_of {n a b u l : Int} (hn : n - 1 = 146097 * a + b) (h1 : u ≤ b) (h2 : b < u + 365 + l) : 1 ≤ b - u + 1 ∧ b - u + 1 ≤ 365 + l ∧ 146097 * a + u + (b - u + 1) = n := by lia
theorem date_ex (n : Int) : ∃ y m d, Valid y m d ∧ ordn y m d = n := by
  refine Classical.byContradiction fun hng => ?_
  obtain ⟨z, _, z1, z2⟩ := srch (b := (n - 1) % 146097) (fun z => dby ((z + 1 : Nat) : Int)) (Int.emod_nonneg _ (by decide)) 400 (Int.emod_lt_of_pos _ (by decide))
  have hs := dby_succ ((z + 1 : Nat) : Int)
  have e0 := dby_per (a := (n - 1) / 146097) (w := ((z + 1 : Nat) : Int))
  have l0 := lpI_per (a := (n - 1) / 146097) (w := ((z + 1 : Nat) : Int))
  obtain ⟨h1, h2, h3⟩ := doy_of (n := n) (Int.mul_ediv_add_emod _ _).symm z1 (by rw [← hs]; exact z2)
  refine hng ?_
  clear hng
  rw [← e0] at h3
  rw [← l0] at h2
  generalize 400 * ((n - 1) / 146097) + ((z + 1 : Nat) : Int) = y at *
  have e1 : dbm y 12 + dim y 12 = 365 + lpI y := by
    show 334 + lpI y + (31 + 0) = _
    rw [Int.add_right_comm]
    rfl
  refine Classical.byContradiction fun hng => ?_
  obtain ⟨m, d, hv, hd⟩ := month_ex (y := y) h1 11 (by decide) (Int.le_trans h2 (Int.le_of_eq e1.symm))
  refine hng ?_
  clear hng
  exact ⟨y, m, d, hv, by unfold ordn; rw [Int.add_assoc, hd]; exact h3⟩
theorem year_in {y m d n : Int} (hv : Valid y m d) (hn : ordn y m d = n) (h1 : 1 ≤ n) (h2 : n ≤ 3652059) : 1 ≤ y ∧ y ≤ 9999 := by
  have r := valid_range hv
  unfold ordn at hn
  constructor
  · rcases Int.lt_or_le y 1 with q | q
    · have := dby_lt q
      have e : dby 1 = 0 := rfl
      lia
    · exact q
  · rcases Int.lt_or_le 9999 y with q | q
    · have := dby_mono 10000 (y - 10000).toNat
      rw [show (10000 : Int) + (y - 10000).toNat = y by lia, show dby 10000 = 3652059 from rfl] at this
      lia
    · exact q
theorem valid_md {y m d : Int} (hv : Valid y m d) : 0 ≤ m ∧ m < 100 ∧ 0 ≤ d ∧ d < 100 := by
  refine Classical.byContradiction fun hng => ?_
  obtain ⟨h1, h2, h3, h4⟩ := hv
  obtain ⟨k, e1, e2, k1, k2⟩ := m_nat h1 h2
  refine hng ?_
  clear hng
  have t := mtab k k1 k2
  have l := lpI_range y
  unfold dim td at h4
  rw [e2] at h4
  refine ⟨by lia, by lia, by lia, ?_⟩
  split at h4 <;> lia
/-- a day in whole numbers, its week besides -/
theorem day_ex {n : Int} (h1 : 1 ≤ n) (h2 : n ≤ 3652059) : ∃ y m d : Nat, Valid y m d ∧ ordn y m d = n ∧ y < 10000 ∧ m < 100 ∧ d < 100 := by
  refine Classical.byContradiction fun hng => ?_
  obtain ⟨y, m, d, hv, hn⟩ := date_ex n
  refine hng ?_
  clear hng
  have hy := year_in hv hn h1 h2
  have hm := valid_md hv
  refine ⟨y.toNat, m.toNat, d.toNat, ?_, ?_, by lia, by lia, by lia⟩
  · rw [show (y.toNat : Int) = y by lia, show (m.toNat : Int) = m by lia, show (d.toNat : Int) = d by lia]
    exact hv
  · rw [show (y.toNat : Int) = y by lia, show (m.toNat : Int) = m by lia, show (d.toNat : Int) = d by lia]
    exact hn
theorem wk0 {n a r : Int} (hn : n - 1 = 7 * a + r) (h0 : 0 ≤ r) (h7 : r < 7) : (n - 1) % 7 = r := by
  rw [hn, Int.add_comm, Int.add_mul_emod_self_left]
  exact Int.emod_eq_of_lt h0 h7
theorem wk1 {a b c : Int} (s1 : b + 1 ≤ 7 * c + 4) (s2 : 7 * c + 4 ≤ b + 7) : (7 * a + 4 - (b + 1)) / 7 = a - c := by
  rw [show 7 * a + 4 - (b + 1) = 7 * c + 4 - (b + 1) + 7 * (a - c) by lia, Int.add_mul_ediv_left _ _ (by decide), Int.ediv_eq_zero_of_lt (by lia) (by lia), Int.zero_add]
theorem wk2 {a b c l : Int} (s1 : b + 1 ≤ 7 * c + 4) (s2 : 7 * c + 4 ≤ b + 7) (h1 : b + 1 ≤ 7 * a + 4) (h2 : 7 * a + 4 ≤ b + (365 + l)) (hl : l ≤ 1) : 0 ≤ a - c ∧ a - c ≤ 52 ∧ (a - c = 52 → 7 * c + 4 ≤ b + 1 + l) := by lia
theorem wk3 {b c l : Int} (s1 : b + 1 ≤ 7 * c + 4) (h : 7 * c + 4 ≤ b + 1 + l) (hl : l ≤ 1) : (b + 1) % 7 = 4 ∨ ((b + 1) % 7 = 3 ∧ l = 1) := by lia
theorem week_ex {n : Int} (h1 : 1 ≤ n) (h2 : n ≤ 3652059) : ∃ (y w k : Nat) (m d : Int), Valid y m d ∧ ordn y m d = n - (n - 1) % 7 + 3 ∧ (n - (n - 1) % 7 + 3 - (dby y + 1)) / 7 + 1 = w ∧ (n - 1) % 7 + 1 = k ∧
    (1 ≤ y ∧ y ≤ 9999) ∧ WeekOk y w ∧ w < 100 ∧ (1 ≤ k ∧ k ≤ 7) ∧ n = w1 y + (((w : Int) - 1) * 7 + ((k : Int) - 1)) := by
  refine Classical.byContradiction fun hng => ?_
  obtain ⟨a, r, hn, r0, r7⟩ : ∃ a r : Int, n - 1 = 7 * a + r ∧ 0 ≤ r ∧ r < 7 := ⟨(n - 1) / 7, (n - 1) % 7, by lia, by lia, by lia⟩
  refine hng ?_
  clear hng
  have e3 : n - (n - 1) % 7 + 3 = 7 * a + 4 := by rw [wk0 hn r0 r7]; lia
  rw [e3, wk0 hn r0 r7]
  refine Classical.byContradiction fun hng => ?_
  obtain ⟨y, m, d, hv, ho⟩ := date_ex (7 * a + 4)
  have hy := year_in hv ho (by lia) (by lia)
  obtain ⟨r1, r2⟩ := valid_range hv
  obtain ⟨s0, s1, s2⟩ := w1_spec y
  obtain ⟨c, hc⟩ : ∃ c, w1 y = 7 * c + 1 := ⟨w1 y / 7, by lia⟩
  refine hng ?_
  clear hng
  rw [hc, Int.add_assoc] at s1 s2
  have hl := lpI_range y
  have hz : ((y.toNat : Nat) : Int) = y := Int.toNat_of_nonneg (Int.le_trans (by decide) hy.1)
  have ho' : dby y + (dbm y m + d) = 7 * a + 4 := by rw [← Int.add_assoc]; exact ho
  refine Classical.byContradiction fun hng => ?_
  obtain ⟨g1, g2, g3⟩ := wk2 s1 s2 (by rw [← ho']; exact Int.add_le_add_left r1 _) (by rw [← ho']; exact Int.add_le_add_left r2 _) hl.2
  refine hng ?_
  clear hng
  have hw : (((a - c + 1).toNat : Nat) : Int) = a - c + 1 := Int.toNat_of_nonneg (Int.le_trans g1 (Int.le_add_of_nonneg_right (by decide)))
  refine ⟨y.toNat, (a - c + 1).toNat, (r + 1).toNat, m, d, ?_⟩
  rw [hz, hw, Int.toNat_of_nonneg (show 0 ≤ r + 1 by lia), wk1 s1 s2, hc]
  refine ⟨hv, ho, rfl, rfl, ⟨by lia, by lia⟩, ?_, by lia, by lia, by lia⟩
  by_cases q : a - c = 52
  · rw [q]
    refine .inr ⟨rfl, (wk3 s1 (g3 q) hl.2).imp id fun z => ⟨z.1, ?_⟩⟩
    rcases lpI_cases y with w | w
    · exact w.1
    · rw [z.2] at w; exact absurd w.2 (by decide)
  · exact .inl ⟨by lia, by lia⟩

/-- how a day's text is parted from what follows -/
structure SepOk (bare : Prop) (l : List Nat) : Prop where
  sep : ∀ s t, (bare → ¬ dg s) → (dg s → run t % 2 = 0) → 2 ≤ run t → sepOf (l ++ s :: t) = l.length ∧ ((l ++ s :: t)[4]? = some 45 → (l ++ s :: t)[5]? = some 87 → 10 < (l ++ s :: t).length)
  run : ∀ s t, (bare → ¬ dg s) → run (l ++ s :: t) % 2 = 0
  len : 7 ≤ l.length ∧ l.length ≤ 10
theorem run_two {t : List Nat} (h : 2 ≤ run t) : 2 ≤ t.length ∧ dgo t[1]? = true := by
  have := run_le t
  refine Classical.byContradiction fun hng => ?_
  obtain ⟨c, e, hc⟩ := run_dg (show 1 < run t from h)
  refine hng ?_
  clear hng
  exact ⟨by lia, by rw [e]; exact decide_eq_true hc⟩
theorem nd45 : ¬ dg 45 := by decide
theorem nd87 : ¬ dg 87 := by decide
theorem dig_no {x k : Nat} (h : ¬ dg k) : ¬ some (48 + x % 10) = some k := fun q => h (by have := Option.some.inj q; unfold dg; lia)
theorem run_fig0 {k x : Nat} {c : Nat} {t : List Nat} (h : ¬ dg c) : run (fig k x ++ c :: t) = k := by rw [run_fig, run_stop h]; rfl
theorem sepA {x : List Nat} (h4 : x[4]? = some 45) (h5 : ¬ x[5]? = some 87) : sepOf x = 10 := by unfold sepOf; rw [if_pos h4, if_neg h5]
theorem sepB {x : List Nat} (h4 : x[4]? = some 45) (h5 : x[5]? = some 87) (h8 : x[8]? = some 45) (h10 : ¬ dgo x[10]? = true) : sepOf x = 10 := by unfold sepOf; rw [if_pos h4, if_pos h5, if_pos h8, if_neg h10]
theorem sepC {x : List Nat} (h4 : x[4]? = some 45) (h5 : x[5]? = some 87) (h10 : dgo x[10]? = true) : sepOf x = 8 := by
  unfold sepOf
  rw [if_pos h4, if_pos h5, if_pos h10]
  by_cases q : x[8]? = some 45
  · rw [if_pos q]
  · rw [if_neg q]
theorem sepD {x : List Nat} (h4 : ¬ x[4]? = some 45) (h5 : ¬ x[4]? = some 87) : sepOf x = 8 := by unfold sepOf; rw [if_neg h4, if_neg h5]
theorem sepE {x r : List Nat} (h4 : x[4]? = some 87) (h7 : x.drop 7 = r) : sepOf x = if 7 + run r < 9 then ((7 + run r : Nat) : Int) else if (7 + run r) % 2 = 0 then 7 else 8 := by
  subst h7
  unfold sepOf
  rw [if_neg (by rw [h4]; decide), if_pos h4]
theorem sep0 (y m d : Nat) : SepOk False (fig 4 y ++ 45 :: (fig 2 m ++ 45 :: fig 2 d)) where
  sep s t _ _ _ := by
    exact ⟨sepA rfl (dig_no nd87), fun _ q => absurd q (dig_no nd87)⟩
  run s t _ := by
    rw [List.append_assoc, List.cons_append, run_fig0 nd45]
  len := ⟨Nat.le_of_ble_eq_true rfl, Nat.le_of_ble_eq_true rfl⟩
theorem sep1 (y m d : Nat) : SepOk True (fig 4 y ++ (fig 2 m ++ fig 2 d)) where
  sep s t _ _ _ := by
    exact ⟨sepD (dig_no nd45) (dig_no nd87), fun q => absurd q (dig_no nd45)⟩
  run s t hs := by
    rw [List.append_assoc, run_fig, List.append_assoc, run_fig, run_fig0 (hs trivial)]
  len := ⟨Nat.le_of_ble_eq_true rfl, Nat.le_of_ble_eq_true rfl⟩
theorem sep2 (y w k : Nat) : SepOk True (fig 4 y ++ 45 :: 87 :: (fig 2 w ++ 45 :: fig 1 k)) where
  sep s t hs _ h2 := by
    have := (run_two h2).1
    refine ⟨?_, fun _ _ => ?_⟩
    · exact sepB rfl rfl rfl (show ¬ dgo (some s) = true by rw [show dgo (some s) = decide (dg s) from rfl, decide_eq_true_eq]; exact hs trivial)
    · rw [List.length_append, List.length_cons]
      show 10 < 10 + (t.length + 1)
      lia
  run s t hs := by
    rw [List.append_assoc, List.cons_append, run_fig0 nd45]
  len := ⟨Nat.le_of_ble_eq_true rfl, Nat.le_of_ble_eq_true rfl⟩
theorem sep3 (y w k : Nat) : SepOk False (fig 4 y ++ 87 :: (fig 2 w ++ fig 1 k)) where
  sep s t _ ht h2 := by
    have hd : dg (48 + k % 10) := by unfold dg; lia
    refine ⟨?_, fun q => absurd q (by show ¬ some 87 = some 45; decide)⟩
    rw [sepE (r := (48 + k % 10) :: s :: t) rfl rfl, run_cons hd]
    by_cases q : dg s
    · have := ht q
      rw [run_cons q, if_neg (by lia), if_neg (by lia)]
      rfl
    · rw [run_stop q]
      rfl
  run s t hs := by
    rw [List.append_assoc, List.cons_append, run_fig0 nd87]
  len := ⟨Nat.le_of_ble_eq_true rfl, Nat.le_of_ble_eq_true rfl⟩
theorem sep4 (y w : Nat) : SepOk False (fig 4 y ++ 45 :: 87 :: fig 2 w) where
  sep s t hs _ h2 := by
    obtain ⟨h3, h4⟩ := run_two h2
    refine ⟨?_, fun _ _ => ?_⟩
    · exact sepC rfl rfl h4
    · rw [List.length_append, List.length_cons]
      show 10 < 8 + (t.length + 1)
      lia
  run s t hs := by
    rw [List.append_assoc, List.cons_append, run_fig0 nd45]
  len := ⟨Nat.le_of_ble_eq_true rfl, Nat.le_of_ble_eq_true rfl⟩
theorem sep5 (y w : Nat) : SepOk False (fig 4 y ++ 87 :: fig 2 w) where
  sep s t _ ht h2 := by
    refine ⟨?_, fun q => absurd q (by show ¬ some 87 = some 45; decide)⟩
    rw [sepE (r := s :: t) rfl rfl]
    by_cases q : dg s
    · have := ht q
      rw [run_cons q, if_neg (by lia), if_pos (by lia)]
      rfl
    · rw [run_stop q]
      rfl
  run s t hs := by
    rw [List.append_assoc, List.cons_append, run_fig0 nd87]
  len := ⟨Nat.le_of_ble_eq_true rfl, Nat.le_of_ble_eq_true rfl⟩
/-- a day's text: what _parse_isoformat_date makes of it -/
def PdOk (e : E0) (l : List Nat) (y m d : Int) : Prop := ∀ (c : Ac) (st : St) (X : XPost) (P : KP), c.A.handled = none → 6 ≤ c.room → P (.lst st.ls.length) ⟨st.env, st.ls ++ [[.int y, .int m, .int d]], st.tn⟩ → EVN (gl e) c (callV (.ref 87)) [.str (tx l)] st P X
structure DayOk (e : E0) (bare : Prop) (n : Int) (l : List Nat) (y m d : Int) : Prop where
  pd : PdOk e l y m d
  val : Valid y m d
  ord : ordn y m d = n
  sep : SepOk bare l
theorem SepOk.weak {A B : Prop} {l : List Nat} (h : SepOk A l) (hab : A → B) : SepOk B l := ⟨fun s t hs => h.sep s t fun a => hs (hab a), fun s t hs => h.run s t fun a => hs (hab a), h.len⟩
section
variable {e : E0} {c : Ac} {st : St} {X : XPost} {P : KP}
theorem c_day (way n : Int) (w0 : 0 ≤ way) (w5 : way ≤ 5) (n1 : 1 ≤ n) (n2 : n ≤ 3652059) (hm : 3 < way → (n - 1) % 7 = 0) (hh : c.A.handled = none) (hroom : 3 ≤ c.room)
    (h : ∀ l y m d ls', DayOk e (way = 1 ∨ way = 2) n l y m d → st.ls <+: ls' → P (.str (tx l)) ⟨st.env, ls', st.tn⟩) : EVN (gl e) c (callV (.ref 137)) [.int way, .int n] st P X := by
  refine Classical.byContradiction fun hng => ?_
  obtain ⟨y, m, d, hv, hn, hy, hmm, hd⟩ := day_ex n1 n2
  refine hng ?_
  clear hng
  rcases Int.lt_or_le way 2 with q | q
  · refine c_dayD way y m d n q hv hn hh (Nat.le_of_succ_le hroom) fun ls' hl => h _ y m d ls' ?_ hl
    obtain rfl | rfl : way = 0 ∨ way = 1 := by lia
    · exact ⟨fun c st X P _ hr hp => c_pd0 y m d hy hmm hd (Nat.le_trans (by decide) hr) hp, hv, hn, (sep0 y m d).weak False.elim⟩
    · exact ⟨fun c st X P _ hr hp => c_pd1 y m d hy hmm hd (Nat.le_trans (by decide) hr) hp, hv, hn, (sep1 y m d).weak fun _ => .inl rfl⟩
  · refine Classical.byContradiction fun hng => ?_
    obtain ⟨Y, w, k, M, D', hV, hN, ew, ek, hY, hw, hw', hk, hz⟩ := week_ex n1 n2
    refine hng ?_
    clear hng
    refine c_dayW way Y w k M D' n q hV hN ew ek (by lia) hh hroom (fun q3 ls' hl => h _ y m d ls' ?_ hl) (fun q3 ls' hl => h _ y m d ls' ?_ hl)
    · obtain rfl | rfl : way = 2 ∨ way = 3 := by lia
      · exact ⟨fun c st X P hh hr hp => c_pd2 Y w k y m d hY hw hw' hk hv (hn.trans hz) hh hr hp, hv, hn, (sep2 Y w k).weak fun _ => .inr rfl⟩
      · exact ⟨fun c st X P hh hr hp => c_pd3 Y w k y m d hY hw hw' hk hv (hn.trans hz) hh hr hp, hv, hn, (sep3 Y w k).weak False.elim⟩
    · have k1 : k = 1 := by have := hm q3; lia
      subst k1
      obtain rfl | rfl : way = 4 ∨ way = 5 := by lia
      · exact ⟨fun c st X P hh hr hp => c_pd4 Y w y m d hY hw hw' hv (hn.trans hz) hh hr hp, hv, hn, (sep4 Y w).weak False.elim⟩
      · exact ⟨fun c st X P hh hr hp => c_pd5 Y w y m d hY hw hw' hv (hn.trans hz) hh hr hp, hv, hn, (sep5 Y w).weak False.elim⟩
end

/-! locals, known in part -/
def Has (env E : List (Str × D)) : Prop := ∀ x d, E.lookup x = some d → env.lookup x = some d
theorem setE_self {x : Str} {d : D} : ∀ {env : List (Str × D)}, (setE x d env).lookup x = some d := by
  intro env
  induction env with
  | nil => rw [setE, List.lookup_cons, beq_self_eq_true]
  | cons p r ih =>
    obtain ⟨z, e⟩ := p
    rw [setE]
    by_cases hz : x = z
    · subst hz
      rw [beq_self_eq_true]
      show List.lookup x ((x, d) :: r) = some d
      rw [List.lookup_cons, beq_self_eq_true]
    · rw [beq_false_of_ne hz]
      show List.lookup x ((z, e) :: setE x d r) = some d
      rw [List.lookup_cons, beq_false_of_ne hz]
      exact ih
theorem setE_other {x y : Str} {d : D} (hy : y ≠ x) : ∀ {env : List (Str × D)}, (setE x d env).lookup y = env.lookup y := by
  intro env
  induction env with
  | nil => rw [setE, List.lookup_cons, beq_false_of_ne hy]
  | cons p r ih =>
    obtain ⟨z, e⟩ := p
    rw [setE]
    by_cases hz : x = z
    · subst hz
      rw [beq_self_eq_true]
      show List.lookup y ((x, d) :: r) = _
      rw [List.lookup_cons, List.lookup_cons, beq_false_of_ne hy]
    · rw [beq_false_of_ne hz]
      show List.lookup y ((z, e) :: setE x d r) = _
      rw [List.lookup_cons, List.lookup_cons, ih]
theorem Has.set {env E : List (Str × D)} {x : Str} {d : D} (h : Has env E) : Has (setE x d env) (setE x d E) := by
  intro y d' q
  rcases setE_lookup q with ⟨rfl, rfl⟩ | ⟨h1, h2⟩
  · exact setE_self
  · rw [setE_other h1]
    exact h y d' h2
theorem Has.app {E F : List (Str × D)} : Has (E ++ F) E := by
  intro x d h
  induction E with
  | nil => cases h
  | cons p r ih =>
    rw [List.cons_append]
    rw [List.lookup_cons] at h ⊢
    by_cases q : x = p.1
    · rw [beq_iff_eq.mpr q] at h ⊢
      exact h
    · rw [beq_false_of_ne q] at h ⊢
      exact ih h
theorem Has.nil {env : List (Str × D)} : Has env [] := fun _ _ h => nomatch h
theorem Has.cons {env E : List (Str × D)} {x : Str} {d : D} (h1 : env.lookup x = some d) (h : Has env E) : Has env ((x, d) :: E) := by
  intro y e q
  rw [List.lookup_cons] at q
  by_cases z : y = x
  · subst z
    rw [beq_self_eq_true] at q
    exact h1.trans q
  · rw [beq_false_of_ne z] at q
    exact h y e q
theorem cm_ints (x : Nat → Nat) (i : Nat) : ∃ ns : List Int, cm x i = ns.map D.int := by
  match i with
  | 0 => exact ⟨[0, 0, 0, 0], rfl⟩
  | 1 => exact ⟨[x 0, 0, 0, 0], rfl⟩
  | 2 => exact ⟨[x 0, x 1, 0, 0], rfl⟩
  | _ + 3 => exact ⟨[x 0, x 1, x 2, 0], rfl⟩
theorem TimeOk.ints {l : List Nat} {v : List D} {x : Nat → Nat} {n w : Nat} {sep : Bool} (h : TimeOk l v x n w sep) : ∃ ns : List Int, v = ns.map D.int := by
  rcases h.what with ⟨_, rfl⟩ | ⟨_, ch, sz, rs, T⟩
  · exact cm_ints x n
  · exact ⟨[x 0, x 1, x 2, _], T.v3⟩
theorem pre_get {α : Type} {l r : List α} (h : l <+: r) {k : Nat} {x : α} (hx : l[k]? = some x) : r[k]? = some x := by
  obtain ⟨t, rfl⟩ := h
  exact get_app hx
theorem set_get {α : Type} {l : List α} {i k : Nat} {x y : α} (hi : k ≠ i) (h : l[k]? = some x) : (l.set i y)[k]? = some x := by
  rw [List.getElem?_set_ne (Ne.symm hi)]
  exact h
theorem set_here {α : Type} {l : List α} {i : Nat} {y : α} (h : i < l.length) : (l.set i y)[i]? = some y := List.getElem?_set_self h
theorem Al2.length {α β : Type} {R : α → β → Prop} : ∀ {l : List α} {r : List β}, Al2 R l r → l.length = r.length := by
  intro l
  induction l with
  | nil => rintro _ rfl; rfl
  | cons a l ih =>
    rintro _ hj1
    refine Classical.byContradiction fun hng => ?_
    obtain ⟨p, r, rfl, _, h⟩ := hj1
    refine hng ?_
    clear hng
    exact congrArg (· + 1) (ih h)
theorem ns_at {ns : List Int} {k : Nat} (h : k < ns.length + 3) : ∃ x, ((ns ++ [0, 0, 0]).map D.int)[k]? = some (.int x) := by
  have : k < (ns ++ [0, 0, 0]).length := by rw [List.length_append]; exact h
  exact ⟨_, getD_at this⟩
/-! the diary -/
def tl (s : Nat) : List (List Nat) → List Nat
  | [] => []
  | y :: r => s :: (y ++ tl s r)
/-- texts, glued by one sign -/
def glue (s : Nat) : List (List Nat) → List Nat
  | [] => []
  | x :: r => x ++ tl s r
theorem tl_app (s : Nat) (b : List (List Nat)) : ∀ a, tl s (a ++ b) = tl s a ++ tl s b := by
  intro a
  induction a with
  | nil => rfl
  | cons x r ih => show s :: (x ++ tl s (r ++ b)) = s :: (x ++ tl s r) ++ tl s b; rw [ih, List.cons_append, List.append_assoc]
theorem tl_glue (s : Nat) : ∀ r : List (List Nat), (tl s r).drop 1 = glue s r := by
  intro r
  cases r with
  | nil => rfl
  | cons x r => rfl
theorem fold_tl (s : Nat) : ∀ (r : List (List Nat)) (a : List Nat), (r.map tx).foldl (fun acc p => acc ++ (tx [s]).cps ++ p.cps) a.toArray = (a ++ tl s r).toArray := by
  intro r
  induction r with
  | nil => intro a; rw [show tl s [] = [] from rfl, List.append_nil]; rfl
  | cons y r ih =>
    intro a
    show (r.map tx).foldl _ (a.toArray ++ [s].toArray ++ y.toArray) = _
    rw [List.append_toArray, List.append_toArray, ih, List.append_assoc, List.append_assoc]
    rfl
theorem join_glue (s : Nat) (ys : List (List Nat)) : Txt.join (tx [s]) (ys.map tx) = tx (glue s ys) := by
  cases ys with
  | nil => rfl
  | cons x r => exact congrArg Str.mk (fold_tl s r x)
/-- one time of the diary: whether a day stands ahead, its text, the clock's text, what they say -/
structure Ent where
  has : Bool
  l : List Nat
  k : List Nat
  y : Int
  m : Int
  d : Int
  v : List Int
structure EntOk (e : E0) (r : Ent) : Prop where
  pd : r.has = true → PdOk e r.l r.y r.m r.d ∧ SepOk True r.l
  time : ∃ x n w, TimeOk r.k (r.v.map D.int) x n w true
  clk : ClkT r.k
  len : r.l.length ≤ 10 ∧ r.k.length ≤ 100
def Ent.ps (r : Ent) : List (List Nat) := match r.has with
  | true => [r.l, r.k]
  | false => [r.k]
def Ent.pd (r : Ent) : PyData := .list [.list [.int r.y, .int r.m, .int r.d], .list (r.v.map PyData.int)]
def psOf : List Ent → List (List Nat)
  | [] => []
  | r :: rs => r.ps ++ psOf rs
theorem ps_snoc (r : Ent) : ∀ rs, psOf (rs ++ [r]) = psOf rs ++ r.ps := by
  intro rs
  induction rs with
  | nil => exact List.append_nil _
  | cons a rs ih => show a.ps ++ psOf (rs ++ [r]) = a.ps ++ psOf rs ++ r.ps; rw [ih, List.append_assoc]
theorem ps_len {e : E0} {s : Nat} : ∀ {rs : List Ent}, (∀ r ∈ rs, EntOk e r) → (tl s (psOf rs)).length ≤ 112 * rs.length ∧ (psOf rs).length ≤ 2 * rs.length := by
  intro rs
  induction rs with
  | nil => exact fun _ => ⟨Nat.le_refl 0, Nat.le_refl 0⟩
  | cons r rs ih =>
    intro h
    have h1 := (h r (.head _)).len
    have h2 := ih fun r hr => h r (.tail _ hr)
    have h3 : (tl s r.ps).length ≤ 112 ∧ r.ps.length ≤ 2 := by
      unfold Ent.ps
      cases r.has with
      | true =>
        show (s :: (r.l ++ s :: (r.k ++ []))).length ≤ 112 ∧ 2 ≤ 2
        rw [List.length_cons, List.length_append, List.length_cons, List.append_nil]
        lia
      | false =>
        show (s :: (r.k ++ [])).length ≤ 112 ∧ 1 ≤ 2
        rw [List.length_cons, List.append_nil]
        lia
    show (tl s (r.ps ++ psOf rs)).length ≤ _ ∧ (r.ps ++ psOf rs).length ≤ _
    rw [tl_app, List.length_append, List.length_append, List.length_cons]
    lia
def lastD : Option (Int × Int × Int) → List Ent → Option (Int × Int × Int)
  | p, [] => p
  | _, r :: rs => lastD (some (r.y, r.m, r.d)) rs
def Chain : Option (Int × Int × Int) → List Ent → Prop
  | _, [] => True
  | p, r :: rs => (r.has = false → p = some (r.y, r.m, r.d)) ∧ Chain (some (r.y, r.m, r.d)) rs
theorem lastD_snoc (r : Ent) : ∀ (rs : List Ent) (p : Option (Int × Int × Int)), lastD p (rs ++ [r]) = some (r.y, r.m, r.d) := by
  intro rs
  induction rs with
  | nil => exact fun _ => rfl
  | cons a rs ih => exact fun _ => ih _
theorem Chain.snoc {r : Ent} : ∀ {rs : List Ent} {p : Option (Int × Int × Int)}, Chain p rs → (r.has = false → lastD p rs = some (r.y, r.m, r.d)) → Chain p (rs ++ [r]) := by
  intro rs
  induction rs with
  | nil => exact fun _ h => ⟨h, trivial⟩
  | cons a rs ih => exact fun h1 h2 => ⟨h1.1, ih h1.2 h2⟩
theorem lastD_some : ∀ {rs : List Ent} {p : Option (Int × Int × Int)}, rs ≠ [] → ∃ q, lastD p rs = some q := by
  intro rs
  induction rs with
  | nil => exact fun h => absurd rfl h
  | cons a rs ih =>
    intro p _
    cases rs with
    | nil => exact ⟨_, rfl⟩
    | cons b rs => exact ih (p := some (a.y, a.m, a.d)) (by intro z; cases z)
theorem dp_row4 {S : Nat → Prop} {ls : List (List D)} {i a b : Nat} {y m d : Int} {v : List Int} (si : S i) (sa : S a) (sb : S b) (hi : ls[i]? = some [.lst a, .lst b]) (ha : ls[a]? = some [.int y, .int m, .int d]) (hb : ls[b]? = some (v.map D.int)) :
    Dp S ls 2 (.lst i) (.list [.list [.int y, .int m, .int d], .list (v.map PyData.int)]) :=
  .inr ⟨i, _, _, rfl, rfl, si, hi, _, _, rfl, .inr ⟨a, _, _, rfl, rfl, sa, ha, dp_ints [y, m, d]⟩, _, _, rfl, .inr ⟨b, _, _, rfl, rfl, sb, hb, dp_ints v⟩, rfl⟩

theorem seen_ok {a b c : Nat} (ha : a < 10) (hb : b < 10) (hc : c < 10) : (numSeenOf (tx [48 + a, 48 + b, 58, 48 + c])).length ≤ 640 ∧ (reprText (tx [48 + a, 48 + b, 58, 48 + c])).length ≤ 100 :=
  (show ∀ a < 10, ∀ b < 10, ∀ c < 10, (numSeenOf (tx [48 + a, 48 + b, 58, 48 + c])).length ≤ 640 ∧ (reprText (tx [48 + a, 48 + b, 58, 48 + c])).length ≤ 100 by decide +kernel) a ha b hb c hc
section
variable {e : E0} {c : Ac} {st : St} {X : XPost} {P : KP}
/-- one statement, by what its text asks -/
theorem cs_step (n : Nat) {P : KF} {a : Stmt} {r : List Stmt} (h : gSs (gl e) c X (gE (gl e) c X tab n) (gB (gl e) c X tab n) (gS (gl e) c X tab n) a (sv a) st (seqK (fun st₁ => CS (gl e) c (execs r c.env) st₁ P X) P)) : CS (gl e) c (execs (a :: r) c.env) st P X :=
  cs_cons (CW.of (gSs_ok (gEB_ok (tabOk e) n).1 (gEB_ok (tabOk e) n).2 (gS_ok (tabOk e) n) (sv a) st _ h))
/-- a text that is too short: _find_.. fails its assertion -/
theorem c_find5 (l : List Nat) (h5 : l.length = 5) (hh : c.A.handled = none) (hroom : 1 ≤ c.room) (hX : X "AssertionError" true st) : EVN (gl e) c (callV (.ref 80)) [.str (tx l)] st P X := by
  refine fn (tabOk e) 2 80 0 [Str.ofString "dtstr"] rfl rfl (fun vs h => by obtain ⟨a, rfl⟩ := len1 h; rfl) hroom (by rfl) fun A₀ outer g₀ L hA => ?_
  have hz : l.length ≤ 16384 := by rw [h5]; decide
  refine ⟨(gEB_ok (tabOk e) 5).1 _ _ _ ⟨ev_lenS ?_ hz⟩⟩
  rw [h5]
  exact ⟨(gEB_ok (tabOk e) 5).2 _ _ _ (splF ⟨as_nil ⟨as_cons (as_assertF (hA.trans hh) ((gEB_ok (tabOk e) 5).2 _ _ _ ⟨rfl, rfl, hX⟩))⟩⟩)⟩
/-- a clock is no day: _parse_isoformat_date refuses it -/
theorem c_pdbad (l : List Nat) (a b d : Nat) (ha : a < 10) (hb : b < 10) (hd : d < 10) (h8 : l.length = 8) (h4 : l.take 4 = [48 + a, 48 + b, 58, 48 + d]) (hh : c.A.handled = none) (hroom : 1 ≤ c.room) (hX : X "ValueError" true st) : CN (gl e) c (callV (.ref 87)) [.str (tx l)] st P X := by
  have hz : l.length ≤ 16384 := by rw [h8]; decide
  refine cn_def (f := 87) (r := 0) (xs := [Str.ofString "dtstr"]) rfl rfl (fun vs h => by obtain ⟨a, rfl⟩ := len1 h; rfl) rfl (by decide) (by decide) hroom ⟨rfl, rfl, rfl⟩ (by decide) fun A₀ outer g₀ L hA => ?_
  refine cs_step 10 ⟨ev_lenS ?_ hz⟩
  rw [h8]
  refine ⟨ev_notin (ns := [7, 8, 10]) (in_tri (.inr (.inl rfl))) (splF ?_)⟩
  have gI := tabOk e _ (lookup_mem (T := tab) (x := Str.ofString "int") (g := .typ "int") rfl)
  refine cs_cons (cs_assign (ce_callT gI.1 gI.2.1 (al_cons ((gEB_ok (tabOk e) 8).1 _ _ _ ⟨sl_s (by decide) (by decide) hz (al_nil ?_)⟩) rfl) gI.2.2 rfl rfl rfl rfl) rfl rfl)
  have e4 : (l.drop (0 : Int).toNat).take ((4 : Int).toNat - (0 : Int).toNat) = [48 + a, 48 + b, 58, 48 + d] := h4
  rw [e4]
  exact cn_intbad (hA.trans hh) (seen_ok ha hb hd).1 (no_int a ha b hb d hd) (Nat.le_trans (seen_ok ha hb hd).2 (Nat.le_of_ble_eq_true rfl)) ⟨rfl, hX⟩
end

theorem sub_ab : isSubtype (.type "AssertionError") (.type "BaseException") = pure true := by rw [isSubtype_type]; kernel_rfl
theorem sub_at : isSubtype (.type ((Manifest.find? "AssertionError").elim "type" fun y => y.metatype)) (.type "tuple") = pure false := by rw [isSubtype_type]; kernel_rfl
theorem sub_aa : isSubtype (.type "AssertionError") (.type "AssertionError") = pure true := by rw [isSubtype_type]; kernel_rfl
theorem sub_vb : isSubtype (.type "ValueError") (.type "BaseException") = pure true := by rw [isSubtype_type]; kernel_rfl
theorem sub_vt : isSubtype (.type ((Manifest.find? "ValueError").elim "type" fun y => y.metatype)) (.type "tuple") = pure false := by rw [isSubtype_type]; kernel_rfl
theorem sub_vv : isSubtype (.type "ValueError") (.type "ValueError") = pure true := by rw [isSubtype_type]; kernel_rfl
theorem sub_va : isSubtype (.type "ValueError") (.type "AssertionError") = pure false := by rw [isSubtype_type]; kernel_rfl
theorem CW.mp {α β : Type} {R : Heap → Wd → α → β → Prop} {G : Gl} {c : Ac} {st : St} {X : XPost} {t : Sem α} {P P' : β → St → Prop} (h : CW R G c t st P X) (hP : ∀ b st', P b st' → P' b st') : CW R G c t st P' X :=
  fun W s h₀ m hr => wpC_mono (h W s h₀ m hr) (fun _ _ q => q.mp hP) fun _ _ x => x
theorem end_ls4 {ls ls2 : List (List D)} (hp : ls <+: ls2) (h5 : 5 < ls.length) (v P' row dd' : List D) :
    (∀ k ds, k ≠ 3 → k ≠ 5 → ls[k]? = some ds → (((ls2 ++ [v]).set 3 P' ++ [row]).set 5 dd')[k]? = some ds) ∧ (((ls2 ++ [v]).set 3 P' ++ [row]).set 5 dd')[3]? = some P' ∧ (((ls2 ++ [v]).set 3 P' ++ [row]).set 5 dd')[5]? = some dd' ∧
    (((ls2 ++ [v]).set 3 P' ++ [row]).set 5 dd')[ls2.length]? = some v ∧ (((ls2 ++ [v]).set 3 P' ++ [row]).set 5 dd')[((ls2 ++ [v]).set 3 P').length]? = some row ∧ 5 < ls2.length ∧ 5 < ((ls2 ++ [v]).set 3 P').length := by
  have l2 := Nat.lt_of_lt_of_le h5 hp.length_le
  have l3 : 3 < ls2.length := Nat.lt_of_succ_lt (Nat.lt_of_succ_lt l2)
  have e1 : ((ls2 ++ [v]).set 3 P').length = ls2.length + 1 := by rw [List.length_set, List.length_append]; rfl
  have e2 : ((ls2 ++ [v]).set 3 P' ++ [row]).length = ls2.length + 2 := by rw [List.length_append, e1]; rfl
  refine ⟨fun k ds k3 k5 h => set_get k5 (get_app (set_get k3 (get_app (pre_get hp h)))), set_get (by decide) (get_app (set_here ?_)), set_here ?_, set_get ?_ (get_app (set_get ?_ get_last)), set_get ?_ get_last, l2, ?_⟩
  · rw [List.length_append]; exact Nat.lt_add_right 1 l3
  · rw [e2]; exact Nat.lt_add_right 2 l2
  · exact Nat.ne_of_gt l2
  · exact Nat.ne_of_gt l3
  · rw [e1]; exact Nat.ne_of_gt (Nat.lt_add_right 1 l2)
  · rw [e1]; exact Nat.lt_add_right 1 l2
noncomputable abbrev lE (s kd : Nat) : List (Str × D) := [(Str.ofString "script", .lst 0), (Str.ofString "numbers", .lst 2), (Str.ofString "sign", .str (tx [s])), (Str.ofString "parts", .lst 3), (Str.ofString "date", .lst kd), (Str.ofString "due", .lst 5)]
def ptD (ps : List (List Nat)) : List D := (ps.map tx).map D.str
/-- ahead of a turn of the first loop -/
structure D1 (e : E0) (ns : List Int) (s i : Nat) (st : St) (es : List Ent) (dd : List D) (kd : Nat) : Prop where
  n : es.length = i
  ok : ∀ r ∈ es, EntOk e r
  chain : Chain none es
  env : Has st.env (lE s kd)
  tn : st.tn = false
  l2 : st.ls[2]? = some ((ns ++ [0, 0, 0]).map D.int)
  l3 : st.ls[3]? = some (ptD (psOf es))
  l5 : st.ls[5]? = some dd
  rows : Al2 (Dp (5 < ·) st.ls 2) dd (es.map Ent.pd)
  dt : ∀ y m d, lastD none es = some (y, m, d) → 5 < kd ∧ st.ls[kd]? = some [.int y, .int m, .int d]
/-- behind the day of a turn, if there is one -/
structure Md (e : E0) (s : Nat) (ls : List (List D)) (es : List Ent) (kq : Int) (b : Bool) (l : List Nat) (y m d : Int) (kd : Nat) (st : St) : Prop where
  env : Has st.env (lE s kd ++ [(Str.ofString "k", D.int kq)])
  tn : st.tn = false
  pd : b = true → PdOk e l y m d ∧ SepOk True l
  len : l.length ≤ 10
  lst : b = false → lastD none es = some (y, m, d)
  kd : 5 < kd ∧ st.ls[kd]? = some [.int y, .int m, .int d]
  l3 : st.ls[3]? = some (ptD (psOf es ++ if b = true then [l] else []))
  keep : ∀ j ds, j ≠ 3 → ls[j]? = some ds → st.ls[j]? = some ds
theorem fits {i : Int} (h1 : 0 ≤ i) (h2 : i ≤ 1000) : Builtin.Range.rangeFitsLong i = true := by
  unfold Builtin.Range.rangeFitsLong
  rw [decide_eq_true (by lia), decide_eq_true (by lia)]
  rfl
theorem rsize {b : Int} (h : 0 ≤ b) : Builtin.Range.rangeSize 1 (b + 2) 2 = b / 2 + 1 := by
  unfold Builtin.Range.rangeSize
  rw [if_pos (by decide), if_pos (by lia)]
  lia
theorem rsmall {b : Int} (h : 0 ≤ b) (h2 : b ≤ 100) : Builtin.Range.small 1 (b + 2) 2 = true := by
  unfold Builtin.Range.small
  rw [rsize h, fits (by decide) (by decide), fits (by lia) (by lia), fits (by decide) (by decide), fits (by lia) (by lia), if_pos (by decide), fits (by lia) (by lia), Bool.or_true]
  rfl
theorem ptD_app (a b : List (List Nat)) : ptD (a ++ b) = ptD a ++ ptD b := by
  unfold ptD
  rw [List.map_append, List.map_append]
theorem ps_sum (s : Nat) : ∀ ps : List (List Nat), ((ps.map tx).map (·.length)).sum + ps.length = (tl s ps).length := by
  intro ps
  induction ps with
  | nil => rfl
  | cons y r ih =>
    show ((tx y).length + ((r.map tx).map (·.length)).sum) + (r.length + 1) = (s :: (y ++ tl s r)).length
    rw [tx_len, List.length_cons, List.length_append, ← ih]
    lia
noncomputable abbrev lF (s : Nat) (left : List Nat) (kd t : Nat) : List (Str × D) := [(Str.ofString "sign", .str (tx [s])), (Str.ofString "due", .lst 5), (Str.ofString "left", .str (tx left)), (Str.ofString "date", .lst kd), (Str.ofString "told", .lst t)]
/-- ahead of a turn of the second loop -/
structure D2 (s : Nat) (es : List Ent) (dd : List D) (t i : Nat) (st : St) (tt : List D) (kd : Nat) (p : Option (Int × Int × Int)) : Prop where
  env : Has st.env (lF s (glue s (psOf (es.drop i))) kd t)
  l5 : st.ls[5]? = some dd
  rows : Al2 (Dp (fun k => 5 < k ∧ k < t) st.ls 2) dd (es.map Ent.pd)
  lt : st.ls[t]? = some tt
  got : Al2 (Dp (t < ·) st.ls 2) tt ((es.take i).map Ent.pd)
  chain : Chain p (es.drop i)
  dt : ∀ y m d, p = some (y, m, d) → t < kd ∧ st.ls[kd]? = some [.int y, .int m, .int d]
/-- behind the day of a turn -/
structure M2 (s : Nat) (ls : List (List D)) (t : Nat) (left : List Nat) (y m d : Int) (kd : Nat) (st : St) : Prop where
  env : Has st.env (lF s left kd t)
  kd : t < kd ∧ st.ls[kd]? = some [.int y, .int m, .int d]
  keep : ∀ (j : Nat) ds, ls[j]? = some ds → st.ls[j]? = some ds
theorem end_ls5 {ls : List (List D)} {t : Nat} (h : t < ls.length) (v row tt' : List D) :
    (∀ k ds, k ≠ t → ls[k]? = some ds → ((ls ++ [v] ++ [row]).set t tt')[k]? = some ds) ∧ ((ls ++ [v] ++ [row]).set t tt')[t]? = some tt' ∧ ((ls ++ [v] ++ [row]).set t tt')[ls.length]? = some v ∧
    ((ls ++ [v] ++ [row]).set t tt')[(ls ++ [v]).length]? = some row ∧ t < (ls ++ [v]).length := by
  have e1 : (ls ++ [v]).length = ls.length + 1 := by rw [List.length_append]; rfl
  have e2 : (ls ++ [v] ++ [row]).length = ls.length + 2 := by rw [List.length_append, e1]; rfl
  refine ⟨fun k ds kt h => set_get kt (get_app (get_app h)), set_here ?_, set_get ?_ (get_app get_last), set_get ?_ get_last, ?_⟩
  · rw [e2]; exact Nat.lt_add_right 2 h
  · exact Nat.ne_of_gt h
  · rw [e1]; exact Nat.ne_of_gt (Nat.lt_add_right 1 h)
  · rw [e1]; exact Nat.lt_add_right 1 h
theorem glue_has {s : Nat} {r : Ent} {rs : List Ent} (h : r.has = true) : glue s (psOf (r :: rs)) = r.l ++ s :: (r.k ++ tl s (psOf rs)) := by
  show glue s (r.ps ++ psOf rs) = _
  unfold Ent.ps
  rw [h]
  rfl
theorem glue_not {s : Nat} {r : Ent} {rs : List Ent} (h : r.has = false) : glue s (psOf (r :: rs)) = r.k ++ tl s (psOf rs) := by
  show glue s (r.ps ++ psOf rs) = _
  unfold Ent.ps
  rw [h]
  rfl
theorem ClkT.len5 {l : List Nat} (h : ClkT l) : 5 ≤ l.length := h.len.elim (fun q => Nat.le_of_eq q.symm) fun q => Nat.le_trans (by decide) q
theorem ClkT.run {l t : List Nat} (h : ClkT l) : 2 ≤ run (l ++ t) := by
  refine Classical.byContradiction fun hng => ?_
  obtain ⟨a, b, c, d, r, ha, hb, _, rfl⟩ := h.shape
  refine hng ?_
  clear hng
  show 2 ≤ Mine.run ((48 + a) :: (48 + b) :: _)
  rw [run_cons ⟨Nat.le_add_right 48 a, Nat.add_le_add_left (Nat.le_of_lt_succ ha) 48⟩, run_cons ⟨Nat.le_add_right 48 b, Nat.add_le_add_left (Nat.le_of_lt_succ hb) 48⟩]
  exact Nat.le_add_left 2 _
theorem tail_len {e : E0} {s : Nat} {rs : List Ent} (h : ∀ r ∈ rs, EntOk e r) : tl s (psOf rs) = [] ∨ 6 ≤ (tl s (psOf rs)).length := by
  cases rs with
  | nil => exact .inl rfl
  | cons r rs =>
    refine .inr ?_
    have R := h r (.head _)
    have k5 := R.clk.len5
    show 6 ≤ (tl s (r.ps ++ psOf rs)).length
    rw [tl_app, List.length_append]
    unfold Ent.ps
    cases r.has with
    | true =>
      show 6 ≤ (s :: (r.l ++ s :: (r.k ++ []))).length + _
      rw [List.length_cons, List.length_append, List.length_cons, List.append_nil]
      lia
    | false =>
      show 6 ≤ (s :: (r.k ++ [])).length + _
      rw [List.length_cons, List.append_nil]
      lia
theorem tl_head (s : Nat) : ∀ r : List (List Nat), tl s r = [] ∨ ∃ x, tl s r = s :: x := by
  intro r
  cases r with
  | nil => exact .inl rfl
  | cons y r => exact .inr ⟨_, rfl⟩
theorem tx_no {g : List Nat} (h : tx g = Str.ofString "") : g = [] := by
  rw [s_no] at h
  exact congrArg (fun x : Str => x.cps.toList) h
section
variable {e : E0} {c : Ac} {st : St} {X : XPost} {P : KP}
theorem c_findE {l : List Nat} {k : Int} (hk : sepOf l = k) (hz : l.length ≤ 16384) (h7 : 7 < l.length) (h10 : l[4]? = some 45 → l[5]? = some 87 → 10 < l.length) (hroom : 2 ≤ c.room) (h : P (.int k) st) : EVN (gl e) c (callV (.ref 80)) [.str (tx l)] st P X := c_find l hz h7 h10 hroom (hk.symm ▸ h)
theorem sl_stoE {G : Gl} {v : Expr} {l r : List Nat} (n : Nat) {j : Int} (hj : j = n) (e : l.take n = r) (hz : l.length ≤ 16384) (h : P (.str (tx r)) st) : SL G c X v (.str (tx l)) .none (.int j) st P := by
  subst hj e
  exact sl_sto (Int.natCast_nonneg _) hz h
theorem sl_sfromE {G : Gl} {v : Expr} {l r : List Nat} (n : Nat) {j : Int} (hj : j = n) (e : l.drop n = r) (hz : l.length ≤ 16384) (h : P (.str (tx r)) st) : SL G c X v (.str (tx l)) (.int j) .none st P := by
  subst hj e
  exact sl_sfrom (Int.natCast_nonneg _) hz h
theorem ev_joinE {G : Gl} {k : Nat} {x : Str} {ys : List Str} {z : Str} (hy : Txt.join x ys = z) (hk : st.ls[k]? = some (ys.map D.str)) (hz : (ys.map (·.length)).sum + ys.length * x.length ≤ 16777216) (h : P (.str z) st) : EVN G c (callV (.builtin "str.join")) [.str x, .lst k] st P X := ev_join hk hz (hy.symm ▸ h)
theorem sl_toE {G : Gl} {v : Expr} {d : D} {ds : List D} {k : Int} (hs : Seq st d ds) (hk : 0 ≤ k) (hz : ds.length ≤ k.toNat) (h6 : ds.length ≤ 16384) (h : P (.lst st.ls.length) ⟨st.env, st.ls ++ [ds], st.tn⟩) : SL G c X v d .none (.int k) st P := sl_to hs hk h6 (by rw [List.take_of_length_le hz]; exact h)
theorem ev_addQE {G : Gl} {d e : D} {ds es fs : List D} (hf : ds ++ es = fs) (hi : Seq st d ds) (hj : Seq st e es) (hz : ds.length + es.length ≤ 16384) (h : P (.lst st.ls.length) ⟨st.env, st.ls ++ [fs], st.tn⟩) : A2 G c (binaryOp .Add) d e st P X := ev_addQ hi hj (hf.symm ▸ h) hz
end
theorem b_sz (N : Nat) : (N : Int) / 2 + 1 = (N / 2 + 1 : Nat) := by lia
theorem b_i {i N : Nat} (h : i < N / 2 + 1) (g : N ≤ 63) : 1 + 2 * i < N + 3 ∧ 2 + 2 * i < N + 3 ∧ 0 ≤ 1 + (i : Int) * 2 ∧ 1 + (i : Int) * 2 < 2 ^ 63 ∧ 0 ≤ 1 + (i : Int) * 2 + 1 ∧ 1 + (i : Int) * 2 + 1 < 2 ^ 63 ∧ i ≤ 31 := by lia
theorem b_t (i : Nat) : (1 + (i : Int) * 2).toNat = 1 + 2 * i ∧ (1 + (i : Int) * 2 + 1).toNat = 2 + 2 * i := by lia
theorem b_w (x : Int) : 0 ≤ x / 2 % 6 ∧ x / 2 % 6 ≤ 5 := by lia
theorem b_x (x : Int) : (1 ≤ x / 12 % 3652059 + 1 ∧ x / 12 % 3652059 + 1 ≤ 3652059) ∧ 1 ≤ x / 12 % 3652059 + 1 - (x / 12 % 3652059 + 1 - 1) % 7 ∧ x / 12 % 3652059 + 1 - (x / 12 % 3652059 + 1 - 1) % 7 ≤ 3652059 ∧ (x / 12 % 3652059 + 1 - (x / 12 % 3652059 + 1 - 1) % 7 - 1) % 7 = 0 := by lia
theorem b_p {p q i : Nat} (h : p ≤ 2 * i) (g : i ≤ 31) (hq : q ≤ 1) : p + q ≤ 16384 := by lia
theorem b_k {k : Nat} (h : 5 < k) : k ≠ 3 ∧ k ≠ 5 := by lia
theorem b_s {S P T N : Nat} (h : S + P = T) (g : T ≤ 112 * (N / 2 + 1)) (hn : N ≤ 63) : S + P * 1 ≤ 16777216 := by lia
theorem b_z {a b t E j : Nat} (h : a ≤ 10 ∧ b ≤ 100) (ht : t ≤ 112 * (E - j)) (he : E ≤ 32) : a + (b + t + 1) ≤ 16384 ∧ b + t ≤ 16384 := by lia
theorem b_j {j a t : Nat} (h : ¬(j : Int) < (a + t : Nat)) (g : j ≤ a) : j = a := by lia
theorem b_32 {N : Nat} (h : N ≤ 63) : N / 2 + 1 ≤ 32 := by lia
theorem b_8 {a t : Nat} (h : ¬a + t = 5) (k : a = 5 ∨ 8 ≤ a) (z : t = 0 ∨ 6 ≤ t) : 8 ≤ a + t := by lia
theorem law04 {e : E0} {s₁ : Shared} {fa : Addr} {cd : Value} {name qual : Str} {params : Arguments} {body : List Stmt} {scope : Scope} {dV kV doc pm cdv ct oc : Value} {an od : Option Addr} {osl : Array (Option Value)}
    (hk : (gl e).K.lookup 156 = some ⟨oc, od, .func (fnOf name qual params body scope dV kV doc pm an cdv ct), osl⟩) {ns : List Int} (hns : ns.length ≤ 63) :
    CS (gl e) (lawAc s₁ qual scope fa cd) (execs body (envOf qual scope s₁.heap.objs.size fa cd)) ⟨[(Str.ofString "script", .ro ns)], [], false⟩ (fun af _ => af = .ret (.bool true)) NoX := by
  have h2 : (gl e).K.lookup 156 = some _ := rfl
  rw [h2] at hk
  cases hk
  clear h2
  have hA : callerA.handled = none := rfl
  have hl : (ns.map D.int).length ≤ 63 := by rw [List.length_map]; exact hns
  have E := fun {c X} => (gEB_ok (c := c) (X := X) (tabOk e) 10).1
  refine cs_step 10 ⟨sl_toE (ds := ns.map D.int) rfl (by decide) (Nat.le_trans hl (by decide)) (Nat.le_trans hl (by decide)) ?_⟩
  refine cs_step 10 ⟨ev_addQE (ds := ns.map D.int) (es := [.int 0, .int 0, .int 0]) (fs := (ns ++ [0, 0, 0]).map D.int) (by rw [List.map_append]; rfl) rfl rfl (Nat.le_trans (Nat.add_le_add_right hl 3) (by decide)) ?_⟩
  obtain ⟨x0, hx0⟩ := ns_at (ns := ns) (k := 0) (Nat.succ_pos _)
  refine cs_step 10 ⟨ev_item (e := .int x0) rfl (by decide) hx0 ⟨c_sign4 x0 (Nat.le_of_ble_eq_true rfl) fun s hs => ?_⟩ (by decide)⟩
  refine cs_step 10 ?_
  refine cs_step 10 ?_
  refine cs_step 10 ?_
  refine cs_step 10 ⟨AW.mp (P := fun af st' => af = .next ∧ ∃ es dd kd, D1 e ns s (ns.length / 2 + 1) st' es dd kd) ?loop1 ?after1⟩
  case loop1 =>
    refine for_rng (a := 1) (b := (ns.length : Int) + 2) (e := 2) (n := ns.length / 2 + 1) (fun i st' => ∃ es dd kd, D1 e ns s i st' es dd kd) (E _ _ _ ?rng) (fun _ _ => rfl) ?sz ?sm ?turn (fun st' h => ⟨rfl, h⟩) ⟨[], [], 4, ⟨rfl, fun _ q => (nomatch q), trivial, Has.app (F := []), rfl, rfl, rfl, rfl, rfl, fun _ _ _ q => (nomatch q)⟩⟩ hA rfl rfl
    case rng => exact ⟨ev_len (ds := ns.map D.int) rfl (by rw [List.length_map]; exact ⟨ev_range3 (by decide) (by decide) ⟨rfl, rfl⟩⟩) (Nat.le_trans hl (by decide))⟩
    case sz => rw [rsize (Int.natCast_nonneg _)]; exact b_sz _
    case sm => exact rsmall (Int.natCast_nonneg _) (Int.ofNat_le.mpr (Nat.le_trans hns (by decide)))
    case turn =>
      rintro i hj1 hj2 hi
      refine Classical.byContradiction fun hng => ?_
      obtain ⟨env, ls, tn⟩ := hj1
      obtain ⟨es, dd, kd, I⟩ := hj2
      refine hng ?_
      clear hng
      obtain rfl : tn = false := I.tn
      have l2 : ls[2]? = _ := I.l2
      have l3 : ls[3]? = _ := I.l3
      have l5 : ls[5]? = _ := I.l5
      have h5 : 5 < ls.length := get_lt l5
      have psl := (ps_len (s := s) I.ok).2
      rw [I.n] at psl
      refine AW.less (env := lE s kd ++ [(Str.ofString "k", D.int (1 + (i : Int) * 2))]) ?_ (I.env.set (x := Str.ofString "k") (d := .int (1 + (i : Int) * 2)))
      have ib := b_i hi hns
      refine Classical.byContradiction fun hng => ?_
      obtain ⟨x, hx⟩ := ns_at (ns := ns) (k := 1 + 2 * i) ib.1
      obtain ⟨x2, hx2⟩ := ns_at (ns := ns) (k := 2 + 2 * i) ib.2.1
      refine hng ?_
      clear hng
      refine gS_ok (tabOk e) 1 _ _ _ ?_
      refine ⟨E _ _ _ ⟨ev_item (e := .int x) l2 ib.2.2.1 (by rw [(b_t i).1]; exact hx) ⟨as_cons (AW.mp (P := fun af st' => af = .next ∧ ∃ b l y m d kd', Md e s ls es (1 + (i : Int) * 2) b l y m d kd' st') ?iff ?rest)⟩ ib.2.2.2.1⟩⟩
      case iff =>
        by_cases hq : x % 2 = 1 ∨ (1 : Int) + i * 2 = 1
        · refine as_if ((gEB_ok (tabOk e) 6).2 _ _ _ (gB_join true (splO (fun a => splO (fun b => absurd hq (fun z => z.elim a b)) fun b => ⟨rfl, rfl⟩) fun a => ⟨rfl, rfl⟩) (splT (gS_ok (tabOk e) 2 _ _ _ ?_))))
          refine ⟨E _ _ _ ⟨E _ _ _ ⟨E _ _ _ ⟨as_cons (AW.mp (P := fun af st' => af = .next ∧ ∃ n, 1 ≤ n ∧ n ≤ 3652059 ∧ (3 < x / 2 % 6 → (n - 1) % 7 = 0) ∧ st' = ⟨lE s kd ++ [(Str.ofString "k", D.int (1 + (i : Int) * 2)), (Str.ofString "x", D.int x), (Str.ofString "way", D.int (x / 2 % 6)), (Str.ofString "n", D.int n)], ls, false⟩) ?iff2 ?rest2)⟩⟩⟩⟩
          case iff2 =>
            refine as_if ((gEB_ok (tabOk e) 5).2 _ _ _ (spl (fun q => gS_ok (tabOk e) 8 _ _ _ ?_) fun q => gS_ok (tabOk e) 8 _ _ _ ?_))
            · exact ⟨rfl, _, (b_x x).2.1, (b_x x).2.2.1, fun _ => (b_x x).2.2.2, rfl⟩
            · exact ⟨rfl, _, (b_x x).1.1, (b_x x).1.2, fun z => absurd z q, rfl⟩
          case rest2 =>
            rintro _ _ hj2
            refine Classical.byContradiction fun hng => ?_
            obtain ⟨rfl, n, n1, n2, nm, rfl⟩ := hj2
            refine hng ?_
            clear hng
            refine gS_ok (tabOk e) 10 _ _ _ ?_
            refine ⟨c_day (x / 2 % 6) n (b_w x).1 (b_w x).2 n1 n2 nm hA (Nat.le_of_ble_eq_true rfl) fun l y m d ls1 dok p1 => opt_of (pre_get p1 l3) ⟨?_, ?_⟩⟩
            · unfold ptD
              rw [List.length_map, List.length_map]
              exact b_p (q := 0) psl ib.2.2.2.2.2.2 (by decide)
            have g3 : 3 < ls1.length := get_lt (pre_get p1 l3)
            have gl : 5 < ls1.length := Nat.lt_of_lt_of_le h5 p1.length_le
            refine ⟨c_lawdate y m d n dok.val dok.ord hA (Nat.le_of_ble_eq_true rfl) ?_⟩
            refine ⟨rfl, true, l, y, m, d, _, ⟨Has.app (F := [_, _, _]), rfl, fun _ => ⟨dok.pd, dok.sep.weak fun _ => trivial⟩, dok.sep.len.2, fun z => (nomatch z), ⟨?_, get_last⟩, ?_, fun j ds hj h => get_app (set_get hj (pre_get p1 h))⟩⟩
            · rw [List.length_set]
              exact gl
            · have eq : ptD (psOf es ++ if true = true then [l] else []) = ptD (psOf es) ++ [D.str (tx l)] := ptD_app _ _
              rw [eq]
              exact get_app (set_here g3)
        · refine as_if ((gEB_ok (tabOk e) 6).2 _ _ _ (gB_join false (splO (fun a => splO (fun b => ⟨rfl, rfl⟩) fun b => absurd (.inr b) hq) fun a => absurd (.inl a) hq) (splF (gS_ok (tabOk e) 2 _ _ _ ?_))))
          have i0 : es ≠ [] := fun z => by
            rw [z] at I
            exact hq (.inr (by rw [← I.n]; rfl))
          refine Classical.byContradiction fun hng => ?_
          obtain ⟨⟨y, m, d⟩, hld⟩ := lastD_some (p := none) i0
          refine hng ?_
          clear hng
          have dt := I.dt y m d hld
          refine ⟨rfl, false, [], y, m, d, kd, ⟨Has.app (F := [_]), rfl, fun z => (nomatch z), Nat.zero_le _, fun _ => hld, dt, ?_, fun j ds _ h => h⟩⟩
          rw [if_neg (by decide), List.append_nil]
          exact l3
      case rest =>
        rintro _ hj1 hj2
        refine Classical.byContradiction fun hng => ?_
        obtain ⟨env', ls1, tn⟩ := hj1
        obtain ⟨rfl, b, l, y, m, d, kd', M⟩ := hj2
        refine hng ?_
        clear hng
        obtain rfl : tn = false := M.tn
        have q2 : ls1[2]? = _ := M.keep 2 _ (by decide) l2
        have q3 : ls1[3]? = _ := M.l3
        have q5 : ls1[5]? = _ := M.keep 5 _ (by decide) l5
        have g5 : 5 < ls1.length := get_lt q5
        refine AW.less (env := lE s kd' ++ [(Str.ofString "k", D.int (1 + (i : Int) * 2))]) ?_ M.env
        refine gS_ok (tabOk e) 12 _ _ _ ?_
        refine ⟨hA, ⟨ev_item (e := .int x2) q2 ib.2.2.2.2.1 (by rw [(b_t i).2]; exact hx2) ⟨c_clock4 x2 hA (Nat.le_of_ble_eq_true rfl) fun k v f nn w ls2 tok ck klen p2 => ?_⟩ ib.2.2.2.2.2.1⟩⟩
        obtain ⟨v, rfl⟩ := tok.ints
        have EL := fun row dd' => end_ls4 p2 g5 (v.map D.int) (ptD (psOf es ++ if b = true then [l] else []) ++ [D.str (tx k)]) row dd'
        refine opt_of (get_app (pre_get p2 q3)) ⟨?_, ?_⟩
        · unfold ptD
          rw [List.length_map, List.length_map, List.length_append]
          exact b_p psl ib.2.2.2.2.2.2 (by cases b <;> exact Nat.le_of_ble_eq_true rfl)
        refine opt_of (get_app (set_get (by decide) (get_app (pre_get p2 q5)))) ⟨?_, ?_⟩
        · rw [I.rows.length, List.length_map, I.n]
          exact Nat.le_trans ib.2.2.2.2.2.2 (by decide)
        refine ⟨es ++ [⟨b, l, k, y, m, d, v⟩], dd ++ [_], kd', ⟨?_, ?_, Chain.snoc I.chain M.lst, Has.app (F := [_, _, _]), rfl, (EL _ _).1 2 _ (by decide) (by decide) q2, ?_, (EL _ _).2.2.1, ?_, ?_⟩⟩
        · rw [List.length_append, I.n]
          rfl
        · intro r hr
          rcases List.mem_append.mp hr with z | z
          · exact I.ok r z
          · rw [List.mem_singleton.mp z]
            exact ⟨M.pd, ⟨f, nn, w, tok⟩, ck, M.len, klen⟩
        · have eq : ptD (psOf (es ++ [⟨b, l, k, y, m, d, v⟩])) = ptD (psOf es ++ if b = true then [l] else []) ++ [D.str (tx k)] := by
            rw [ps_snoc, show Ent.ps ⟨b, l, k, y, m, d, v⟩ = (if b = true then [l] else []) ++ [k] by cases b <;> rfl, ← List.append_assoc, ptD_app (_ ++ _)]
            rfl
          rw [eq]
          exact (EL _ _).2.1
        · rw [List.map_append]
          refine Al2.snoc (dp_row4 (EL [] []).2.2.2.2.2.2 M.kd.1 (EL [] []).2.2.2.2.2.1 (EL _ _).2.2.2.2.1 ((EL _ _).1 _ _ (b_k M.kd.1).1 (b_k M.kd.1).2 M.kd.2) (EL _ _).2.2.2.1) (I.rows.mono fun _ _ => Dp.sub fun k ds hk hd => ⟨hk, (EL _ _).1 k ds (b_k hk).1 (b_k hk).2 (M.keep k ds (b_k hk).1 hd)⟩)
        · intro y' m' d' q
          rw [lastD_snoc] at q
          cases q
          exact ⟨M.kd.1, (EL _ _).1 _ _ (b_k M.kd.1).1 (b_k M.kd.1).2 M.kd.2⟩
  case after1 =>
    rintro _ hj1 hj2
    refine Classical.byContradiction fun hng => ?_
    obtain ⟨env, ls, tn⟩ := hj1
    obtain ⟨rfl, es, dd, kd, I⟩ := hj2
    refine hng ?_
    clear hng
    obtain rfl : tn = false := I.tn
    have l5 : ls[5]? = _ := I.l5
    have h5 : 5 < ls.length := get_lt l5
    have rows := I.rows
    have pl := ps_len (s := s) I.ok
    rw [I.n] at pl
    refine CW.less (env := lE s kd) (st := ⟨env, ls, false⟩) ?_ I.env
    refine cs_cons (CW.of (as_assign (ae_join rfl rfl rfl (E _ _ _ ⟨_, rfl, E _ _ _ (ev_joinE (join_glue s (psOf es)) I.l3 ?_ ?_)⟩)) rfl rfl))
    · have := ps_sum s (psOf es)
      rw [List.length_map, tx_len]
      exact b_s this pl.1 hns
    refine cs_step 8 ?_
    refine cs_step 8 ?_
    have ht : (ls ++ [([] : List D)]).length = ls.length + 1 := by rw [List.length_append]; rfl
    refine cs_cons (cs_while (fun n st₁ => ∃ i tt kd p, i ≤ es.length ∧ n = es.length - i ∧ D2 s es dd (ls ++ [([] : List D)]).length i st₁ tt kd p) ?turn es.length ⟨0, [], ls.length, none, Nat.zero_le _, rfl, ⟨.cons rfl (.cons rfl (.cons rfl (.cons rfl (.cons rfl .nil)))), get_app (get_app l5), rows.mono fun _ _ => Dp.sub fun k ds hk hd => ⟨⟨hk, by rw [ht]; exact Nat.lt_succ_of_lt (get_lt hd)⟩, get_app (get_app hd)⟩, get_last, rfl, I.chain, fun _ _ _ q => (nomatch q)⟩⟩)
    have h5t : 5 < (ls ++ [([] : List D)]).length := by rw [ht]; exact Nat.lt_succ_of_lt h5
    generalize (ls ++ [([] : List D)]).length = t at *
    clear ht rows l5 h5
    rintro n hj1 hj2
    refine Classical.byContradiction fun hng => ?_
    obtain ⟨env', ls', tn'⟩ := hj1
    obtain ⟨i, tt, kd', p, hi, rfl, J⟩ := hj2
    refine hng ?_
    clear hng
    have jenv := J.env
    generalize hL : glue s (psOf (es.drop i)) = left at *
    refine AW.less (env := lF s left kd' t) ?_ jenv
    refine (gEB_ok (tabOk e) 6).2 _ _ _ (spl (fun q => ?_) fun q => ?_)
    · have hlt : i < es.length := by
        rcases Nat.lt_or_ge i es.length with z | z
        · exact z
        · rw [← hL, List.drop_of_length_le z] at q
          exact absurd s_no.symm q
      obtain ⟨r, hr⟩ : ∃ r, es[i]? = some r := ⟨_, List.getElem?_eq_getElem hlt⟩
      have ed : es.drop i = r :: es.drop (i + 1) := by rw [List.drop_eq_getElem_cons hlt, (List.getElem?_eq_some_iff.mp hr).2]
      have R := I.ok r (List.mem_of_getElem? hr)
      have ok' : ∀ r ∈ es.drop (i + 1), EntOk e r := fun r hr => I.ok r (List.mem_of_mem_drop hr)
      have rl := R.len
      have k5 := R.clk.len5
      have es32 : es.length ≤ 32 := by rw [I.n]; exact b_32 hns
      have tlen := (ps_len (s := s) ok').1
      rw [List.length_drop] at tlen
      have t6 := tail_len (s := s) ok'
      have hch := J.chain
      rw [ed] at hch
      have tg := tl_glue s (psOf (es.drop (i + 1)))
      have th := tl_head s (psOf (es.drop (i + 1)))
      have Jt : ls'[t]? = _ := J.lt
      have ht' : t < ls'.length := get_lt Jt
      have gA := tabOk e _ (lookup_mem (T := tab) (x := Str.ofString "AssertionError") (g := .typ "AssertionError") rfl)
      have gV := tabOk e _ (lookup_mem (T := tab) (x := Str.ofString "ValueError") (g := .typ "ValueError") rfl)
      generalize htl : tl s (psOf (es.drop (i + 1))) = tail at *
      have hz : (r.l ++ s :: (r.k ++ tail)).length ≤ 16384 := by rw [List.length_append, List.length_cons, List.length_append]; exact (b_z rl tlen es32).1
      have hz2 : (r.k ++ tail).length ≤ 16384 := by rw [List.length_append]; exact (b_z rl tlen es32).2
      refine cs_cons (CW.mp (P := fun af st₁ => af = .next ∧ ∃ kd2, M2 s ls' t (r.k ++ tail) r.y r.m r.d kd2 st₁) (cs_try2 rfl ⟨gA.1, gA.2.1, gA.2.2, sub_ab, sub_at, sub_aa, rfl, rfl⟩ ⟨gV.1, gV.2.1, gV.2.2, sub_vb, sub_vt, sub_vv, rfl, rfl⟩ sub_va ?tryB) ?tryR)
      case tryB =>
        cases hb : r.has with
        | true =>
          obtain rfl : r.l ++ s :: (r.k ++ tail) = left := by rw [← hL, ed, glue_has hb, htl]
          refine Classical.byContradiction fun hng => ?_
          obtain ⟨pd, sp⟩ := R.pd hb
          obtain ⟨s1, s2⟩ := sp.sep s (r.k ++ tail) (fun _ z => hs (.inl z)) (fun z => absurd (.inl z) hs) R.clk.run
          refine hng ?_
          clear hng
          refine CW.of (gS_ok (tabOk e) 10 _ _ _ ⟨c_findE s1 hz (by rw [List.length_append, List.length_cons]; exact Nat.lt_of_le_of_lt sp.len.1 (Nat.lt_add_of_pos_right (Nat.succ_pos _))) s2 (Nat.le_of_ble_eq_true rfl) ?_⟩)
          refine ⟨sl_stoE r.l.length rfl List.take_left hz ⟨pd _ _ _ _ hA (Nat.le_of_ble_eq_true rfl) ⟨sl_sfromE (r := r.k ++ tail) (r.l.length + 1) rfl (by rw [← List.drop_drop, List.drop_left]; rfl) hz ?_⟩⟩⟩
          exact ⟨rfl, _, ⟨.cons rfl (.cons rfl (.cons rfl (.cons rfl (.cons rfl .nil)))), ⟨ht', get_last⟩, fun j ds h => get_app h⟩⟩
        | false =>
          obtain rfl : r.k ++ tail = left := by rw [← hL, ed, glue_not hb, htl]
          have dt := J.dt _ _ _ (hch.1 hb)
          by_cases h5 : (r.k ++ tail).length = 5
          · exact CW.of (gS_ok (tabOk e) 10 _ _ _ ⟨c_find5 _ h5 hA (Nat.le_of_ble_eq_true rfl) ⟨rfl, .inl rfl, rfl, kd', ⟨Has.app (F := []), dt, fun j ds h => h⟩⟩⟩)
          · refine Classical.byContradiction fun hng => ?_
            obtain ⟨a, b, d, f, rr, ha, hb', hd, hk⟩ := R.clk.shape
            refine hng ?_
            clear hng
            have h8 : 8 ≤ (r.k ++ tail).length := by
              rw [List.length_append] at h5 ⊢
              exact b_8 h5 R.clk.len (t6.imp (congrArg List.length) id)
            have e4 : (r.k ++ tail)[4]? = some (48 + f % 10) := by rw [hk]; rfl
            have tk : (r.k ++ tail).take 4 = [48 + a, 48 + b, 58, 48 + d] := by rw [hk]; rfl
            refine cs_step 10 ⟨c_findE (sepD (by rw [e4]; exact dig_no nd45) (by rw [e4]; exact dig_no nd87)) hz2 (Nat.lt_of_lt_of_le (by decide) h8) (fun z => absurd (e4.symm.trans z) (dig_no nd45)) (Nat.le_of_ble_eq_true rfl) ?_⟩
            have gP := tabOk e _ (lookup_mem (T := tab) (x := Str.ofString "_parse_isoformat_date") (g := .fn 87) rfl)
            refine cs_cons (cs_assign (ce_callK gP.1 gP.2 (al_cons ((gEB_ok (tabOk e) 8).1 _ _ _ ⟨sl_sto (by decide) hz2 (al_nil (c_pdbad _ a b d ha hb' hd ?_ ?_ hA (Nat.le_of_ble_eq_true rfl) ⟨rfl, .inr rfl, rfl, kd', ⟨Has.app (F := [_]), dt, fun j ds h => h⟩⟩))⟩) rfl) rfl rfl rfl rfl) rfl rfl)
            · rw [List.length_take]
              exact Nat.min_eq_left h8
            · rw [List.take_take]
              exact tk
      case tryR =>
        rintro _ hj1 hj2
        refine Classical.byContradiction fun hng => ?_
        obtain ⟨env2, ls2, tn2⟩ := hj1
        obtain ⟨rfl, kd2, M⟩ := hj2
        refine hng ?_
        clear hng
        have Mt : ls2[t]? = _ := M.keep t _ Jt
        have ht2 : t < ls2.length := get_lt Mt
        refine CW.less (env := lF s (r.k ++ tail) kd2 t) (st := ⟨env2, ls2, tn2⟩) ?_ M.env
        refine CW.of (gS_ok (tabOk e) 12 _ _ _ ⟨AW.mp (P := fun af st' => af = .next ∧ st' = ⟨lF s (r.k ++ tail) kd2 t ++ [(Str.ofString "end", D.int r.k.length)], ls2, tn2⟩) ?inner ?fin⟩)
        case inner =>
          refine as_while (fun n st₁ => ∃ j : Nat, j ≤ r.k.length ∧ n = r.k.length - j ∧ st₁ = ⟨lF s (r.k ++ tail) kd2 t ++ [(Str.ofString "end", D.int j)], ls2, tn2⟩) ?_ r.k.length ⟨0, Nat.zero_le _, rfl, rfl⟩
          rintro n _ hj2
          refine Classical.byContradiction fun hng => ?_
          obtain ⟨j, hj, rfl, rfl⟩ := hj2
          refine hng ?_
          clear hng
          have out : j = r.k.length → (AF.next = AF.next ∧ (⟨lF s (r.k ++ tail) kd2 t ++ [(Str.ofString "end", D.int j)], ls2, tn2⟩ : St) = ⟨lF s (r.k ++ tail) kd2 t ++ [(Str.ofString "end", D.int r.k.length)], ls2, tn2⟩) := fun z => ⟨rfl, by rw [z]⟩
          refine (gEB_ok (tabOk e) 10).2 _ _ _ ⟨ev_lenS (spl (fun q1 => ?_) fun q1 => splF (out ?_)) hz2⟩
          · rw [List.length_append] at q1
            obtain ⟨ch, hch⟩ : ∃ ch, (r.k ++ tail)[j]? = some ch := ⟨_, List.getElem?_eq_getElem (by rw [List.length_append]; exact Int.ofNat_lt.mp q1)⟩
            refine ⟨ev_itemS (Int.natCast_nonneg _) (by rw [Int.toNat_natCast]; exact hch) ?_ hz2⟩
            rcases Nat.lt_or_ge j r.k.length with z | z
            · rw [List.getElem?_append_left z] at hch
              have hc := R.clk.ch ch (List.mem_of_getElem? hch)
              refine spl (fun _ => splT (gS_ok (tabOk e) 6 _ _ _ ⟨_, Nat.sub_lt_sub_left z (Nat.lt_succ_self j), j + 1, z, rfl, rfl⟩)) fun y => absurd (fun w => hs ((one_eq (c := ch) (k := s)).mp w ▸ hc)) y
            · obtain rfl : j = r.k.length := Nat.le_antisymm hj z
              refine spl (fun y => absurd ?_ y) fun _ => splF (out rfl)
              rw [List.getElem?_append_right (Nat.le_refl _), Nat.sub_self] at hch
              rcases th with w | ⟨x, w⟩
              · rw [w] at hch
                cases hch
              · rw [w] at hch
                cases hch
                rfl
          · rw [List.length_append] at q1
            exact b_j q1 hj
        case fin =>
          rintro _ _ ⟨rfl, rfl⟩
          refine Classical.byContradiction fun hng => ?_
          obtain ⟨x, n, w, tok⟩ := R.time
          refine hng ?_
          clear hng
          have EL := fun row tt' => end_ls5 ht2 (r.v.map D.int) row tt'
          refine ⟨sl_stoE r.k.length rfl List.take_left hz2 ⟨c_time r.k x n w true tok.clk _ hA tok.what (Nat.le_of_ble_eq_true rfl) (opt_of (get_app (get_app Mt)) ⟨?_, ⟨sl_sfromE (r := glue s (psOf (es.drop (i + 1)))) (r.k.length + 1) rfl (by rw [← List.drop_drop, List.drop_left]; exact tg) hz2 ?_⟩⟩)⟩⟩
          · rw [J.got.length, List.length_map, List.length_take]
            exact Nat.le_trans (Nat.min_le_right _ _) (Nat.le_trans es32 (by decide))
          refine ⟨es.length - (i + 1), Nat.sub_lt_sub_left hlt (Nat.lt_succ_self i), i + 1, tt ++ [_], kd2, some (r.y, r.m, r.d), hlt, rfl, ⟨.cons rfl (.cons rfl (.cons rfl (.cons rfl (.cons rfl .nil)))), (EL _ _).1 5 _ (Nat.ne_of_lt h5t) (M.keep 5 _ J.l5), J.rows.mono fun _ _ => Dp.sub fun k ds hk hd => ⟨hk, (EL _ _).1 k ds (Nat.ne_of_lt hk.2) (M.keep k ds hd)⟩, (EL _ _).2.1, ?_, hch.2, fun y m d q => ?_⟩⟩
          · rw [List.take_add_one, hr, List.map_append]
            exact Al2.snoc (dp_row4 (EL [] []).2.2.2.2 M.kd.1 ht2 (EL _ _).2.2.2.1 ((EL _ _).1 _ _ (Nat.ne_of_gt M.kd.1) M.kd.2) (EL _ _).2.2.1) (J.got.mono fun _ _ => Dp.sub fun k ds hk hd => ⟨hk, (EL _ _).1 k ds (Nat.ne_of_gt hk) (M.keep k ds hd)⟩)
          · cases q
            exact ⟨M.kd.1, (EL _ _).1 _ _ (Nat.ne_of_gt M.kd.1) M.kd.2⟩
    · have hie : i = es.length := by
        rcases Nat.lt_or_ge i es.length with z | z
        · exfalso
          have g0 := hL.trans (tx_no (Decidable.not_not.mp q))
          rw [List.drop_eq_getElem_cons z] at g0
          have R := I.ok es[i] (List.getElem_mem z)
          have k5 := R.clk.len5
          have gl := congrArg List.length g0
          cases hb : es[i].has with
          | true =>
            rw [glue_has hb, List.length_append, List.length_cons] at gl
            cases gl
          | false =>
            rw [glue_not hb, List.length_append, List.length_nil] at gl
            exact absurd (Nat.le_trans k5 (Nat.le_trans (Nat.le_add_right _ _) (Nat.le_of_eq gl))) (by decide)
        · exact Nat.le_antisymm hi z
      refine cs_step 8 ⟨?_⟩
      have got := J.got
      rw [hie, List.take_of_length_le (Nat.le_refl _)] at got
      exact ev_eqD (n := 3) (S := fun _ => True) (S' := fun _ => True) (by decide) (.inr ⟨_, tt, _, rfl, rfl, trivial, J.lt, got.mono fun _ _ => Dp.sub fun k ds _ h => ⟨trivial, h⟩⟩) (.inr ⟨_, dd, _, rfl, rfl, trivial, J.l5, J.rows.mono fun _ _ => Dp.sub fun k ds _ h => ⟨trivial, h⟩⟩) rfl

theorem law_entryC {G : Gl} {nm : Str} {sc : Scope} {fa : Addr} {cd : Value} {s₁ : Shared} {h₁ : Heap} {tk : Nat} {l : Addr} {vs : List Value} {ns : List Int} {m₀ : Str → Option Value} {x : Str} {body : List Stmt} {Q : Flow → Shared → Prop} {E : Value → Shared → Prop}
    (hb : G.base = s₁.heap) (ho : G.os = s₁.os) (KX : G.K.In s₁.heap) (T : Top G.p G.loose G.mean G.mg G.mb s₁.heap) (B : Below callerA s₁.heap [] s₁.heap) (F : Fr s₁.heap s₁.heap.objs.size h₁ m₀) (hm : m₀ x = some (.ref l))
    (hl : s₁.heap.IsList l vs.toArray) (hi : IntsAre vs ns) (hg : s₁.gens = #[]) (hk : sc.kind = .function)
    (h : CS G (lawAc s₁ nm sc fa cd) (execs body (envOf nm sc s₁.heap.objs.size fa cd)) ⟨[(x, .ro ns)], [], false⟩ (fun af _ => af = .ret (.bool true)) NoX)
    (hQ : ∀ s' m', Fr s₁.heap s₁.heap.objs.size s'.heap m' → s'.gens = #[] → s'.os = s₁.os → Q (.ret (.bool true)) s') :
    wpC (model G.prog G.w) (callerA.deeper (envOf nm sc s₁.heap.objs.size fa cd)) (execs body (envOf nm sc s₁.heap.objs.size fa cd)) Q E { s₁ with heap := h₁, toks := tk } := by
  have rel : Rel G (lawAc s₁ nm sc fa cd) ⟨[], []⟩ ⟨[(x, .ro ns)], [], false⟩ s₁.heap m₀ { s₁ with heap := h₁, toks := tk } :=
    { gnd := { turn := KtsTurn.refl, same := fun _ => rfl, below := hb ▸ B, kin := KX, top := T, kb := hb ▸ KX, tb := hb ▸ T, dicts := ktsDicts_nil, fn := hk, dep := (show callerA.depth + 1 + 100 < recursionLimit by decide), unt := (show callerA.units + 3 + 8 * 100 + 80 < cLine by decide) },
      wok := { cpo := CpOk.no, loc := (fun y d e => by
        rw [List.lookup_cons] at e
        by_cases q : y = x
        · subst q
          rw [beq_self_eq_true] at e
          cases e
          exact ⟨_, hm, _, vs, rfl, hb ▸ hl, hi⟩
        · rw [beq_false_of_ne q] at e
          cases e), len := rfl, nodup := .nil, lists := (fun k ds e => nomatch e) }, fr := F, news := News.nil, gens := hg, os := ho.symm }
  refine wpC_mono (h _ _ _ _ rel) (fun f s' hq => ?_) fun e s' hx => (xp_no hx).elim
  refine Classical.byContradiction fun hng => ?_
  obtain ⟨W', st', af, h₀, m', _, r, rf, rfl⟩ := hq
  obtain ⟨v, rfl, rfl⟩ := rf
  refine hng ?_
  clear hng
  exact hQ s' m' ⟨r.fr.ns, fun b o e => r.fr.keep b o (r.gnd.turn.other b o e (by intro q; cases q)), Nat.le_refl _⟩ r.gens (r.os.trans ho)
theorem call_fullC {prog : Program} {w : World} {A : Around} {R : Result → Shared → Prop} {s : Shared} {name : Str} {params : Arguments} {body : List Stmt} {scope : Scope} {dV kV pm cd doc : Value} {a : Addr} {o : Obj} {args : Args} {binds : List (Str × Value)}
    (hroom : A.depth < recursionLimit) (ho : s.heap.get? a = some o) (hdata : o.data = .func { docDef name params body scope pm cd doc with defaults := dV, kwdefaults := kV }) (hlim : s.heap.NoLimit) (hcd : s.heap.CodeRec cd name)
    (hbind : BindsTo s { docDef name params body scope pm cd doc with defaults := dV, kwdefaults := kV } args binds) (hloc : ∀ x ∈ binds, scope.names.lookup x.1 = some .local) (hcell : ∀ x ∈ scope.names, x.2 ≠ .cell)
    (hco : scope.isCoroutine = false) (hgen : scope.isGenerator = false) (hk : scope.kind = .function)
    (h : ∀ h₁, Fr s.heap s.heap.objs.size h₁ (fun x => binds.reverse.lookup x) → wpC (model prog w) (A.deeper (envOf name scope s.heap.objs.size a cd)) (execs body (envOf name scope s.heap.objs.size a cd)) (fun f s' => R (.ok (.ret (match f with | .ret v => v | _ => .none))) s') (fun _ _ => False) { s with heap := h₁, toks := s.toks + binds.length }) :
    codeC (model prog w) A (.call (.ref a) args) R s :=
  codeC_call_def hroom ho hdata hlim hcd rfl hbind hcell hloc (fun h₁ hns hkp => wpC_mono (h h₁ ⟨hns, hkp, Nat.le_refl _⟩) (fun _ _ q => q) fun _ _ q => q.elim) hco hgen hk
theorem t04 : PySem.Challenge.rw_dm0257_04.Holds := by
  refine Mine.hd04 ?_
  w_on
  k_fill
  intro w s₀ s₁ mg mb G Y fa o pm cd doc dV kV ho hd hcd hD hmg hg args vals as hpre hlay hrd hwl hlo
  have KX := kIn_of Y
  refine Ground.open G ?_
  intro T B D TE TW
  clear hmg
  wrow_args hpre hlay hrd hwl hlo
  have K0 := below_caller (Top.heap T)
  have he := Dflts.none hD rfl
  subst he
  refine wpC_call (call_fullC (by decide) ho hd (Top.nolimit T) hcd (BindsTo.of_eq rfl) (locs rfl) (by decide) rfl rfl rfl fun h₁ F => ?_)
  refine law_entryC (G := gl ⟨_, _, _, _, _, _⟩) (x := Str.ofString "script") rfl rfl (by assumption) (by assumption) (by assumption) F rfl (by assumption) (by assumption) (by assumption) rfl ?_ ?_
  · exact law04 rfl (by lia)
  · intro s' m' F' g' o'
    exact GoodW.toG (goodW_bool F' g' (raisesW_false (fun _ hz => nomatch hz)) (postW_of rfl rfl (by decide +kernel)) o')

end Mine
theorem PySem.Challenge.cw_dm0257_04_holds : PySem.Challenge.rw_dm0257_04.Holds := by
  exact Mine.t04
