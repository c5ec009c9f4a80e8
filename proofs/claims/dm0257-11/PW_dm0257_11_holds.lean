import PyProof.Rows.All
import Wide.All
import OpenK.AllK
import Wide.FinOn
import PySem.Challenge.RW_dm0257_11
open PySem PySem.W PyProof.Rows PySem.Calls PySem.Spec
set_option Elab.async false
set_option maxRecDepth 100000
set_option maxHeartbeats 8000000
set_option linter.unusedVariables false
set_option linter.unusedSimpArgs false
namespace Mine
open_top hd11 for PySem.Challenge.rw_dm0257_11

/-- plain data of the abstract states -/
inductive D where
  | none
  | bool (b : Bool)
  | int (i : Int)
  | str (x : Str)
  | tup (ds : List D)
  | lst (k : Nat)
  | ro (ns : List Int)
  | rng (a b c : Int)
  | val (v : Value)

abbrev Lg := List (Addr × Obj)
abbrev tupO (vs : List Value) (n : Nat) : Obj := { cls := .type "tuple", data := .seq vs.toArray n }
abbrev rngO (a b c : Int) (t u v : Tok) : Obj := { cls := .type "range", dict := none, data := .fields #[.int a t, .int b u, .int c v], slots := #[] }

/-- what stays the same through a law's whole call -/
structure Gl where
  prog : Program
  w : World
  K : Frag
  p : Program
  loose : List Str
  mean : ExcName → Option Value
  mg : Str → Option Value
  mb : Str → Option Value
  base : Heap
  os : OsState

/-- a world: the ledger and where the lists lie -/
structure Wd where
  N : Lg
  ρ : List Addr

mutual
inductive Rep (B : Heap) (W : Wd) : Value → D → Prop
  | none : Rep B W .none .none
  | bool (b : Bool) : Rep B W (.bool b) (.bool b)
  | int (i : Int) (t : Tok) : Rep B W (.int i t) (.int i)
  | str (x : Str) (t : Tok) : Rep B W (.str x t) (.str x)
  | tup {a : Addr} {vs : List Value} {n : Nat} {ds : List D} : (a, tupO vs n) ∈ W.N → Reps B W vs ds → Rep B W (.ref a) (.tup ds)
  | lst {a : Addr} {k : Nat} : W.ρ[k]? = some a → Rep B W (.ref a) (.lst k)
  | ro {a : Addr} {vs : List Value} {ns : List Int} : B.IsList a vs.toArray → IntsAre vs ns → Rep B W (.ref a) (.ro ns)
  | rng {r : Addr} {a b c : Int} {t u v : Tok} : (r, rngO a b c t u v) ∈ W.N → Rep B W (.ref r) (.rng a b c)
  | val (v : Value) : Rep B W v (.val v)
inductive Reps (B : Heap) (W : Wd) : List Value → List D → Prop
  | nil : Reps B W [] []
  | cons {v : Value} {vs : List Value} {d : D} {ds : List D} : Rep B W v d → Reps B W vs ds → Reps B W (v :: vs) (d :: ds)
end

structure Wd.Le (W W' : Wd) : Prop where
  rho : ∀ (k : Nat) (a : Addr), W.ρ[k]? = some a → W'.ρ[k]? = some a
  keep : ∀ p ∈ W.N, (p.1 ∉ W.ρ ∨ p.2.cls ≠ .type "list") → p ∈ W'.N
  new : ∀ a ∈ W'.ρ, a ∈ W.ρ ∨ ∀ p ∈ W.N, p.1 ≠ a

theorem Wd.Le.refl (W : Wd) : W.Le W := ⟨fun _ _ h => h, fun _ h _ => h, fun _ h => .inl h⟩
theorem Wd.Le.trans {W₁ W₂ W₃ : Wd} (h₁ : W₁.Le W₂) (h₂ : W₂.Le W₃) : W₁.Le W₃ := by
  have key : ∀ p ∈ W₁.N, (p.1 ∉ W₁.ρ ∨ p.2.cls ≠ .type "list") → (p ∈ W₂.N ∧ (p.1 ∉ W₂.ρ ∨ p.2.cls ≠ .type "list")) := by
    intro p hp hq
    refine ⟨h₁.keep p hp hq, ?_⟩
    rcases hq with hq | hq
    · left
      intro hm
      rcases h₁.new _ hm with h | h
      · exact hq h
      · exact h p hp rfl
    · exact .inr hq
  refine ⟨fun k a h => h₂.rho k a (h₁.rho k a h), fun p hp hq => ?_, fun a ha => ?_⟩
  · obtain ⟨h1, h2⟩ := key p hp hq
    exact h₂.keep p h1 h2
  · rcases h₂.new a ha with h | h
    · exact h₁.new a h
    · by_cases hm : a ∈ W₁.ρ
      · exact .inl hm
      · right
        intro p hp he
        exact h p (h₁.keep p hp (.inl (he ▸ hm))) he

theorem tup_ne_list : Value.type "tuple" ≠ Value.type "list" := by decide
theorem rng_ne_list : Value.type "range" ≠ Value.type "list" := by decide
mutual
theorem Rep.mono {B : Heap} {W W' : Wd} (hl : W.Le W') : ∀ {v : Value} {d : D}, Rep B W v d → Rep B W' v d
  | _, _, .none => .none
  | _, _, .bool b => .bool b
  | _, _, .int i t => .int i t
  | _, _, .str x t => .str x t
  | _, _, .tup h r => .tup (hl.keep _ h (.inr tup_ne_list)) (Reps.mono hl r)
  | _, _, .lst h => .lst (hl.rho _ _ h)
  | _, _, .ro h r => .ro h r
  | _, _, .rng h => .rng (hl.keep _ h (.inr rng_ne_list))
  | _, _, .val v => .val v
theorem Reps.mono {B : Heap} {W W' : Wd} (hl : W.Le W') : ∀ {vs : List Value} {ds : List D}, Reps B W vs ds → Reps B W' vs ds
  | _, _, .nil => .nil
  | _, _, .cons h r => .cons (Rep.mono hl h) (Reps.mono hl r)
end
theorem Reps.length {B : Heap} {W : Wd} : ∀ {vs : List Value} {ds : List D}, Reps B W vs ds → vs.length = ds.length
  | _, _, .nil => rfl
  | _, _, .cons _ r => by rw [List.length_cons, List.length_cons, Reps.length r]
theorem Reps.append {B : Heap} {W : Wd} : ∀ {vs ws : List Value} {ds es : List D}, Reps B W vs ds → Reps B W ws es → Reps B W (vs ++ ws) (ds ++ es)
  | _, _, _, _, .nil, k => k
  | _, _, _, _, .cons h r, k => .cons h (Reps.append r k)
theorem Reps.get {B : Heap} {W : Wd} : ∀ {vs : List Value} {ds : List D}, Reps B W vs ds → ∀ {k : Nat} {d : D}, ds[k]? = some d → ∃ v, vs[k]? = some v ∧ Rep B W v d
  | _, _, .nil, k, d, h => by simp at h
  | _, _, .cons h r, 0, d, e => by
    simp at e
    subst e
    exact ⟨_, rfl, h⟩
  | _, _, .cons _ r, k + 1, d, e => by
    simp at e
    obtain ⟨v, h1, h2⟩ := Reps.get r e
    exact ⟨v, by simpa using h1, h2⟩
theorem Reps.take {B : Heap} {W : Wd} : ∀ {vs : List Value} {ds : List D} (k : Nat), Reps B W vs ds → Reps B W (vs.take k) (ds.take k)
  | _, _, 0, _ => by simpa using Reps.nil
  | _, _, k + 1, .nil => by simpa using Reps.nil
  | _, _, k + 1, .cons h r => by simpa using Reps.cons h (Reps.take k r)
theorem Reps.drop {B : Heap} {W : Wd} : ∀ {vs : List Value} {ds : List D} (k : Nat), Reps B W vs ds → Reps B W (vs.drop k) (ds.drop k)
  | _, _, 0, h => by simpa using h
  | _, _, k + 1, .nil => by simpa using Reps.nil
  | _, _, k + 1, .cons h r => by simpa using Reps.drop k r
theorem Reps.ofInts {B : Heap} {W : Wd} : ∀ {vs : List Value} {ns : List Int}, IntsAre vs ns → Reps B W vs (ns.map D.int)
  | _, _, .nil => .nil
  | _, _, .cons n t r => .cons (.int n t) (Reps.ofInts r)
theorem Reps.ints {B : Heap} {W : Wd} : ∀ {vs : List Value} {ns : List Int}, Reps B W vs (ns.map D.int) → IntsAre vs ns
  | _, [], .nil => .nil
  | _, n :: ns, .cons h r => by
    cases h with
    | int _ t => exact .cons _ t (Reps.ints r)

/-- an abstract state: the locals, the lists, and whether a frame below was noted -/
structure St where
  env : List (Str × D)
  ls : List (List D)
  tn : Bool

/-- one activation of a def -/
structure Ac where
  A₀ : Around
  outer : List Env
  g₀ : Heap
  nm : Str
  sc : Scope
  L : Addr
  fa : Addr
  cd : Value
  hm : Option Value
  room : Nat
  cp : Option (Addr × Str × D)

abbrev Ac.env (c : Ac) : Env := envOf c.nm c.sc c.L c.fa c.cd
abbrev Ac.A (c : Ac) : Around := (c.A₀.deeper c.env).mark c.hm
abbrev Ac.fs (c : Ac) : List Addr := c.outer.filterMap (·.frame)

/-- the names of a comprehension at work -/
def CpOk (B : Heap) (cp : Option (Addr × Str × D)) (W : Wd) : Prop :=
  ∀ C x d, cp = some (C, x, d) → ∃ o es n v, (C, o) ∈ W.N ∧ C ∉ W.ρ ∧ o.data = .dict es n ∧ StrKeys es ∧ nsFind es x = some v ∧ Rep B W v d
theorem CpOk.mono {B : Heap} {cp : Option (Addr × Str × D)} {W W' : Wd} (h : CpOk B cp W) (hl : W.Le W') : CpOk B cp W' := fun C x d e =>
  let ⟨o, es, n, v, h1, h2, h3, h4, h5, h6⟩ := h C x d e
  ⟨o, es, n, v, hl.keep _ h1 (.inl h2), (fun q => (hl.new _ q).elim h2 fun z => z _ h1 rfl), h3, h4, h5, h6.mono hl⟩
theorem CpOk.no {B : Heap} {W : Wd} : CpOk B none W := fun _ _ _ e => by cases e

/-- the exception that is handled, if any: it lies there, its context is None -/
def F2 (h : Heap) (e : Addr) : Prop := ∃ oe vs, h.get? e = some oe ∧ oe.data = .fields vs ∧ vs[2]? = some .none
def HdOk (hd : Option Value) (W : Wd) : Prop := ∀ v, hd = some v → ∃ ea oe vs, v = .ref ea ∧ (ea, oe) ∈ W.N ∧ ea ∉ W.ρ ∧ oe.data = .fields vs ∧ vs[2]? = some .none
theorem HdOk.mono {hd : Option Value} {W W' : Wd} (h : HdOk hd W) (hl : W.Le W') : HdOk hd W' := fun v e =>
  let ⟨ea, oe, vs, h1, h2, h3, h4⟩ := h v e
  ⟨ea, oe, vs, h1, hl.keep _ h2 (.inl h3), (fun q => (hl.new _ q).elim h3 fun z => z _ h2 rfl), h4⟩
theorem HdOk.no {hd : Option Value} {W : Wd} (h : hd = none) : HdOk hd W := fun v e => by rw [h] at e; cases e
structure Core (G : Gl) (c : Ac) (W : Wd) (st : St) (h₀ : Heap) (m : Str → Option Value) : Prop where
  turn : KtsTurn c.fs c.g₀ h₀
  same : st.tn = false → h₀ = c.g₀
  below : Below c.A₀ G.base c.outer h₀
  kin : G.K.In h₀
  top : Top G.p G.loose G.mean G.mg G.mb h₀
  kb : G.K.In G.base
  tb : Top G.p G.loose G.mean G.mg G.mb G.base
  dicts : KtsDicts c.fs h₀
  fn : c.sc.kind = .function
  cpo : CpOk G.base c.cp W
  hdo : HdOk c.A.handled W
  dep : c.A₀.depth + 1 + c.room < recursionLimit
  unt : c.A₀.units + 3 + 8 * c.room + 80 < cLine
  loc : ∀ x d, st.env.lookup x = some d → ∃ v, m x = some v ∧ Rep G.base W v d
  len : W.ρ.length = st.ls.length
  nodup : W.ρ.Nodup
  lists : ∀ (k : Nat) ds, st.ls[k]? = some ds → ∃ a vs n, W.ρ[k]? = some a ∧ (a, listOf vs.toArray n) ∈ W.N ∧ Reps G.base W vs ds

structure Rel (G : Gl) (c : Ac) (W : Wd) (st : St) (h₀ : Heap) (m : Str → Option Value) (s : Shared) : Prop extends Core G c W st h₀ m where
  fr : Fr h₀ c.L s.heap m
  news : News h₀ c.L s.heap W.N
  gens : s.gens = #[]
  os : s.os = G.os

/-- an exception of class cls on its way, in the frame c -/
def Thr (G : Gl) (c : Ac) (W : Wd) (st : St) (cls : String) (fl : Bool) (e : Value) (s' : Shared) : Prop :=
  ∃ ea h₀ m vs, e = .ref ea ∧ s'.gens = #[] ∧ s'.os = G.os ∧ Core G c W st h₀ m ∧
    ((fl = false ∧ ∃ h, Fr h₀ c.L h m ∧ News h₀ c.L h W.N ∧ Heap.MadeExcOf h s'.heap ea (.type cls) vs) ∨
     (fl = true ∧ ∃ g t, Fr h₀ c.L g m ∧ RaisedS G.base g (c.env :: c.outer) ea (.type cls) t vs W.N s'.heap ∧ g.UpToSlots s'.heap ∧ F2 s'.heap ea))

abbrev XPost := String → Bool → St → Prop
def XP (G : Gl) (c : Ac) (W : Wd) (X : XPost) (e : Value) (s' : Shared) : Prop :=
  ∃ W' st' cls fl, W.Le W' ∧ Thr G c W' st' cls fl e s' ∧ X cls fl st'
def QP {α β : Type} (R : Heap → Wd → α → β → Prop) (G : Gl) (c : Ac) (W : Wd) (P : β → St → Prop) (a : α) (s' : Shared) : Prop :=
  ∃ W' st' b h₀ m, W.Le W' ∧ Rel G c W' st' h₀ m s' ∧ R G.base W' a b ∧ P b st'

/-- the abstract wp -/
def AW {α β : Type} (R : Heap → Wd → α → β → Prop) (G : Gl) (c : Ac) (t : Sem α) (st : St) (P : β → St → Prop) (X : XPost) : Prop :=
  ∀ W s h₀ m, Rel G c W st h₀ m s → wpAny (model G.prog G.w) c.A t (QP R G c W P) (XP G c W X) s

inductive AF where
  | next | brk | cont
  | ret (d : D)
inductive RepF (B : Heap) (W : Wd) : Flow → AF → Prop
  | next : RepF B W .next .next
  | brk : RepF B W .brk .brk
  | cont : RepF B W .cont .cont
  | ret {v : Value} {d : D} : Rep B W v d → RepF B W (.ret v) (.ret d)
def RepB (_ : Heap) (_ : Wd) (a b : Bool) : Prop := a = b
def RepU (_ : Heap) (_ : Wd) (_ _ : Unit) : Prop := True

abbrev AE := @AW Value D Rep
abbrev AS := @AW Flow AF RepF
abbrev AB := @AW Bool Bool RepB
abbrev AU := @AW Unit Unit RepU
abbrev AL := @AW (List Value) (List D) Reps

theorem XP.le {G : Gl} {c : Ac} {W W' : Wd} {X : XPost} {e : Value} {s : Shared} (hl : W.Le W') (h : XP G c W' X e s) : XP G c W X e s := by
  obtain ⟨W₂, st, cls, fl, h1, h2, h3⟩ := h
  exact ⟨W₂, st, cls, fl, hl.trans h1, h2, h3⟩
theorem QP.le {α β : Type} {R : Heap → Wd → α → β → Prop} {G : Gl} {c : Ac} {W W' : Wd} {P : β → St → Prop} {a : α} {s : Shared} (hl : W.Le W') (h : QP R G c W' P a s) : QP R G c W P a s := by
  obtain ⟨W₂, st, b, h₀, m, h1, h2, h3⟩ := h
  exact ⟨W₂, st, b, h₀, m, hl.trans h1, h2, h3⟩

/-- the one bind: behind a step, from the world that it leaves -/
theorem AW.step {α β : Type} {R : Heap → Wd → α → β → Prop} {G : Gl} {c : Ac} {t : Sem α} {st : St} {P : β → St → Prop} {X : XPost}
    (h : AW R G c t st P X) {W₀ W : Wd} {s : Shared} {h₀ : Heap} {m : Str → Option Value} (hl : W₀.Le W) (hr : Rel G c W st h₀ m s) {Q : α → Shared → Prop} {E : Value → Shared → Prop}
    (hE : ∀ e s', XP G c W₀ X e s' → E e s')
    (hQ : ∀ W' st' b h₀' m' a s', W₀.Le W' → W.Le W' → Rel G c W' st' h₀' m' s' → R G.base W' a b → P b st' → Q a s') :
    wpAny (model G.prog G.w) c.A t Q E s := by
  refine wpAny_mono (h W s h₀ m hr) (fun a s' hq => ?_) fun e s' hx => hE e s' (hx.le hl)
  obtain ⟨W', st', b, h₀', m', l, r, rp, p⟩ := hq
  exact hQ W' st' b h₀' m' a s' (hl.trans l) l r rp p

theorem AW.mono {α β : Type} {R : Heap → Wd → α → β → Prop} {G : Gl} {c : Ac} {t : Sem α} {st : St} {P P' : β → St → Prop} {X X' : XPost}
    (h : AW R G c t st P X) (hP : ∀ b st', P b st' → P' b st') (hX : ∀ cls fl st', X cls fl st' → X' cls fl st') : AW R G c t st P' X' := by
  intro W s h₀ m hr
  refine wpAny_mono (h W s h₀ m hr) (fun a s' hq => ?_) fun e s' hx => ?_
  · obtain ⟨W', st', b, h₀', m', l, r, rp, p⟩ := hq
    exact ⟨W', st', b, h₀', m', l, r, rp, hP _ _ p⟩
  · obtain ⟨W', st', cls, fl, l, th, x⟩ := hx
    exact ⟨W', st', cls, fl, l, th, hX _ _ _ x⟩

theorem Rel.less {G : Gl} {c : Ac} {W : Wd} {st : St} {h₀ : Heap} {m : Str → Option Value} {s : Shared} (h : Rel G c W st h₀ m s) {env : List (Str × D)} (he : ∀ x d, env.lookup x = some d → st.env.lookup x = some d) :
    Rel G c W { st with env := env } h₀ m s := { h with loc := fun x d e => h.loc x d (he x d e), same := h.same }
theorem AW.less {α β : Type} {R : Heap → Wd → α → β → Prop} {G : Gl} {c : Ac} {t : Sem α} {st : St} {P : β → St → Prop} {X : XPost} {env : List (Str × D)}
    (h : AW R G c t { st with env := env } P X) (he : ∀ x d, env.lookup x = some d → st.env.lookup x = some d) : AW R G c t st P X :=
  fun W s h₀ m hr => h W s h₀ m (hr.less he)

/-- the state's tokens do not matter -/
theorem Rel.toks {G : Gl} {c : Ac} {W : Wd} {st : St} {h₀ : Heap} {m : Str → Option Value} {s : Shared} (h : Rel G c W st h₀ m s) (k : Nat) : Rel G c W st h₀ m { s with toks := k } := { h with fr := h.fr, news := h.news, gens := h.gens, os := h.os }
theorem Rel.rest {G : Gl} {c : Ac} {W : Wd} {st : St} {h₀ : Heap} {m : Str → Option Value} {s : Shared} (h : Rel G c W st h₀ m s) {h' : Heap} (hf : Fr h₀ c.L h' m) (hn : News h₀ c.L h' W.N) (k : Nat) : Rel G c W st h₀ m { s with heap := h', toks := k } :=
  { h with fr := hf, news := hn, gens := h.gens, os := h.os }

/-- the locals as they are set -/
def idxE (env : List (Str × D)) (x : Str) : Option Nat := env.findIdx? (·.1 == x)
def setI (env : List (Str × D)) (x : Str) (d : D) : Option Nat → List (Str × D)
  | some k => env.set k (x, d)
  | none => env ++ [(x, d)]
theorem setI_lookup {env : List (Str × D)} {x : Str} {d : D} {i : Option Nat} (hi : idxE env x = i) (y : Str) (e : D) (h : (setI env x d i).lookup y = some e) : (y = x ∧ e = d) ∨ (y ≠ x ∧ env.lookup y = some e) := by
  subst hi
  induction env with
  | nil =>
    simp only [idxE, List.findIdx?_nil, setI, List.nil_append, List.lookup_cons, List.lookup_nil] at h
    split at h
    · rename_i q
      left
      exact ⟨by simpa using q, by simpa using h.symm⟩
    · cases h
  | cons p r ih =>
    obtain ⟨z, e'⟩ := p
    by_cases hz : z = x
    · subst hz
      have : idxE ((z, e') :: r) z = some 0 := by simp [idxE, List.findIdx?_cons]
      rw [this] at h
      simp only [setI, List.set_cons_zero, List.lookup_cons] at h
      by_cases hy : y = z
      · subst hy
        left
        simp at h
        exact ⟨rfl, h.symm⟩
      · right
        refine ⟨hy, ?_⟩
        have hb : (y == z) = false := by simpa using hy
        simp only [hb] at h
        rw [List.lookup_cons, hb]
        exact h
    · have hb : (z == x) = false := by simpa using hz
      have key : setI ((z, e') :: r) x d (idxE ((z, e') :: r) x) = (z, e') :: setI r x d (idxE r x) := by
        unfold idxE
        rw [List.findIdx?_cons]
        simp only [hb]
        cases List.findIdx? (fun q : Str × D => q.1 == x) r <;> simp [setI]
      rw [key, List.lookup_cons] at h
      by_cases hy : y = z
      · subst hy
        simp at h
        right
        refine ⟨hz, ?_⟩
        rw [List.lookup_cons]
        simp [h]
      · have hby : (y == z) = false := by simpa using hy
        simp only [hby] at h
        rcases ih h with q | q
        · exact .inl q
        · right
          refine ⟨q.1, ?_⟩
          rw [List.lookup_cons, hby]
          exact q.2

section
variable {G : Gl} {c : Ac} {st : St} {X : XPost}

/-- a step over values that are at hand -/
def A1 {α β : Type} (R : Heap → Wd → α → β → Prop) (G : Gl) (c : Ac) (f : Value → Sem α) (d : D) (st : St) (P : β → St → Prop) (X : XPost) : Prop :=
  ∀ W s h₀ m v, Rel G c W st h₀ m s → Rep G.base W v d → wpAny (model G.prog G.w) c.A (f v) (QP R G c W P) (XP G c W X) s
def A2 {α β : Type} (R : Heap → Wd → α → β → Prop) (G : Gl) (c : Ac) (f : Value → Value → Sem α) (d e : D) (st : St) (P : β → St → Prop) (X : XPost) : Prop :=
  ∀ W s h₀ m v u, Rel G c W st h₀ m s → Rep G.base W v d → Rep G.base W u e → wpAny (model G.prog G.w) c.A (f v u) (QP R G c W P) (XP G c W X) s
def AN {α β : Type} (R : Heap → Wd → α → β → Prop) (G : Gl) (c : Ac) (f : List Value → Sem α) (ds : List D) (st : St) (P : β → St → Prop) (X : XPost) : Prop :=
  ∀ W s h₀ m vs, Rel G c W st h₀ m s → Reps G.base W vs ds → wpAny (model G.prog G.w) c.A (f vs) (QP R G c W P) (XP G c W X) s
abbrev AT := A1 RepB (f := truthy)
abbrev EV1 := @A1 Value D Rep
abbrev EV2 := @A2 Value D Rep
abbrev EVN := @AN Value D Rep

theorem Rel.here {α β : Type} {R : Heap → Wd → α → β → Prop} {W : Wd} {h₀ : Heap} {m : Str → Option Value} {s : Shared} {P : β → St → Prop} {a : α} {b : β} (h : Rel G c W st h₀ m s) (k : Nat) (hr : R G.base W a b) (hp : P b st) :
    QP R G c W P a { s with toks := k } := ⟨W, st, b, h₀, m, .refl W, h.toks k, hr, hp⟩
theorem Rel.here0 {α β : Type} {R : Heap → Wd → α → β → Prop} {W : Wd} {h₀ : Heap} {m : Str → Option Value} {s : Shared} {P : β → St → Prop} {a : α} {b : β} (h : Rel G c W st h₀ m s) (hr : R G.base W a b) (hp : P b st) :
    QP R G c W P a s := ⟨W, st, b, h₀, m, .refl W, h, hr, hp⟩

/-! names and constants -/
variable {P : D → St → Prop}
theorem ae_name {x : Str} {pos : Pos} {d : D} (he : st.env.lookup x = some d) (hp : P d st)
    (hl : c.env.kindOf x = some .local := by rfl) (hd : (x == ("__debug__" : Str)) = false := by rfl) : AE G c (eval (.Name x pos) c.env) st P X := by
  intro W s h₀ m h
  obtain ⟨v, hv, hr⟩ := h.loc x d he
  exact ld h.fr hv (h.here0 hr hp) h.fn hl hd
theorem ae_global {x : Str} {pos : Pos} {v : Value} {d : D} (e : nsIn G.K mainGlobals x = some (some v)) (hr : G.K.In G.base → ∀ W, Rep G.base W v d) (hp : P d st)
    (hx : c.env.kindOf x = some .globalImplicit := by rfl) (hd : (x == ("__debug__" : Str)) = false := by rfl) : AE G c (eval (.Name x pos) c.env) st P X := by
  intro W s h₀ m h
  exact name_K h.fr h.kin (topRead_of h.top) e (h.here0 (hr h.kb W) hp) h.fn hx hd
theorem ae_builtin {x : Str} {pos : Pos} {v : Value} (e : nsIn G.K mainGlobals x = some none) (hv : bootBuiltins x = some v) (hp : P (.val v) st)
    (hn : x ≠ "__name__" := by decide) (hx : c.env.kindOf x = some .globalImplicit := by rfl) (hd : (x == ("__debug__" : Str)) = false := by rfl) : AE G c (eval (.Name x pos) c.env) st P X := by
  intro W s h₀ m h
  exact name_B h.fr h.kin (topRead_of h.top) e hv hn (h.here0 (.val v) hp) h.fn hx hd
theorem ae_int {i : Int} {k : Nat} {pos : Pos} {env : Env} (hp : P (.int i) st) : AE G c (eval (.Constant (.int i) k pos) env) st P X :=
  fun _ s _ _ h => wpAny_Constant_int (h.here _ (.int i s.toks) hp)
theorem ae_str {x : Str} {k : Nat} {pos : Pos} {env : Env} (hp : P (.str x) st) : AE G c (eval (.Constant (.str x) k pos) env) st P X :=
  fun _ s _ _ h => Calls.Constant_str (h.here _ (.str x s.toks) hp)
theorem ae_bool {b : Bool} {k : Nat} {pos : Pos} {env : Env} (hp : P (.bool b) st) : AE G c (eval (.Constant (.bool b) k pos) env) st P X :=
  fun _ _ _ _ h => Constant_bool (h.here0 (.bool b) hp)
/-! operators -/
theorem ae_binop {l r : Expr} {op : Operator} {pos : Pos} {env : Env} (h : AE G c (eval l env) st (fun d st₁ => AE G c (eval r env) st₁ (fun e st₂ => EV2 G c (binaryOp op) d e st₂ P X) X) X) :
    AE G c (eval (.BinOp l op r pos) env) st P X := by
  intro W s h₀ m hr
  refine wpAny_BinOp (h.step (.refl W) hr (fun _ _ x => x) fun W₁ st₁ d _ _ v s₁ l₁ _ r₁ p₁ h₁ => ?_)
  refine h₁.step l₁ r₁ (fun _ _ x => x) fun W₂ st₂ e _ _ u s₂ l₂ k₂ r₂ p₂ h₂ => ?_
  exact wpAny_mono (h₂ W₂ s₂ _ _ v u r₂ (p₁.mono k₂) p₂) (fun _ _ q => q.le l₂) fun _ _ x => x.le l₂
theorem ae_cmp {l r : Expr} {op : CmpOp} {pos : Pos} {env : Env} (h : AE G c (eval l env) st (fun d st₁ => AE G c (eval r env) st₁ (fun e st₂ => EV2 G c (compareOp op) d e st₂ P X) X) X)
    (hm : behindInMarks op r = false := by with_unfolding_all rfl) : AE G c (eval (.Compare l [op] [r] pos) env) st P X := by
  intro W s h₀ m hr
  refine wpAny_Compare1 (h.step (.refl W) hr (fun _ _ x => x) fun W₁ st₁ d _ _ v s₁ l₁ _ r₁ p₁ h₁ => ?_) hm
  refine h₁.step l₁ r₁ (fun _ _ x => x) fun W₂ st₂ e _ _ u s₂ l₂ k₂ r₂ p₂ h₂ => ?_
  exact wpAny_mono (h₂ W₂ s₂ _ _ v u r₂ (p₁.mono k₂) p₂) (fun _ _ q => q.le l₂) fun _ _ x => x.le l₂
theorem ae_ifexp {t a b : Expr} {pos : Pos} {env : Env} (h : AB G c (isTrue t env (eval t env)) st (fun q st₁ => (q = true → AE G c (eval a env) st₁ P X) ∧ (q = false → AE G c (eval b env) st₁ P X)) X) :
    AE G c (eval (.IfExp t a b pos) env) st P X := by
  intro W s h₀ m hr
  refine IfExp_ (h.step (.refl W) hr (fun _ _ x => x) fun W₁ st₁ d _ _ v s₁ l₁ _ r₁ p₁ h₁ => ?_)
  have hv : v = d := p₁
  subst hv
  cases v with
  | true => exact wpAny_mono (h₁.1 rfl W₁ s₁ _ _ r₁) (fun _ _ q => q.le l₁) fun _ _ x => x.le l₁
  | false => exact wpAny_mono (h₁.2 rfl W₁ s₁ _ _ r₁) (fun _ _ q => q.le l₁) fun _ _ x => x.le l₁
theorem ae_and {a b : Expr} {r : List Expr} {pos : Pos} {env : Env} (h : AE G c (eval a env) st (fun d st₁ => AT G c d st₁ (fun q st₂ => (q = true → AE G c (eval (.BoolOp .And (b :: r) pos) env) st₂ P X) ∧ (q = false → P d st₂)) X) X) :
    AE G c (eval (.BoolOp .And (a :: b :: r) pos) env) st P X := by
  intro W s h₀ m hr
  refine BoolOp_and (h.step (.refl W) hr (fun _ _ x => x) fun W₁ st₁ d _ _ v s₁ l₁ _ r₁ p₁ h₁ => ?_)
  refine wpAny_mono (h₁ W₁ s₁ _ _ v r₁ p₁) (fun q s₂ hq => ?_) fun _ _ x => x.le l₁
  obtain ⟨W₂, st₂, q', _, _, l₂, r₂, e, hh⟩ := hq
  have hv : q = q' := e
  subst hv
  cases q with
  | true => exact wpAny_mono (hh.1 rfl W₂ s₂ _ _ r₂) (fun _ _ q => q.le (l₁.trans l₂)) fun _ _ x => x.le (l₁.trans l₂)
  | false => exact ⟨W₂, st₂, d, _, _, l₁.trans l₂, r₂, p₁.mono l₂, hh.2 rfl⟩
theorem ae_or {a b : Expr} {r : List Expr} {pos : Pos} {env : Env} (h : AE G c (eval a env) st (fun d st₁ => AT G c d st₁ (fun q st₂ => (q = true → P d st₂) ∧ (q = false → AE G c (eval (.BoolOp .Or (b :: r) pos) env) st₂ P X)) X) X) :
    AE G c (eval (.BoolOp .Or (a :: b :: r) pos) env) st P X := by
  intro W s h₀ m hr
  refine BoolOp_or (h.step (.refl W) hr (fun _ _ x => x) fun W₁ st₁ d _ _ v s₁ l₁ _ r₁ p₁ h₁ => ?_)
  refine wpAny_mono (h₁ W₁ s₁ _ _ v r₁ p₁) (fun q s₂ hq => ?_) fun _ _ x => x.le l₁
  obtain ⟨W₂, st₂, q', _, _, l₂, r₂, e, hh⟩ := hq
  have hv : q = q' := e
  subst hv
  cases q with
  | false => exact wpAny_mono (hh.2 rfl W₂ s₂ _ _ r₂) (fun _ _ q => q.le (l₁.trans l₂)) fun _ _ x => x.le (l₁.trans l₂)
  | true => exact ⟨W₂, st₂, d, _, _, l₁.trans l₂, r₂, p₁.mono l₂, hh.1 rfl⟩
theorem ae_bool1 {op : BoolOp} {a : Expr} {pos : Pos} {env : Env} (h : AE G c (eval a env) st P X) : AE G c (eval (.BoolOp op [a] pos) env) st P X :=
  fun W s h₀ m hr => BoolOp_one (h W s h₀ m hr)

/-! chains of comparisons -/
end
section
variable {G : Gl} {c : Ac} {st : St} {X : XPost} {P : Bool → St → Prop}
theorem ab_chain2 {l r₁ r₂ : Expr} {op₁ op₂ : CmpOp} {pos : Pos} {env : Env} {whole : Sem Value}
    (h : AE G c (eval l env) st (fun d st₁ => AE G c (eval r₁ env) st₁ (fun e st₂ => EV2 G c (compareOp op₁) d e st₂ (fun b st₃ => AT G c b st₃ (fun q st₄ =>
      (q = true → AE G c (eval r₂ env) st₄ (fun f st₅ => EV2 G c (compareOp op₂) e f st₅ (fun b' st₆ => AT G c b' st₆ P X) X) X) ∧ (q = false → P false st₄)) X) X) X) X)
    (hm : lastMarks [op₁, op₂] [r₁, r₂] = false := by with_unfolding_all rfl) : AB G c (isTrue (.Compare l [op₁, op₂] [r₁, r₂] pos) env whole) st P X := by
  intro W s h₀ m hr
  refine isTrue_chain (h.step (.refl W) hr (fun _ _ x => x) fun W₁ st₁ d _ _ v s₁ l₁ _ R₁ p₁ h₁ => ?_) hm
  refine test_link (h₁.step l₁ R₁ (fun _ _ x => x) fun W₂ st₂ e _ _ u s₂ l₂ k₂ R₂ p₂ h₂ => ?_)
  refine wpAny_mono (h₂ W₂ s₂ _ _ v u R₂ (p₁.mono k₂) p₂) (fun b s₃ hq => ?_) fun _ _ x => x.le l₂
  obtain ⟨W₃, st₃, b', _, _, l₃, R₃, p₃, h₃⟩ := hq
  refine wpAny_mono (h₃ W₃ s₃ _ _ b R₃ p₃) (fun q s₄ hq => ?_) fun _ _ x => x.le (l₂.trans l₃)
  obtain ⟨W₄, st₄, q', _, _, l₄, R₄, e₄, h₄⟩ := hq
  have hv : q = q' := e₄
  subst hv
  have L4 := (l₂.trans l₃).trans l₄
  cases q with
  | false => exact ⟨W₄, st₄, false, _, _, L4, R₄, rfl, h₄.2 rfl⟩
  | true =>
    refine test_last ((h₄.1 rfl).step L4 R₄ (fun _ _ x => x) fun W₅ st₅ f _ _ z s₅ l₅ k₅ R₅ p₅ h₅ => ?_)
    refine wpAny_mono (h₅ W₅ s₅ _ _ u z R₅ (((p₂.mono l₃).mono l₄).mono k₅) p₅) (fun b s₆ hq => ?_) fun _ _ x => x.le l₅
    obtain ⟨W₆, st₆, b'', _, _, l₆, R₆, p₆, h₆⟩ := hq
    exact wpAny_mono (h₆ W₆ s₆ _ _ b R₆ p₆) (fun _ _ q => q.le (l₅.trans l₆)) fun _ _ x => x.le (l₅.trans l₆)
theorem ab_cmp {l r : Expr} {op : CmpOp} {pos : Pos} {env : Env} {whole : Sem Value} (h : AE G c (eval l env) st (fun d st₁ => AE G c (eval r env) st₁ (fun e st₂ => EV2 G c (compareOp op) d e st₂ (fun b st₃ => AT G c b st₃ P X) X) X) X)
    (hm : behindInMarks op r = false := by with_unfolding_all rfl) : AB G c (isTrue (.Compare l [op] [r] pos) env whole) st P X := by
  intro W s h₀ m hr
  refine wpAny_isTrue_Compare1 (h.step (.refl W) hr (fun _ _ x => x) fun W₁ st₁ d _ _ v s₁ l₁ _ r₁ p₁ h₁ => ?_) hm
  refine h₁.step l₁ r₁ (fun _ _ x => x) fun W₂ st₂ e _ _ u s₂ l₂ k₂ r₂ p₂ h₂ => ?_
  refine wpAny_mono (h₂ W₂ s₂ _ _ v u r₂ (p₁.mono k₂) p₂) (fun b s₃ hq => ?_) fun _ _ x => x.le l₂
  obtain ⟨W₃, st₃, b', _, _, l₃, R₃, p₃, h₃⟩ := hq
  exact wpAny_mono (h₃ W₃ s₃ _ _ b R₃ p₃) (fun _ _ q => q.le (l₂.trans l₃)) fun _ _ x => x.le (l₂.trans l₃)
theorem ab_not {e : Expr} {pos : Pos} {env : Env} {whole : Sem Value} (h : AB G c (isTrue e env (eval e env)) st (fun b st₁ => P (!b) st₁) X) : AB G c (isTrue (.UnaryOp .Not e pos) env whole) st P X := by
  intro W s h₀ m hr
  refine isTrue_not (wpAny_mono (h W s h₀ m hr) (fun b s₁ hq => ?_) fun _ _ x => x)
  obtain ⟨W₁, st₁, b', _, _, l₁, R₁, e₁, h₁⟩ := hq
  have hv : b = b' := e₁
  subst hv
  exact ⟨W₁, st₁, _, _, _, l₁, R₁, rfl, h₁⟩
theorem ab_and {e : Expr} {r : List Expr} {pos : Pos} {env : Env} {whole : Sem Value} (h : AB G c (isTrue e env (eval e env)) st (fun b st₁ => (b = true → AB G c (isTrue (.BoolOp .And r pos) env whole) st₁ P X) ∧ (b = false → P false st₁)) X) :
    AB G c (isTrue (.BoolOp .And (e :: r) pos) env whole) st P X := by
  intro W s h₀ m hr
  refine isTrue_and (wpAny_mono (h W s h₀ m hr) (fun b s₁ hq => ?_) fun _ _ x => x)
  obtain ⟨W₁, st₁, b', _, _, l₁, R₁, e₁, h₁⟩ := hq
  have hv : b = b' := e₁
  subst hv
  cases b with
  | false => exact ⟨W₁, st₁, _, _, _, l₁, R₁, rfl, h₁.2 rfl⟩
  | true => exact wpAny_mono (h₁.1 rfl W₁ s₁ _ _ R₁) (fun _ _ q => q.le l₁) fun _ _ x => x.le l₁
theorem ab_or {e : Expr} {r : List Expr} {pos : Pos} {env : Env} {whole : Sem Value} (h : AB G c (isTrue e env (eval e env)) st (fun b st₁ => (b = true → P true st₁) ∧ (b = false → AB G c (isTrue (.BoolOp .Or r pos) env whole) st₁ P X)) X) :
    AB G c (isTrue (.BoolOp .Or (e :: r) pos) env whole) st P X := by
  intro W s h₀ m hr
  refine isTrue_or (wpAny_mono (h W s h₀ m hr) (fun b s₁ hq => ?_) fun _ _ x => x)
  obtain ⟨W₁, st₁, b', _, _, l₁, R₁, e₁, h₁⟩ := hq
  have hv : b = b' := e₁
  subst hv
  cases b with
  | true => exact ⟨W₁, st₁, _, _, _, l₁, R₁, rfl, h₁.1 rfl⟩
  | false => exact wpAny_mono (h₁.2 rfl W₁ s₁ _ _ R₁) (fun _ _ q => q.le l₁) fun _ _ x => x.le l₁
theorem ab_and_nil {pos : Pos} {env : Env} {whole : Sem Value} (h : P true st) : AB G c (isTrue (.BoolOp .And [] pos) env whole) st P X :=
  fun _ _ _ _ hr => isTrue_and_nil (hr.here0 rfl h)
theorem ab_or_nil {pos : Pos} {env : Env} {whole : Sem Value} (h : P false st) : AB G c (isTrue (.BoolOp .Or [] pos) env whole) st P X :=
  fun _ _ _ _ hr => isTrue_or_nil (hr.here0 rfl h)
theorem ab_plain {e : Expr} {env : Env} {whole : Sem Value} (h : AE G c whole st (fun d st₁ => AT G c d st₁ P X) X) (he : isTrue e env whole = (do let v ← whole; standAt e.pos; holding [v] (truthy v)) := by rfl) :
    AB G c (isTrue e env whole) st P X := by
  intro W s h₀ m hr
  refine isTrue_plain (h.step (.refl W) hr (fun _ _ x => x) fun W₁ st₁ d _ _ v s₁ l₁ _ R₁ p₁ h₁ => ?_) he
  exact wpAny_mono (h₁ W₁ s₁ _ _ v R₁ p₁) (fun _ _ q => q.le l₁) fun _ _ x => x.le l₁

/-! truth -/
theorem at_bool {b : Bool} (h : P b st) : AT G c (.bool b) st P X := by
  intro W s h₀ m v hr hv
  cases hv
  exact wpAny_truthy_bool (hr.here0 rfl h)
end

section
variable {G : Gl} {c : Ac} {st : St} {X : XPost} {P : D → St → Prop}
/-! ints -/
theorem ev_add {a b : Int} (h : P (.int (a + b)) st) : EV2 G c (binaryOp .Add) (.int a) (.int b) st P X := by
  intro W s h₀ m v u hr hv hu
  cases hv; cases hu
  exact PyProof.Rows.add_int (hr.here _ (.int _ _) h)
theorem ev_sub {a b : Int} (h : P (.int (a - b)) st) : EV2 G c (binaryOp .Sub) (.int a) (.int b) st P X := by
  intro W s h₀ m v u hr hv hu
  cases hv; cases hu
  exact PyProof.Rows.sub_int (hr.here _ (.int _ _) h)
theorem ev_mul {a b : Int} (h : P (.int (a * b)) st) (hm : IntMulOk a b) : EV2 G c (binaryOp .Mult) (.int a) (.int b) st P X := by
  intro W s h₀ m v u hr hv hu
  cases hv; cases hu
  exact PyProof.Rows.mul_int (hr.here _ (.int _ _) h) hm
theorem ev_mod {a b : Int} (hb : 0 < b) (h : P (.int (a % b)) st) : EV2 G c (binaryOp .Mod) (.int a) (.int b) st P X := by
  intro W s h₀ m v u hr hv hu
  cases hv; cases hu
  refine PyProof.Rows.mod_int (by omega) ?_
  rw [Int.fmod_eq_emod_of_nonneg _ (by omega)]
  exact hr.here _ (.int _ _) h
theorem ev_div {a b : Int} (hb : 0 < b) (hq : b < 1073741824) (h : P (.int (a / b)) st) : EV2 G c (binaryOp .FloorDiv) (.int a) (.int b) st P X := by
  intro W s h₀ m v u hr hv hu
  cases hv; cases hu
  refine PyProof.Rows.floordiv_int (by omega) ?_ (.inl (PyProof.noPylong_small (by omega)))
  rw [Int.fdiv_eq_ediv_of_nonneg _ (by omega)]
  exact hr.here _ (.int _ _) h
theorem ev_lt {a b : Int} (h : P (.bool (decide (a < b))) st) : EV2 G c (compareOp .Lt) (.int a) (.int b) st P X := by
  intro W s h₀ m v u hr hv hu
  cases hv; cases hu
  exact PyProof.Rows.lt_int (hr.here0 (.bool _) h)
theorem ev_le {a b : Int} (h : P (.bool (decide (a ≤ b))) st) : EV2 G c (compareOp .LtE) (.int a) (.int b) st P X := by
  intro W s h₀ m v u hr hv hu
  cases hv; cases hu
  exact PyProof.Rows.le_int (hr.here0 (.bool _) h)
theorem ev_gt {a b : Int} (h : P (.bool (decide (b < a))) st) : EV2 G c (compareOp .Gt) (.int a) (.int b) st P X := by
  intro W s h₀ m v u hr hv hu
  cases hv; cases hu
  exact PyProof.Rows.gt_int (hr.here0 (.bool _) h)
theorem ev_eq {a b : Int} (h : P (.bool (decide (a = b))) st) : EV2 G c (compareOp .Eq) (.int a) (.int b) st P X := by
  intro W s h₀ m v u hr hv hu
  cases hv; cases hu
  exact PyProof.Rows.eq_int (hr.here0 (.bool _) h)
theorem ev_ne {a b : Int} (h : P (.bool (decide (a ≠ b))) st) : EV2 G c (compareOp .NotEq) (.int a) (.int b) st P X := by
  intro W s h₀ m v u hr hv hu
  cases hv; cases hu
  refine PyProof.Rows.ne_int (hr.here0 (b := .bool (decide (a ≠ b))) ?_ h)
  have : (a != b) = decide (a ≠ b) := by by_cases q : a = b <;> simp [q]
  rw [this]
  exact .bool _
theorem ev_shr {a b : Int} (hn : 0 ≤ b) (h : P (.int (a / (2 ^ b.toNat))) st) : EV2 G c (binaryOp .RShift) (.int a) (.int b) st P X := by
  intro W s h₀ m v u hr hv hu
  cases hv; cases hu
  refine PyProof.Rows.rshift_int hn ?_
  rw [Int.fdiv_eq_ediv_of_nonneg _ (by exact Int.le_of_lt (Int.pow_pos (by decide)))]
  exact hr.here _ (.int _ _) h
/-! texts -/
end

/-! an exception on its way keeps its context -/
section
variable {M : Model} {A : Around} {E : Value → Shared → Prop} {s : Shared}
theorem entry2 {base : Heap} {env : Env} {outer : List Env} {L e : Addr} {oe : Obj} {vs : Array Value} {head a0 : Value} {hadNext : Bool} {Q : Unit → Shared → Prop}
    (hfr : A.frames = some (env :: outer)) (hl : s.heap.FunFrames base (env :: outer)) (hf : env.frame = some L)
    (he : s.heap.get? e = some oe) (hkb : base.StaysIn s.heap) (hen : base.get? e = none) (hd : oe.data = .fields vs) (hsz : 1 < vs.size) (h0 : vs[0]? = some a0) (h2 : vs[2]? = some .none)
    (h : ∀ h', Heap.NotedW base (env :: outer) e oe.cls a0 (rawInt L) s.heap h' → F2 h' e → Q () { s with heap := h' }) :
    wpAny M A (do let a ← frameOf env; let pl ← entryPlaceOf L hadNext; let b ← EntryCells.newEntry head a .none (rawInt L) .none pl; setField (.ref e) 1 b) Q E s := by
  have hene : e ∉ (env :: outer).filterMap (·.frame) := fun hm => by
    obtain ⟨_, o, ho, hnf⟩ := hl.mem hm
    rw [he] at ho
    injection ho with ho
    subst ho
    exact hnf vs hd
  refine wpAny_bind (wpAny_frameOf_fun hfr hl hf fun h₁ hs₁ => ?_)
  refine wpAny_bind (wpAny_entryPlaceOf fun pl hpl => ?_)
  unfold EntryCells.newEntry newFields
  refine wpAny_bind (wpAny_newObj_type ?_ (hpl.sizeOk5 _ _ _ _ _))
  generalize hT : ({ cls := .type "traceback", dict := none, data := .fields ([head, .ref L, .none, rawInt L, .none] ++ (if pl.isEmpty then List.replicate 6 Value.none else pl)).toArray } : Obj) = oT
  have he₁ : h₁.get? e = some oe := (hs₁.2.1 e hene).trans he
  have kb₁ : base.StaysIn h₁ := fun b o hbo => (hs₁.2.1 b fun hm => by rw [(hl.mem hm).1] at hbo; cases hbo).trans (hkb b o hbo)
  have he₂ := Heap.get?_push_of_some (h := h₁) oT he₁
  refine wpAny_setField he₂ hd hsz ?_
  have hTe : h₁.objs.size ≠ e := Nat.ne_of_gt (Heap.lt_size he₁)
  have hd₃ := Obj.data_mapFields hd (·.setIfInBounds 1 (Value.ref h₁.objs.size))
  have he₃ := Heap.get?_update_self (Obj.mapFields (·.setIfInBounds 1 (Value.ref h₁.objs.size))) he₂ (Obj.isFreed_of_fields hd₃)
  have hT₃ : ((h₁.push oT).update e (Obj.mapFields (·.setIfInBounds 1 (Value.ref h₁.objs.size)))).get? h₁.objs.size = some oT :=
    (Heap.get?_update_other (h₁.push oT) _ (Ne.symm hTe)).trans (Heap.get?_push_size h₁ (by rw [← hT]; rfl))
  have keep : ∀ b o, b ≠ e → h₁.get? b = some o → ((h₁.push oT).update e (Obj.mapFields (·.setIfInBounds 1 (Value.ref h₁.objs.size)))).get? b = some o := fun b o hbe hb => by
    rw [Heap.get?_update_other _ _ (Ne.symm hbe)]
    exact Heap.get?_push_of_some _ hb
  have noRecord : ∀ b o, s.heap.get? b = some o → (∀ vs, o.data ≠ .fields vs) → b ≠ e := fun b o hb hnf q => by
    rw [q, he] at hb
    injection hb with hb
    subst hb
    exact hnf vs hd
  refine h _ ⟨fun b o hbo => keep b o (fun q => by rw [q, hen] at hbo; cases hbo) (kb₁ b o hbo), hl.of_keeps fun b o hb hnf => ?_, ?_, fun b o hb hnf => ?_⟩ ⟨_, _, he₃, hd₃, ?_⟩
  · obtain ⟨sl, hs⟩ := hs₁.2.2 b o hb
    exact ⟨_, keep b _ (noRecord b o hb hnf) hs, rfl⟩
  · subst hT
    exact ⟨_, _, h₁.objs.size, _, _, he₃, ⟨Obj.cls_mapFields _ _, by rw [Array.getElem?_setIfInBounds_ne (by decide)]; exact h0⟩, hd₃, by simp [hsz], kb₁.fresh, hTe, hT₃, rfl, by first | (simp; done) | (rcases hpl with rfl | ⟨_, _, _, _, _, _, _, rfl⟩ <;> simp)⟩
  · obtain ⟨sl, hs⟩ := hs₁.2.2 b o hb
    exact ⟨sl, keep b _ (noRecord b o hb hnf) hs⟩
  · rw [Array.getElem?_setIfInBounds_ne (by decide)]
    exact h2
theorem note2_first {base : Heap} {env : Env} {outer : List Env} {L e : Addr} {oe : Obj} {vs : Array Value} {a0 : Value} {Q : Unit → Shared → Prop}
    (hfr : A.frames = some (env :: outer)) (hl : s.heap.FunFrames base (env :: outer)) (hf : env.frame = some L)
    (he : s.heap.get? e = some oe) (hkb : base.StaysIn s.heap) (hen : base.get? e = none) (hd : oe.data = .fields vs) (h1 : vs[1]? = some .none) (h0 : vs[0]? = some a0) (h2 : vs[2]? = some .none)
    (h : ∀ h', Heap.NotedW base (env :: outer) e oe.cls a0 (rawInt L) s.heap h' → F2 h' e → Q () { s with heap := h' }) : wpAny M A (noteFrame (.ref e) env) Q E s := by
  unfold noteFrame
  simp only [hf]
  refine wpAny_bind (wpAny_field he hd h1 ?_)
  rw [if_neg (by decide)]
  exact entry2 hfr hl hf he hkb hen hd (Array.getElem?_eq_some_iff.mp h1).1 h0 h2 h
theorem note2_on {base : Heap} {env : Env} {outer : List Env} {L e : Addr} {cls a0 : Value} {Q : Unit → Shared → Prop}
    (hfr : A.frames = some (env :: outer)) (hl : s.heap.FunFrames base (env :: outer)) (hf : env.frame = some L) (ht : s.heap.TracedW base e cls a0) (hkb : base.StaysIn s.heap) (hen : base.get? e = none) (hF : F2 s.heap e)
    (h : ∀ h', Heap.NotedW base (env :: outer) e cls a0 (rawInt L) s.heap h' → F2 h' e → Q () { s with heap := h' }) : wpAny M A (noteFrame (.ref e) env) Q E s := by
  obtain ⟨oe, vs, T, oT, ts, he, ⟨hcls, h0⟩, hd, h1, hnT, hTe, hT, hdT, h3⟩ := ht
  subst hcls
  obtain ⟨oe', vs', he', hd', h2⟩ := hF
  rw [he] at he'
  cases he'
  rw [hd] at hd'
  cases hd'
  unfold noteFrame
  simp only [hf]
  refine wpAny_bind (wpAny_field he hd h1 ?_)
  rw [if_pos (show (Value.ref T != Value.none) = true from by simp)]
  refine wpAny_bind (wpAny_field hT hdT h3 ?_)
  rw [if_neg (show ¬ ((Value.none == rawInt L) = true) from by simp [rawInt])]
  refine wpAny_bind (wpAny_setField hT hdT (Array.getElem?_eq_some_iff.mp h3).1 ?_)
  have other : ∀ b, b ≠ T → (s.heap.update T (Obj.mapFields (·.setIfInBounds 3 Value.none))).get? b = s.heap.get? b := fun b hb => Heap.get?_update_other _ _ (Ne.symm hb)
  have noRecord : ∀ b o, s.heap.get? b = some o → (∀ vs, o.data ≠ .fields vs) → b ≠ T := fun b o hb hnf q => by
    rw [q, hT] at hb
    injection hb with hb
    subst hb
    exact hnf ts hdT
  exact entry2 hfr (hl.of_keeps fun b o hb hnf => ⟨o, (other b (noRecord b o hb hnf)).trans hb, rfl⟩) hf ((other e (Ne.symm hTe)).trans he)
    (fun b o hbo => (other b fun q => by rw [q, hnT] at hbo; cases hbo).trans (hkb b o hbo)) hen hd (Array.getElem?_eq_some_iff.mp h1).1 h0 h2
    fun h' ⟨x1, x2, x3, x4⟩ => h h' ⟨x1, x2, x3, fun b o hb hnf => x4 b o ((other b (noRecord b o hb hnf)).trans hb) hnf⟩
theorem flight2 {base : Heap} {l : List Env} {e : Addr} {cls a0 fl : Value} {Q : Unit → Shared → Prop}
    (hkb : base.StaysIn s.heap) (hl : s.heap.FunFrames base l) (ht : s.heap.TracedAtW base e cls a0 fl) (hF : F2 s.heap e)
    (h : ∀ h', base.StaysIn h' → h'.FunFrames base l → h'.TracedW base e cls a0 → s.heap.UpToSlots h' → F2 h' e → Q () { s with heap := h' }) :
    wpAny M A (setFlight (.ref e) none) Q E s := by
  obtain ⟨oe, vs, T, oT, ts, he, hcls, hd, h1, hnT, hTe, hT, hdT, h3⟩ := ht
  have hsz3 : 3 < ts.size := (Array.getElem?_eq_some_iff.mp h3).1
  have other : ∀ b, b ≠ T → (s.heap.update T (Obj.mapFields (·.setIfInBounds 3 ((none : Option Addr).elim Value.none fun f => rawInt f)))).get? b = s.heap.get? b :=
    fun b hb => Heap.get?_update_other _ _ (Ne.symm hb)
  have noRecord : ∀ b o, s.heap.get? b = some o → (∀ vs, o.data ≠ .fields vs) → b ≠ T := fun b o hb hnf q => by
    rw [q, hT] at hb
    injection hb with hb
    subst hb
    exact hnf ts hdT
  unfold setFlight
  refine wpAny_bind (wpAny_field he hd h1 ?_)
  rw [if_pos (show (Value.ref T != Value.none) = true from by simp)]
  refine wpAny_setField hT hdT hsz3 (h _ (fun b o hbo => (other b fun q => by rw [q, hnT] at hbo; cases hbo).trans (hkb b o hbo))
    (hl.of_keeps fun b o hb hnf => ⟨o, (other b (noRecord b o hb hnf)).trans hb, rfl⟩) ?_ (fun b o hb hnf => ⟨o.slots, (other b (noRecord b o hb hnf)).trans hb⟩) ?_)
  · exact ⟨oe, vs, T, _, _, (other e (Ne.symm hTe)).trans he, hcls, hd, h1, hnT, hTe, Heap.get?_update_self _ hT (Obj.isFreed_of_fields (Obj.data_mapFields hdT _)), Obj.data_mapFields hdT _, by simp [hsz3]⟩
  · obtain ⟨oe', vs', he', hd', h2⟩ := hF
    exact ⟨oe', vs', (other e (Ne.symm hTe)).trans he', hd', h2⟩
theorem leaves2 {base : Heap} {env : Env} {outer : List Env} {L e : Addr} {cls a0 : Value} {Q : Unit → Shared → Prop} (hf : env.frame = some L) (hen : base.get? e = none)
    (h : ∀ Q' : Unit → Shared → Prop, (∀ h', Heap.NotedW base (env :: outer) e cls a0 (rawInt L) s.heap h' → F2 h' e → Q' () { s with heap := h' }) → wpAny M A (noteFrame (.ref e) env) Q' E s)
    (hQ : ∀ h', Heap.FlyingW base outer e cls a0 h' → s.heap.UpToSlots h' → F2 h' e → Q () { s with heap := h' }) : wpAny M A (leaving env (.ref e)) Q E s := by
  unfold leaving
  refine wpAny_bind (h _ fun h' ⟨k1, k2, k3, k4⟩ hF => ?_)
  refine flight2 (s := { s with heap := h' }) k1 k2 k3 hF fun h'' j1 j2 j3 j4 j5 => ?_
  obtain ⟨_, _, j2⟩ := j2
  exact hQ h'' ⟨j1, hen, j2, j3⟩ (Heap.UpToSlots.trans (h₂ := h') k4 j4) j5
theorem leaves2_on {base : Heap} {env : Env} {outer : List Env} {L e : Addr} {cls a0 : Value} {Q : Unit → Shared → Prop}
    (hfr : A.frames = some (env :: outer)) (hf : env.frame = some L) (hfl : Heap.FlyingW base (env :: outer) e cls a0 s.heap) (hF : F2 s.heap e)
    (hQ : ∀ h', Heap.FlyingW base outer e cls a0 h' → s.heap.UpToSlots h' → F2 h' e → Q () { s with heap := h' }) : wpAny M A (leaving env (.ref e)) Q E s := by
  obtain ⟨f1, f2, f3, f4⟩ := hfl
  exact leaves2 hf f2 (fun Q' hQ' => note2_on hfr f3 hf f4 f1 f2 hF hQ') hQ
theorem leaves2_made {base h : Heap} {env : Env} {outer : List Env} {L e : Addr} {cls : Value} {args : List Value} {Q : Unit → Shared → Prop}
    (hfr : A.frames = some (env :: outer)) (hf : env.frame = some L) (hkb : base.StaysIn h) (hl : h.FunFrames base (env :: outer)) (hx : Heap.MadeExcOf h s.heap e cls args)
    (hQ : ∀ h' t, Heap.FlyingW base outer e cls (.ref t) h' → h'.TupAt t args → base.get? t = none → s.heap.UpToSlots h' → F2 h' e → Q () { s with heap := h' }) : wpAny M A (leaving env (.ref e)) Q E s := by
  obtain ⟨t, he, htn, ht⟩ := hx.there
  have fresh : ∀ b, h.get? b = none → base.get? b = none := fun b hb => by
    cases hq : base.get? b with
    | none => rfl
    | some o' => have := hkb b o' hq; rw [hb] at this; cases this
  refine leaves2 (a0 := .ref t) hf (fresh e hx.new) (fun Q' hQ' => note2_first hfr (hl.of_keeps fun b o hb _ => ⟨o, hx.keeps b o hb, rfl⟩) hf he (fun b o hb => hx.keeps b o (hkb b o hb)) (fresh e hx.new) rfl rfl rfl rfl hQ') fun h' k1 k2 k3 => ?_
  exact hQ h' t k1 (Heap.TupAt.of_slots ⟨_, _, ht, rfl, rfl⟩ k2) (fresh t htn) k2 k3
end
section
variable {M : Model} {A : Around} {E : Value → Shared → Prop} {s' : Shared} {base g g₂ h : Heap} {outer : List Env} {L a e t : Addr} {m : Str → Option Value} {name : Str} {scope : Scope} {cd : Value} {Q : Unit → Shared → Prop} {news : List (Addr × Obj)}
theorem leave2_raise {cls : Value} {vs : List Value} (K : Below A base outer g) (hx : Heap.MadeExcOf h s'.heap e cls vs) (F : Fr g L h m) (N : News g L h news)
    (hQ : ∀ h' t, RaisedS base g outer e cls t vs news h' → g.UpToSlots h' → F2 h' e → Q () { s' with heap := h' }) (hk : scope.kind = .function) :
    wpAny M (A.deeper (envOf name scope L a cd)) (leaving (envOf name scope L a cd) (.ref e)) Q E s' := by
  have K' := K.push (name := name) (a := a) (cd := cd) F hk
  have hin : ∀ env ∈ (envOf name scope L a cd :: outer), ∀ b, env.frame = some b → b ∈ (envOf name scope L a cd :: outer).filterMap (·.frame) := fun env he b hb => List.mem_filterMap.mpr ⟨env, he, hb⟩
  refine leaves2_made K'.stack rfl (fun b o q => of_hideAll _ q) (funFrames_hide K'.frames hin) hx fun h' t x1 x2 x3 x4 x5 => hQ h' t ⟨⟨_, fun b o q => ?_, fun b o q nm => ?_, fun q hq => ?_, x1, x3⟩, x2⟩ (((Heap.UpToSlots.of_keeps F.keep).trans (Heap.UpToSlots.of_keeps hx.keeps)).trans x4) x5
  · refine hideAll_get _ (K'.stays b o q) fun hm => ?_
    rw [(K'.frames.mem hm).1] at q
    cases q
  · refine hideAll_get _ (F.keep b o q) fun hm => ?_
    rcases kts_mem hm with z | z
    · rw [z, kts_self F] at q
      cases q
    · exact nm z
  · refine ⟨hideAll_get _ (N q hq).1 fun hm => ?_, (N q hq).2.2, fresh_of_stays K.stays (N q hq).2.2⟩
    obtain ⟨env, he, hf⟩ := List.mem_filterMap.mp hm
    rcases List.mem_cons.mp he with rfl | he
    · exact (N q hq).2.1 (Option.some.inj hf).symm
    · obtain ⟨o, ho, _⟩ := (K.frames.mem (List.mem_filterMap.mpr ⟨env, he, hf⟩)).2
      rw [(N q hq).2.2] at ho
      cases ho
theorem leave2_on {cls : Value} {vs : List Value} (K : Below A base outer g) (F : Fr g L g₂ m) (R : RaisedS base g₂ (envOf name scope L a cd :: outer) e cls t vs news s'.heap) (hsm : g₂.UpToSlots s'.heap) (hF : F2 s'.heap e)
    (hQ : ∀ h', RaisedS base g outer e cls t vs news h' → g.UpToSlots h' → F2 h' e → Q () { s' with heap := h' }) :
    wpAny M (A.deeper (envOf name scope L a cd)) (leaving (envOf name scope L a cd) (.ref e)) Q E s' := by
  obtain ⟨⟨B, hB, hBG, hl, hfl, hnew⟩, htup⟩ := R
  refine leaves2_on (Around.frames_deeper K.stack) rfl hfl hF fun h' x1 x2 x3 => hQ h' ⟨⟨B, hB, fun b o q nm => hBG b o (F.keep b o q) fun hm => ?_, fun q hq => ⟨(hl q hq).1, kts_none F.keep (hl q hq).2.1, (hl q hq).2.2⟩, x1, hnew⟩, htup.of_slots x2⟩ ((Heap.UpToSlots.of_keeps F.keep).trans (hsm.trans x2)) x3
  rcases kts_mem hm with z | z
  · rw [z, kts_self F] at q
    cases q
  · exact nm z
end


abbrev callV (f : Value) : List Value → Sem Value := fun vs => call f vs
/-- storing a name -/
def Store (st : St) (x : Str) (d : D) (k : St → Prop) : Prop := k { st with env := setI st.env x d (idxE st.env x) }
theorem store_old {env : List (Str × D)} {ls : List (List D)} {tn : Bool} {x : Str} {d : D} {k : St → Prop} {i : Nat} (hi : idxE env x = some i) (h : k ⟨env.set i (x, d), ls, tn⟩) : Store ⟨env, ls, tn⟩ x d k := by
  unfold Store
  dsimp only
  rw [hi]
  exact h
theorem store_new {env : List (Str × D)} {ls : List (List D)} {tn : Bool} {x : Str} {d : D} {k : St → Prop} (hi : idxE env x = Option.none) (h : k ⟨env ++ [(x, d)], ls, tn⟩) : Store ⟨env, ls, tn⟩ x d k := by
  unfold Store
  dsimp only
  rw [hi]
  exact h

def seqK (k : St → Prop) (P : AF → St → Prop) : AF → St → Prop
  | .next, st => k st
  | .brk, st => P .brk st
  | .cont, st => P .cont st
  | .ret d, st => P (.ret d) st

section
variable {G : Gl} {c : Ac} {st : St} {X : XPost}

theorem store_rel {W : Wd} {h₀ : Heap} {m : Str → Option Value} {s : Shared} (h : Rel G c W st h₀ m s) {x : Str} {v : Value} {d : D} (hv : Rep G.base W v d) {h' : Heap} (F : Fr h₀ c.L h' (fun y => if y = x then some v else m y)) (N : News h₀ c.L h' W.N) (k : Nat) :
    Rel G c W { st with env := setI st.env x d (idxE st.env x) } h₀ (fun y => if y = x then some v else m y) { s with heap := h', toks := k } :=
  { turn := h.turn, same := h.same, below := h.below, kin := h.kin, top := h.top, kb := h.kb, tb := h.tb, dicts := h.dicts, fn := h.fn, cpo := h.cpo, hdo := h.hdo, dep := h.dep, unt := h.unt, len := h.len, nodup := h.nodup, lists := h.lists
    loc := fun y e he => by
      rcases setI_lookup rfl y e he with ⟨rfl, rfl⟩ | ⟨hy, hl⟩
      · exact ⟨v, if_pos rfl, hv⟩
      · obtain ⟨u, hu, hr⟩ := h.loc y e hl
        exact ⟨u, by rw [if_neg hy]; exact hu, hr⟩
    fr := F, news := N, gens := h.gens, os := h.os }

theorem au_store {x : Str} {d : D} {P : Unit → St → Prop} (h : Store st x d (P ())) (hl : c.env.kindOf x = some .local := by rfl) : A1 RepU G c (storeName c.env x) d st P X := by
  intro W s h₀ m v hr hv
  refine stN hr.fr hr.news (fun h' F N => ?_) hr.fn hl
  exact ⟨W, _, (), h₀, _, .refl W, store_rel hr hv F N _, trivial, h⟩

variable {P : AF → St → Prop}
theorem as_nil {env : Env} (h : P .next st) : AS G c (execs [] env) st P X := fun _ _ _ _ hr => wpAny_execs_nil (hr.here0 .next h)
theorem as_cons {a : Stmt} {r : List Stmt} {env : Env} (h : AS G c (exec a env) st (seqK (fun st₁ => AS G c (execs r env) st₁ P X) P) X) : AS G c (execs (a :: r) env) st P X := by
  intro W s h₀ m hr
  refine wpAny_execs_cons (h.step (.refl W) hr (fun _ _ x => x) fun W₁ st₁ d _ _ v s₁ l₁ _ r₁ p₁ h₁ => ?_)
  cases p₁ with
  | next => exact wpAny_mono (h₁ W₁ s₁ _ _ r₁) (fun _ _ q => q.le l₁) fun _ _ x => x.le l₁
  | brk => exact ⟨W₁, st₁, _, _, _, l₁, r₁, .brk, h₁⟩
  | cont => exact ⟨W₁, st₁, _, _, _, l₁, r₁, .cont, h₁⟩
  | ret q => exact ⟨W₁, st₁, _, _, _, l₁, r₁, .ret q, h₁⟩
theorem as_return {e : Expr} {pos : Pos} {env : Env} (h : AE G c (eval e env) st (fun d st₁ => P (.ret d) st₁) X) : AS G c (exec (.Return (some e) pos) env) st P X := by
  intro W s h₀ m hr
  refine wpAny_Return_some (h.step (.refl W) hr (fun _ _ x => x) fun W₁ st₁ d _ _ v s₁ l₁ _ r₁ p₁ h₁ => ?_)
  exact ⟨W₁, st₁, _, _, _, l₁, r₁, .ret p₁, h₁⟩
theorem as_if {t : Expr} {a b : List Stmt} {pos : Pos} {env : Env} (h : AB G c (isTrue t env (eval t env)) st (fun q st₁ => (q = true → AS G c (execs a env) st₁ P X) ∧ (q = false → AS G c (execs b env) st₁ P X)) X) :
    AS G c (exec (.If t a b pos) env) st P X := by
  intro W s h₀ m hr
  refine wpAny_If (h.step (.refl W) hr (fun _ _ x => x) fun W₁ st₁ d _ _ v s₁ l₁ _ r₁ p₁ h₁ => ?_)
  have hv : v = d := p₁
  subst hv
  cases v with
  | true => exact wpAny_mono (h₁.1 rfl W₁ s₁ _ _ r₁) (fun _ _ q => q.le l₁) fun _ _ x => x.le l₁
  | false => exact wpAny_mono (h₁.2 rfl W₁ s₁ _ _ r₁) (fun _ _ q => q.le l₁) fun _ _ x => x.le l₁
theorem as_assert {t : Expr} {msg : Option Expr} {pos : Pos} {env : Env} (h : AB G c (isTrue t env (eval t env)) st (fun q st₁ => q = true ∧ P .next st₁) X) : AS G c (exec (.Assert t msg pos) env) st P X := by
  intro W s h₀ m hr
  rw [arm_exec_Assert]
  refine wpAny_bind (wpAny_standAt (wpAny_bind (h.step (.refl W) hr (fun _ _ x => x) fun W₁ st₁ d _ _ v s₁ l₁ _ r₁ p₁ h₁ => ?_)))
  have hv : v = d := p₁
  subst hv
  obtain ⟨rfl, h₁⟩ := h₁
  exact wpAny_pure ⟨W₁, st₁, _, _, _, l₁, r₁, .next, h₁⟩
theorem as_assign {x : Str} {p' pos : Pos} {e : Expr} (h : AE G c (eval e c.env) st (fun d st₁ => Store st₁ x d (P .next)) X)
    (hl : c.env.kindOf x = some .local := by rfl) (hs : swapsWith e (some (.Name x p')) pos.line c.env = pure false := by rfl) : AS G c (exec (.Assign [.Name x p'] e pos) c.env) st P X := by
  intro W s h₀ m hr
  refine wpAny_Assign_Name (h.step (.refl W) hr (fun _ _ x => x) fun W₁ st₁ d _ _ v s₁ l₁ _ r₁ p₁ h₁ => ?_) hs
  refine wpAny_mono (au_store (X := X) (P := fun _ st₂ => P .next st₂) h₁ hl W₁ s₁ _ _ v r₁ p₁) (fun _ s₂ q => ?_) fun _ _ x => x.le l₁
  obtain ⟨W₂, st₂, _, _, _, l₂, r₂, _, h₂⟩ := q
  exact ⟨W₂, st₂, _, _, _, l₁.trans l₂, r₂, .next, h₂⟩
theorem as_aug {x : Str} {p' pos : Pos} {op : Operator} {e : Expr} {d₀ : D} (he : st.env.lookup x = some d₀) (h : AE G c (eval e c.env) st (fun d st₁ => EV2 G c (inplaceOp op) d₀ d st₁ (fun d' st₂ => Store st₂ x d' (P .next)) X) X)
    (hl : c.env.kindOf x = some .local := by rfl) : AS G c (exec (.AugAssign (.Name x p') op e pos) c.env) st P X := by
  intro W s h₀ m hr
  obtain ⟨v₀, hv₀, hr₀⟩ := hr.loc x d₀ he
  refine wpAny_AugAssign_Name (ldn hr.fr hv₀ ?_ hr.fn hl)
  refine h.step (.refl W) hr (fun _ _ x => x) fun W₁ st₁ d _ _ v s₁ l₁ _ r₁ p₁ h₁ => ?_
  refine wpAny_mono (h₁ W₁ s₁ _ _ v₀ v r₁ (hr₀.mono l₁) p₁) (fun v₂ s₂ q => ?_) fun _ _ x => x.le l₁
  obtain ⟨W₂, st₂, d₂, _, _, l₂, r₂, p₂, h₂⟩ := q
  refine wpAny_mono (au_store (X := X) (P := fun _ st₂ => P .next st₂) h₂ hl W₂ s₂ _ _ v₂ r₂ p₂) (fun _ s₃ q => ?_) fun _ _ x => x.le (l₁.trans l₂)
  obtain ⟨W₃, st₃, _, _, _, l₃, r₃, _, h₃⟩ := q
  exact ⟨W₃, st₃, _, _, _, (l₁.trans l₂).trans l₃, r₃, .next, h₃⟩
end

section
variable {G : Gl} {c : Ac} {st : St} {X : XPost} {P : List D → St → Prop}
/-! arguments -/
theorem al_nil {pos : Pos} {env : Env} (h : P [] st) : AL G c (spliced (backTo pos (starEach [] env))) st P X := fun _ _ _ _ hr => spliced_none (hr.here0 .nil h)
theorem al_cons {e : Expr} {r : List Expr} {pos : Pos} {env : Env} (h : AE G c (eval e env) st (fun d st₁ => AL G c (spliced (backTo pos (starEach r env))) st₁ (fun ds st₂ => P (d :: ds) st₂) X) X)
    (he : starEach (e :: r) env = (false, eval e env) :: starEach r env := by rfl) : AL G c (spliced (backTo pos (starEach (e :: r) env))) st P X := by
  intro W s h₀ m hr
  refine spliced_more (h.step (.refl W) hr (fun _ _ x => x) fun W₁ st₁ d _ _ v s₁ l₁ _ r₁ p₁ h₁ => ?_) he
  refine h₁.step l₁ r₁ (fun _ _ x => x) fun W₂ st₂ ds _ _ vs s₂ l₂ k₂ r₂ p₂ h₂ => ?_
  exact ⟨W₂, st₂, _, _, _, l₂, r₂, .cons (p₁.mono k₂) p₂, h₂⟩
end

section
variable {G : Gl} {c : Ac} {st : St} {X : XPost} {P : D → St → Prop}
/-! calls by a global name -/
theorem ae_callK {x : Str} {f : Addr} {e : Expr} {r : List Expr} {np pos : Pos} (hx : nsIn G.K mainGlobals x = some (some (.ref f))) (hk : keepIn G.K (.ref f) = true)
    (h : AL G c (spliced (backTo pos (starEach (e :: r) c.env))) st (fun ds st₁ => EVN G c (callV (.ref f)) ds st₁ P X) X)
    (hkd : c.env.kindOf x = some .globalImplicit := by rfl) (hd : (x == ("__debug__" : Str)) = false := by rfl)
    (he : starEach (e :: r) c.env = (false, eval e c.env) :: starEach r c.env := by rfl) (hplain : (backTo pos (starEach r c.env)).any (·.1) = false := by rfl)
    (hc : eval (.Call (.Name x np) (e :: r) [] pos) c.env = (do callWith pos (← eval (.Name x np) c.env) [] (backTo pos (starEach (e :: r) c.env)) (backToKw pos (keywordEach [] c.env))) := by rfl) :
    AE G c (eval (.Call (.Name x np) (e :: r) [] pos) c.env) st P X := by
  intro W s h₀ m hr
  refine Call_ (name_K hr.fr hr.kin (topRead_of hr.top) hx ?_ hr.fn hkd hd) hc
  refine callWith_K hr.kin hk (h.step (.refl W) hr (fun _ _ x => x) fun W₁ st₁ ds _ _ vs s₁ l₁ _ r₁ p₁ h₁ => ?_) he hplain
  refine ⟨r₁.kin.keeps r₁.fr.keep, ?_⟩
  exact wpAny_mono (h₁ W₁ s₁ _ _ vs r₁ p₁) (fun _ _ q => q.le l₁) fun _ _ x => x.le l₁
theorem ae_callB {x : Str} {id : String} {e : Expr} {r : List Expr} {np pos : Pos} (hx : nsIn G.K mainGlobals x = some none) (hv : bootBuiltins x = some (.builtin id))
    (h : AL G c (spliced (backTo pos (starEach (e :: r) c.env))) st (fun ds st₁ => EVN G c (callV (.builtin id)) ds st₁ P X) X)
    (hn : x ≠ "__name__" := by decide) (hkd : c.env.kindOf x = some .globalImplicit := by rfl) (hd : (x == ("__debug__" : Str)) = false := by rfl)
    (he : starEach (e :: r) c.env = (false, eval e c.env) :: starEach r c.env := by rfl) (hplain : (backTo pos (starEach r c.env)).any (·.1) = false := by rfl)
    (hc : eval (.Call (.Name x np) (e :: r) [] pos) c.env = (do callWith pos (← eval (.Name x np) c.env) [] (backTo pos (starEach (e :: r) c.env)) (backToKw pos (keywordEach [] c.env))) := by rfl) :
    AE G c (eval (.Call (.Name x np) (e :: r) [] pos) c.env) st P X := by
  intro W s h₀ m hr
  refine Call_ (name_B hr.fr hr.kin (topRead_of hr.top) hx hv hn ?_ hr.fn hkd hd) hc
  refine callWith_method1 (h.step (.refl W) hr (fun _ _ x => x) fun W₁ st₁ ds _ _ vs s₁ l₁ _ r₁ p₁ h₁ => ?_) he hplain
  exact wpAny_mono (h₁ W₁ s₁ _ _ vs r₁ p₁) (fun _ _ q => q.le l₁) fun _ _ x => x.le l₁
end

/-! a def of the text, called -/
theorem zip_lookup {B : Heap} {W : Wd} : ∀ {xs : List Str} {vs : List Value} {ds : List D}, xs.Nodup → Reps B W vs ds → ds.length = xs.length → ∀ x d, (xs.zip ds).lookup x = some d → ∃ v, (xs.zip vs).reverse.lookup x = some v ∧ Rep B W v d := by
  have key : ∀ {xs : List Str} {vs : List Value}, xs.Nodup → ∀ x, (xs.zip vs).reverse.lookup x = (xs.zip vs).lookup x := by
    intro xs
    induction xs with
    | nil => intro vs _ x; simp
    | cons y ys ih =>
      intro vs hn x
      cases vs with
      | nil => simp
      | cons v vs =>
        rw [List.nodup_cons] at hn
        simp only [List.zip_cons_cons, List.reverse_cons, List.lookup_append, ih hn.2 x]
        by_cases hx : x = y
        · subst hx
          have : (ys.zip vs).lookup x = none := by
            rw [List.lookup_eq_none_iff]
            rintro ⟨a, b⟩ hp
            have := (List.of_mem_zip hp).1
            simp only [ne_eq, bne_iff_ne]
            rintro rfl
            exact hn.1 this
          rw [this]
          simp [List.lookup_cons]
        · have hb : (x == y) = false := by simpa using hx
          simp [List.lookup_cons, hb]
  have main : ∀ {xs : List Str} {vs : List Value} {ds : List D}, Reps B W vs ds → ds.length = xs.length → ∀ x d, (xs.zip ds).lookup x = some d → ∃ v, (xs.zip vs).lookup x = some v ∧ Rep B W v d := by
    intro xs
    induction xs with
    | nil => intro vs ds _ _ x d h; simp at h
    | cons y ys ih =>
      intro vs ds hr hl x d h
      cases hr with
      | nil => simp at hl
      | cons h1 h2 =>
        simp only [List.zip_cons_cons, List.lookup_cons] at h ⊢
        cases q : x == y with
        | true =>
          simp only [q] at h ⊢
          cases h
          exact ⟨_, rfl, h1⟩
        | false =>
          simp only [q] at h ⊢
          exact ih h2 (by simpa using hl) x d h
  intro xs vs ds hn hr hl x d h
  obtain ⟨v, h1, h2⟩ := main hr hl x d h
  exact ⟨v, by rw [key hn]; exact h1, h2⟩

def retK (P : D → St → Prop) (st : St) : AF → St → Prop
  | .ret d, st' => P d ⟨st.env, st'.ls, st'.tn || st.tn⟩
  | _, st' => P .none ⟨st.env, st'.ls, st'.tn || st.tn⟩

theorem ev_def {G : Gl} {c : Ac} {st : St} {X : XPost} {P : D → St → Prop} {f : Addr} {name qual : Str} {params : Arguments} {body : List Stmt} {scope : Scope} {dV kV doc pm cdv ct oc : Value} {an od : Option Addr} {osl : Array (Option Value)} {xs : List Str} {ds : List D} {r : Nat}
    (ho : G.K.lookup f = some ⟨oc, od, .func (fnOf name qual params body scope dV kV doc pm an cdv ct), osl⟩) (hcd : codeIn G.K cdv qual = true)
    (hbind : ∀ vs : List Value, vs.length = xs.length → bindArgs (fnOf name qual params body scope dV kV doc pm an cdv ct) ⟨vs, []⟩ = pure (xs.zip vs))
    (hlen : ds.length = xs.length) (hnd : xs.Nodup) (hloc : ∀ y ∈ xs, scope.names.lookup y = some .local) (hroom : r + 1 ≤ c.room)
    (hco : scope.isCoroutine = false) (hgen : scope.isGenerator = false) (hk : scope.kind = .function) (hcell : ∀ x ∈ scope.names, x.2 ≠ .cell)
    (h : ∀ A₀ outer g₀ L, A₀.handled = c.A.handled → AS G ⟨A₀, outer, g₀, qual, scope, L, f, cdv, none, r, none⟩ (execs body (envOf qual scope L f cdv)) ⟨xs.zip ds, st.ls, false⟩
      (retK P st) (fun cls _ st' => st'.tn = false ∧ X cls true ⟨st.env, st'.ls, st.tn⟩)) :
    EVN G c (callV (.ref f)) ds st P X := by
  intro W s h₀ m vs hr hvs
  have hA : c.A.frames = some (c.env :: c.outer) := Around.frames_deeper hr.below.stack
  have hvl : vs.length = xs.length := hvs.length.trans hlen
  have hdep := hr.dep
  have hunt := hr.unt
  refine wpAny_call (code_defS (A₀ := c.A₀) (A := c.A) (cn := c.nm) (cs := c.sc) (a := c.fa) (ccd := c.cd) hr.below hr.fr hr.kin hr.news hr.top hr.kb hr.tb hr.dicts hr.turn hA ho hcd (by show c.A₀.depth + 1 < recursionLimit; omega)
    (BindsTo.of_eq (hbind vs hvl)) (fun y hy => hloc _ (List.of_mem_zip hy).1) (fun g L' h₁ FG F' N' B' X' T' D' => ?_) hr.fn hco hgen hk hcell)
  have core : Core G ⟨c.A, c.env :: c.outer, g, qual, scope, L', f, cdv, none, r, none⟩ W ⟨xs.zip ds, st.ls, false⟩ g (fun y => (xs.zip vs).reverse.lookup y) :=
    { turn := KtsTurn.refl, same := fun _ => rfl, below := B', kin := X', top := T', kb := hr.kb, tb := hr.tb, dicts := D', fn := hk, cpo := CpOk.no, hdo := hr.hdo
      dep := by show c.A₀.depth + 1 + 1 + r < recursionLimit; omega
      unt := by show c.A₀.units + 3 + 3 + 8 * r + 80 < cLine; omega
      loc := zip_lookup hnd hvs hlen, len := hr.len, nodup := hr.nodup, lists := hr.lists }
  refine wpAny_mono (h c.A (c.env :: c.outer) g L' rfl W _ g _ { core with fr := F', news := N', gens := hr.gens, os := hr.os }) (fun fl s' hq => ?_) fun e s' hx => ?_
  · obtain ⟨W', st', af, g', m', l, rel, rf, hp⟩ := hq
    -- the caller's state again
    have mk : ∀ (v : Value) (d : D), Rep G.base W' v d → P d ⟨st.env, st'.ls, st'.tn || st.tn⟩ → LeaveS ((c.env :: c.outer).filterMap (·.frame)) c.A₀ G.base c.outer G.K G.p G.loose G.mean G.mg G.mb c.g₀ h₀ c.L m g
        (fun r s' => match r with | .ok (.ret v) => QP Rep G c W P v s' | .ok _ => False | .error e => XP G c W X e s') v s' := by
      intro v d hv hp
      cases htn : st'.tn with
      | false =>
        have hg : g' = g := rel.same htn
        subst hg
        refine leaveS_l rel.fr rel.news fun F₂ N₂ => ?_
        refine ⟨W', ⟨st.env, st'.ls, st'.tn || st.tn⟩, d, h₀, m, l, ?_, hv, hp⟩
        exact { turn := hr.turn, same := fun q => hr.same (by revert q; simp [htn]), below := hr.below, kin := hr.kin, top := hr.top, kb := hr.kb, tb := hr.tb, dicts := hr.dicts, fn := hr.fn, cpo := hr.cpo.mono l, hdo := hr.hdo.mono l, dep := hr.dep, unt := hr.unt, loc := fun x d' e' => let ⟨u, h1, h2⟩ := hr.loc x d' e'; ⟨u, h1, h2.mono l⟩, len := rel.len, nodup := rel.nodup, lists := rel.lists, fr := F₂, news := N₂, gens := rel.gens, os := rel.os }
      | true =>
        refine leaveS_r rel.fr rel.news rel.turn fun h₀' T₂ F₂ N₂ B₂ K₂ P₂ D₂ => ?_
        refine ⟨W', ⟨st.env, st'.ls, st'.tn || st.tn⟩, d, h₀', m, l, ?_, hv, hp⟩
        exact { turn := T₂, same := fun q => absurd q (by simp [htn]), below := B₂, kin := K₂, top := P₂, kb := hr.kb, tb := hr.tb, dicts := D₂, fn := hr.fn, cpo := hr.cpo.mono l, hdo := hr.hdo.mono l, dep := hr.dep, unt := hr.unt, loc := fun x d' e' => let ⟨u, h1, h2⟩ := hr.loc x d' e'; ⟨u, h1, h2.mono l⟩, len := rel.len, nodup := rel.nodup, lists := rel.lists, fr := F₂, news := N₂, gens := rel.gens, os := rel.os }
    cases rf with
    | next => exact mk _ _ .none hp
    | brk => exact mk _ _ .none hp
    | cont => exact mk _ _ .none hp
    | ret q => exact mk _ _ q hp
  · obtain ⟨W', st', cls, fl, l, ⟨ea, g', m', ws, rfl, hgn, hos, co, hth⟩, htn, hX⟩ := hx
    have hg : g' = g := co.same htn
    subst hg
    have core' : Core G c W' ⟨st.env, st'.ls, st.tn⟩ h₀ m :=
      { turn := hr.turn, same := hr.same, below := hr.below, kin := hr.kin, top := hr.top, kb := hr.kb, tb := hr.tb, dicts := hr.dicts, fn := hr.fn, cpo := hr.cpo.mono l, hdo := hr.hdo.mono l, dep := hr.dep, unt := hr.unt, loc := fun x d' e' => let ⟨u, h1, h2⟩ := hr.loc x d' e'; ⟨u, h1, h2.mono l⟩, len := co.len, nodup := co.nodup, lists := co.lists }
    rcases hth with ⟨_, h₂, F₂, N₂, hmade⟩ | ⟨_, g₂, t, F₂, R₂, up₂, f2₂⟩
    · refine leave2_raise B' hmade F₂ N₂ (fun h' t R up f2 => ?_) hk
      exact ⟨W', _, cls, true, l, ⟨ea, h₀, m, ws, rfl, hgn, hos, core', .inr ⟨rfl, g', t, FG, R, up, f2⟩⟩, hX⟩
    · refine leave2_on B' F₂ R₂ up₂ f2₂ (fun h' R up f2 => ?_)
      exact ⟨W', _, cls, true, l, ⟨ea, h₀, m, ws, rfl, hgn, hos, core', .inr ⟨rfl, g', t, FG, R, up, f2⟩⟩, hX⟩


abbrev newW (W : Wd) (a : Addr) (o : Obj) : Wd := ⟨(a, o) :: W.N, W.ρ⟩
abbrev newL (W : Wd) (a : Addr) (o : Obj) : Wd := ⟨(a, o) :: W.N, W.ρ ++ [a]⟩
abbrev setW (W : Wd) (a : Addr) (o : Obj) : Wd := ⟨(a, o) :: W.N.filter (fun p => p.1 != a), W.ρ⟩

section
variable {G : Gl} {c : Ac} {st : St} {W : Wd} {h₀ : Heap} {m : Str → Option Value} {s : Shared}

theorem Core.rho_in (h : Core G c W st h₀ m) {a : Addr} (ha : a ∈ W.ρ) : ∃ (k : Nat) (ds : List D) (vs : List Value) (n : Nat), st.ls[k]? = some ds ∧ W.ρ[k]? = some a ∧ (a, listOf vs.toArray n) ∈ W.N ∧ Reps G.base W vs ds := by
  obtain ⟨k, hk, rfl⟩ := List.mem_iff_getElem.mp ha
  have hl : k < st.ls.length := h.len ▸ hk
  obtain ⟨a, vs, n, h1, h2, h3⟩ := h.lists k _ (List.getElem?_eq_getElem hl)
  rw [List.getElem?_eq_getElem hk] at h1
  cases h1
  exact ⟨k, _, vs, n, List.getElem?_eq_getElem hl, List.getElem?_eq_getElem hk, h2, h3⟩
theorem Rel.lt (h : Rel G c W st h₀ m s) {p : Addr × Obj} (hp : p ∈ W.N) : p.1 < s.heap.objs.size := Heap.lt_size (h.news p hp).1
theorem Rel.rho_lt (h : Rel G c W st h₀ m s) {a : Addr} (ha : a ∈ W.ρ) : a < s.heap.objs.size := by
  obtain ⟨_, _, _, _, _, _, hm, _⟩ := h.toCore.rho_in ha
  exact h.lt hm

theorem newW_le {a : Addr} {o : Obj} : W.Le (newW W a o) := ⟨fun _ _ h => h, fun _ h _ => .tail _ h, fun _ h => .inl h⟩
theorem newL_le {a : Addr} {o : Obj} (hf : ∀ p ∈ W.N, p.1 ≠ a) : W.Le (newL W a o) :=
  ⟨fun k b h => by
    have hk : k < W.ρ.length := by
      rcases Nat.lt_or_ge k W.ρ.length with q | q
      · exact q
      · rw [List.getElem?_eq_none q] at h; cases h
    rw [List.getElem?_append_left hk]
    exact h, fun _ h _ => .tail _ h, fun b h => by
    rcases List.mem_append.mp h with q | q
    · exact .inl q
    · right
      rw [List.mem_singleton.mp q]
      exact hf⟩

/-- a new object that is no list -/
theorem Rel.newObj (h : Rel G c W st h₀ m s) {a : Addr} {o : Obj} {h' : Heap} (k : Nat) (F : Fr h₀ c.L h' m) (N : News h₀ c.L h' ((a, o) :: W.N)) :
    Rel G c (newW W a o) st h₀ m { s with heap := h', toks := k } :=
  { turn := h.turn, same := h.same, below := h.below, kin := h.kin, top := h.top, kb := h.kb, tb := h.tb, dicts := h.dicts, fn := h.fn, cpo := h.cpo.mono newW_le, hdo := h.hdo.mono newW_le, dep := h.dep, unt := h.unt, len := h.len, nodup := h.nodup
    loc := fun x d e => let ⟨u, h1, h2⟩ := h.loc x d e; ⟨u, h1, h2.mono newW_le⟩
    lists := fun i ds e => let ⟨b, vs, n, h1, h2, h3⟩ := h.lists i ds e; ⟨b, vs, n, h1, .tail _ h2, h3.mono newW_le⟩
    fr := F, news := N, gens := h.gens, os := h.os }
theorem Rel.newList (h : Rel G c W st h₀ m s) {a : Addr} {vs : List Value} {ds : List D} {n : Nat} {h' : Heap} (k : Nat) (ha : ∀ p ∈ W.N, p.1 ≠ a) (hv : Reps G.base W vs ds) (F : Fr h₀ c.L h' m) (N : News h₀ c.L h' ((a, listOf vs.toArray n) :: W.N)) :
    Rel G c (newL W a (listOf vs.toArray n)) { st with ls := st.ls ++ [ds] } h₀ m { s with heap := h', toks := k } := by
  have le : W.Le (newL W a (listOf vs.toArray n)) := newL_le ha
  have hna : a ∉ W.ρ := fun q => by
    obtain ⟨_, _, _, _, _, _, hm, _⟩ := h.toCore.rho_in q
    exact ha _ hm rfl
  exact { turn := h.turn, same := h.same, below := h.below, kin := h.kin, top := h.top, kb := h.kb, tb := h.tb, dicts := h.dicts, fn := h.fn, cpo := h.cpo.mono le, hdo := h.hdo.mono le, dep := h.dep, unt := h.unt, len := (by simp [h.len]), nodup := (by
            rw [List.nodup_append]
            refine ⟨h.nodup, by simp, fun x hx y hy => ?_⟩
            rw [List.mem_singleton.mp hy]
            rintro rfl
            exact hna hx), loc := fun x d e => (let ⟨u, h1, h2⟩ := h.loc x d e; ⟨u, h1, h2.mono le⟩), lists := fun i es e => (by
            dsimp only at e
            rcases Nat.lt_or_ge i st.ls.length with q | q
            · rw [List.getElem?_append_left q] at e
              obtain ⟨b, ws, n', h1, h2, h3⟩ := h.lists i es e
              exact ⟨b, ws, n', le.rho _ _ h1, .tail _ h2, h3.mono le⟩
            · have hi : i = st.ls.length := by
                rcases Nat.lt_or_ge i (st.ls.length + 1) with q' | q'
                · omega
                · rw [List.getElem?_eq_none (by simpa using q')] at e; cases e
              subst hi
              simp at e
              subst e
              refine ⟨a, vs, n, ?_, .head _, hv.mono le⟩
              show (W.ρ ++ [a])[st.ls.length]? = some a
              rw [← h.len]
              simp), fr := F, news := N, gens := h.gens, os := h.os }
/-- a list set -/
theorem Rel.setList (h : Rel G c W st h₀ m s) {i : Nat} {a : Addr} {vs' : List Value} {ds' : List D} {n' : Nat} {h' : Heap} (k : Nat) (hρ : W.ρ[i]? = some a) (hv : Reps G.base W vs' ds') (hs : Heap.SameBut a s.heap h') (ho : h'.get? a = some (listOf vs'.toArray n')) :
    Rel G c (setW W a (listOf vs'.toArray n')) { st with ls := st.ls.set i ds' } h₀ m { s with heap := h', toks := k } ∧ W.Le (setW W a (listOf vs'.toArray n')) := by
  have hin : a ∈ W.ρ := List.mem_of_getElem? hρ
  obtain ⟨_, _, vs₀, n₀, _, _, hm₀, _⟩ := h.toCore.rho_in hin
  have hold := h.news _ hm₀
  have le : W.Le (setW W a (listOf vs'.toArray n')) := by
    refine ⟨fun _ _ q => q, fun p hp hq => .tail _ (List.mem_filter.mpr ⟨hp, ?_⟩), fun b q => .inl q⟩
    simp only [bne_iff_ne, ne_eq]
    intro e
    rcases hq with q | q
    · exact q (e ▸ hin)
    · have := (h.news p hp).1
      rw [e, hold.1] at this
      exact q (by rw [← Option.some.inj this])
  refine ⟨?_, le⟩
  exact { turn := h.turn, same := h.same, below := h.below, kin := h.kin, top := h.top, kb := h.kb, tb := h.tb, dicts := h.dicts, fn := h.fn, cpo := h.cpo.mono le, hdo := h.hdo.mono le, dep := h.dep, unt := h.unt, len := (by simp [h.len]), nodup := h.nodup, loc := fun x d e => (let ⟨u, h1, h2⟩ := h.loc x d e; ⟨u, h1, h2.mono le⟩), lists := fun j es e => (by
            dsimp only at e
            rw [List.getElem?_set] at e
            split at e
            · rename_i hj
              subst hj
              split at e
              · cases e
                exact ⟨a, vs', n', hρ, .head _, hv.mono le⟩
              · cases e
            · rename_i hj
              obtain ⟨b, ws, n, h1, h2, h3⟩ := h.lists j es e
              refine ⟨b, ws, n, h1, .tail _ (List.mem_filter.mpr ⟨h2, ?_⟩), h3.mono le⟩
              simp only [bne_iff_ne, ne_eq]
              rintro rfl
              exact hj ((List.getElem?_inj (by
                rcases Nat.lt_or_ge i W.ρ.length with q | q
                · exact q
                · rw [List.getElem?_eq_none q] at hρ; cases hρ) h.nodup).mp (hρ.trans h1.symm))), fr := h.fr.change hs hold.2.1 hold.2.2, news := fun p hp => (by
            rcases List.mem_cons.mp hp with rfl | hp
            · exact ⟨ho, hold.2⟩
            · obtain ⟨hp1, hp2⟩ := List.mem_filter.mp hp
              have z := h.news p hp1
              exact ⟨(hs.2 _ (by simpa using hp2)).trans z.1, z.2⟩), gens := h.gens, os := h.os }
end

section
variable {G : Gl} {c : Ac} {st : St} {X : XPost} {P : D → St → Prop}
/-! making lists and tuples -/
theorem ev_newList {ds : List D} (h : P (.lst st.ls.length) { st with ls := st.ls ++ [ds] }) (hz : ds.length ≤ sizeLine) : EVN G c newList ds st P X := by
  intro W s h₀ m vs hr hv
  refine newList_K hr.fr hr.news (fun l h' F N hlt => ?_) (by rw [hv.length]; exact hz)
  have hne : ∀ p ∈ W.N, p.1 ≠ l := fun p hp => Nat.ne_of_lt (hlt p hp)
  refine ⟨newL W l _, _, _, h₀, m, newL_le hne, hr.newList s.toks hne hv F N, .lst ?_, h⟩
  show (W.ρ ++ [l])[st.ls.length]? = some l
  rw [← hr.len]
  simp
theorem ev_newTuple {ds : List D} (h : P (.tup ds) st) (hz : ds.length ≤ sizeLine) : EVN G c newTuple ds st P X := by
  intro W s h₀ m vs hr hv
  refine newTuple_N hr.fr hr.news (fun h' F N => ?_) (by rw [hv.length]; exact hz)
  exact ⟨newW W _ _, st, _, h₀, m, newW_le, hr.newObj s.toks F N, .tup (.head _) (hv.mono newW_le), h⟩
theorem ae_list {es : List Expr} {pos : Pos} {env : Env} (h : AL G c (spliced (backTo pos (starEach es env))) st (fun ds st₁ => EVN G c newList ds st₁ P X) X) : AE G c (eval (.List es pos) env) st P X := by
  intro W s h₀ m hr
  refine List_ (h.step (.refl W) hr (fun _ _ x => x) fun W₁ st₁ ds _ _ vs s₁ l₁ _ r₁ p₁ h₁ => ?_)
  exact wpAny_mono (h₁ W₁ s₁ _ _ vs r₁ p₁) (fun _ _ q => q.le l₁) fun _ _ x => x.le l₁
theorem ae_tuple {es : List Expr} {k : Nat} {pos : Pos} {env : Env} (h : AL G c (spliced (backTo pos (starEach es env))) st (fun ds st₁ => EVN G c newTuple ds st₁ P X) X) : AE G c (eval (.Tuple es k pos) env) st P X := by
  intro W s h₀ m hr
  refine Tuple_ (h.step (.refl W) hr (fun _ _ x => x) fun W₁ st₁ ds _ _ vs s₁ l₁ _ r₁ p₁ h₁ => ?_)
  exact wpAny_mono (h₁ W₁ s₁ _ _ vs r₁ p₁) (fun _ _ q => q.le l₁) fun _ _ x => x.le l₁
end

/-! loops -/
def NoX : XPost := fun _ _ _ => False
def loopK (next : St → Prop) (P : AF → St → Prop) : AF → St → Prop
  | .next, st => next st
  | .cont, st => next st
  | .brk, st => P .next st
  | .ret d, st => P (.ret d) st
theorem xp_no {G : Gl} {c : Ac} {W : Wd} {e : Value} {s : Shared} (h : XP G c W NoX e s) : False := by
  obtain ⟨_, _, _, _, _, _, h⟩ := h
  exact h

theorem as_while {G : Gl} {c : Ac} {st : St} {X : XPost} {P : AF → St → Prop} {t : Expr} {body : List Stmt} {pos : Pos} {env : Env} (I : Nat → St → Prop)
    (turn : ∀ n st₁, I n st₁ → AB G c (isTrue t env (eval t env)) st₁ (fun b st₂ => (b = true → AS G c (execs body env) st₂ (loopK (fun st₃ => ∃ k, k < n ∧ I k st₃) P) NoX) ∧ (b = false → P .next st₂)) NoX)
    (n : Nat) (h : I n st) : AS G c (exec (.While t body [] pos) env) st P X := by
  intro W s h₀ m hr
  refine wpAny_While (codeAny_whileLoop (fun k s' => ∃ W' st' h₀' m', W.Le W' ∧ Rel G c W' st' h₀' m' s' ∧ I k st') ?_ n ⟨W, st, h₀, m, .refl W, hr, h⟩)
  rintro k s' ⟨W', st', h₀', m', l', r', hi⟩
  refine (turn k st' hi).step l' r' (fun e s x => (xp_no x).elim) fun W₁ st₁ d _ _ v s₁ l₁ _ r₁ p₁ h₁ => ?_
  have hv : v = d := p₁
  subst hv
  cases v with
  | false => exact wpAny_execs_nil ⟨W₁, st₁, _, _, _, l₁, r₁, .next, h₁.2 rfl⟩
  | true =>
    refine (h₁.1 rfl).step l₁ r₁ (fun e s x => (xp_no x).elim) fun W₂ st₂ af _ _ f s₂ l₂ _ r₂ p₂ h₂ => ?_
    cases p₂ with
    | next => exact let ⟨j, hj, hI⟩ := h₂; ⟨j, hj, W₂, st₂, _, _, l₂, r₂, hI⟩
    | cont => exact let ⟨j, hj, hI⟩ := h₂; ⟨j, hj, W₂, st₂, _, _, l₂, r₂, hI⟩
    | brk => exact ⟨W₂, st₂, _, _, _, l₂, r₂, .next, h₂⟩
    | ret q => exact ⟨W₂, st₂, _, _, _, l₂, r₂, .ret q, h₂⟩


structure Wd.Sub (W W' : Wd) : Prop where
  rho : ∀ (k : Nat) (a : Addr), W.ρ[k]? = some a → W'.ρ[k]? = some a
  keep : ∀ p ∈ W.N, ((∃ vs n, p.2 = tupO vs n) ∨ ∃ a b c t u v, p.2 = rngO a b c t u v) → p ∈ W'.N
mutual
theorem Rep.sub {B : Heap} {W W' : Wd} (hl : W.Sub W') : ∀ {v : Value} {d : D}, Rep B W v d → Rep B W' v d
  | _, _, .none => .none
  | _, _, .bool b => .bool b
  | _, _, .int i t => .int i t
  | _, _, .str x t => .str x t
  | _, _, .tup h r => .tup (hl.keep _ h (.inl ⟨_, _, rfl⟩)) (Reps.sub hl r)
  | _, _, .lst h => .lst (hl.rho _ _ h)
  | _, _, .ro h r => .ro h r
  | _, _, .rng h => .rng (hl.keep _ h (.inr ⟨_, _, _, _, _, _, rfl⟩))
  | _, _, .val v => .val v
theorem Reps.sub {B : Heap} {W W' : Wd} (hl : W.Sub W') : ∀ {vs : List Value} {ds : List D}, Reps B W vs ds → Reps B W' vs ds
  | _, _, .nil => .nil
  | _, _, .cons h r => .cons (Rep.sub hl h) (Reps.sub hl r)
end

structure Iter (G : Gl) (c : Ac) (I : Addr) (IT : Nat → Wd → Heap → Prop) (cur : Nat → St → Option D) : Prop where
  frame : ∀ i W W' h h', IT i W h → h'.get? I = h.get? I → W.Sub W' → IT i W' h'
  there : ∀ i W h, IT i W h → ∃ o, h.get? I = some o ∧ (∀ es n, o.data ≠ .dict es n) ∧ o.cls ≠ .type "tuple" ∧ o.cls ≠ .type "range"
  next : ∀ i W st h₀ m (s : Shared) d, Rel G c W st h₀ m s → IT i W s.heap → cur i st = some d → ∀ (Q : Option Value → Shared → Prop) (E : Value → Shared → Prop),
    (∀ v h' tk, Rep G.base W v d → IT (i + 1) W h' → (∀ b o, b ≠ I → s.heap.get? b = some o → h'.get? b = some o) → Q (some v) { s with heap := h', toks := tk }) → wpAny (model G.prog G.w) c.A (pyNext (.ref I)) Q E s
  stop : ∀ i W st h₀ m (s : Shared), Rel G c W st h₀ m s → IT i W s.heap → cur i st = Option.none → ∀ (Q : Option Value → Shared → Prop) (E : Value → Shared → Prop),
    (∀ h' tk, (∀ b o, b ≠ I → s.heap.get? b = some o → h'.get? b = some o) → Q Option.none { s with heap := h', toks := tk }) → wpAny (model G.prog G.w) c.A (pyNext (.ref I)) Q E s

theorem Rel.moved {G : Gl} {c : Ac} {W : Wd} {st : St} {h₀ : Heap} {m : Str → Option Value} {s : Shared} (h : Rel G c W st h₀ m s) {I : Addr} {h' : Heap} (tk : Nat) (hk : ∀ b o, b ≠ I → s.heap.get? b = some o → h'.get? b = some o)
    (hN : ∀ p ∈ W.N, p.1 ≠ I) (hI : h₀.get? I = none) (hL : I ≠ c.L) : Rel G c W st h₀ m { s with heap := h', toks := tk } := by
  obtain ⟨oL, es, ep, e1, e2⟩ := h.fr.ns
  exact h.rest ⟨⟨oL, es, ep, hk _ _ (fun q => hL q.symm) e1, e2⟩, fun b o e => hk b o (fun q => by rw [q, hI] at e; cases e) (h.fr.keep b o e), h.fr.above⟩ (fun p hp => ⟨hk _ _ (hN p hp) (h.news p hp).1, (h.news p hp).2⟩) tk

/-! the three sources -/
def curL (k : Nat) (i : Nat) (st : St) : Option D := (st.ls[k]?).bind (·[i]?)
theorem iter_lst {G : Gl} {c : Ac} {k : Nat} {I ax : Addr} (hne : ax ≠ I) (hh : c.A.handled = none) : Iter G c I (fun i W h => W.ρ[k]? = some ax ∧ h.IsListIter I ax i) (fun i st => (st.ls[k]?).bind (·[i]?)) where
  frame := fun i W W' h h' q e l => ⟨l.rho _ _ q.1, let ⟨o, ho, r⟩ := q.2; ⟨o, e.trans ho, r⟩⟩
  there := fun i W h q => by
    obtain ⟨o, ho, hc, hd⟩ := q.2
    exact ⟨o, ho, (fun es n e => by (rw [hd] at e; cases e)), (by rw [hc]; decide), (by rw [hc]; decide)⟩
  next := by
    intro i W st h₀ m s d hr q hc Q E hQ
    rw [Option.bind_eq_some_iff] at hc
    obtain ⟨ds, hk, hi⟩ := hc
    obtain ⟨a, vs, n, h1, h2, h3⟩ := hr.lists k ds hk
    rw [q.1] at h1
    cases h1
    obtain ⟨v, hv, hrep⟩ := h3.get hi
    have hl : s.heap.IsList ax vs.toArray := ⟨_, (hr.news _ h2).1, rfl, n, rfl⟩
    refine wpAny_pyNext_list_item q.2 hl (by simpa using hv) fun h' hit hs => ?_
    exact hQ v h' s.toks hrep ⟨q.1, hit⟩ fun b o hb e => (hs.2 b hb).trans e
  stop := by
    intro i W st h₀ m s hr q hc Q E hQ
    obtain ⟨j, ds, vs, n, hk, hj, h2, h3⟩ := hr.toCore.rho_in (List.mem_of_getElem? q.1)
    have hjk : j = k := (List.getElem?_inj (by
        rcases Nat.lt_or_ge j W.ρ.length with z | z
        · exact z
        · rw [List.getElem?_eq_none z] at hj; cases hj) hr.nodup).mp (hj.trans q.1.symm)
    subst hjk
    have hi : ds[i]? = Option.none := by
      rw [hk] at hc
      simpa using hc
    have hl : s.heap.IsList ax vs.toArray := ⟨_, (hr.news _ h2).1, rfl, n, rfl⟩
    refine wpAny_pyNext_list_end hh q.2 hl ?_ fun h' hs => hQ h' s.toks fun b o hb e => hs b o hb e
    rw [List.getElem?_toArray]
    rw [List.getElem?_eq_none_iff] at hi ⊢
    rw [h3.length]
    exact hi
theorem iter_ro {G : Gl} {c : Ac} {ns : List Int} {vs : List Value} {I ax : Addr} (hb : G.base.IsList ax vs.toArray) (hi : IntsAre vs ns) (hh : c.A.handled = none) : Iter G c I (fun i _ h => h.IsListIter I ax i) (fun i _ => (ns[i]?).map D.int) where
  frame := fun i W W' h h' q e _ => let ⟨o, ho, r⟩ := q; ⟨o, e.trans ho, r⟩
  there := fun i W h q => by
    obtain ⟨o, ho, hc, hd⟩ := q
    exact ⟨o, ho, (fun es n e => by (rw [hd] at e; cases e)), (by rw [hc]; decide), (by rw [hc]; decide)⟩
  next := by
    intro i W st h₀ m s d hr q hc Q E hQ
    have h3 : Reps G.base W vs (ns.map D.int) := Reps.ofInts hi
    obtain ⟨v, hv, hrep⟩ := h3.get (k := i) (d := d) (by rw [List.getElem?_map]; exact hc)
    have hl : s.heap.IsList ax vs.toArray := stays_list (fun b o e => hr.fr.keep b o (hr.below.stays b o e)) hb
    refine wpAny_pyNext_list_item q hl (by simpa using hv) fun h' hit hs => ?_
    exact hQ v h' s.toks hrep hit fun b o hb e => (hs.2 b hb).trans e
  stop := by
    intro i W st h₀ m s hr q hc Q E hQ
    have h3 : Reps G.base W vs (ns.map D.int) := Reps.ofInts hi
    have hl : s.heap.IsList ax vs.toArray := stays_list (fun b o e => hr.fr.keep b o (hr.below.stays b o e)) hb
    refine wpAny_pyNext_list_end hh q hl ?_ fun h' hs => hQ h' s.toks fun b o hb e => hs b o hb e
    rw [List.getElem?_toArray]
    have hi : ns[i]? = Option.none := by simpa using hc
    rw [List.getElem?_eq_none_iff] at hi ⊢
    rw [h3.length, List.length_map]
    exact hi
def ForP (G : Gl) (c : Ac) (x : Str) (px : Pos) (body : List Stmt) (d : D) (st : St) (P : AF → St → Prop) (X : XPost) : Prop :=
  ∀ W₀ W s h₀ m v, W₀.Le W → Rel G c W st h₀ m s → Rep G.base W v d → wpAny (model G.prog G.w) c.A (pyIter v) (fun it s₂ => codeAny (model G.prog G.w) c.A (.forLoop (.Name x px) it body [] c.env)
    (fun r s' => match r with | .ok f => QP RepF G c W₀ P f s' | .error e => cameBackBy (model G.prog G.w) c.A c.env (XP G c W₀ X) e s') s₂) (XP G c W₀ X) s

section
variable {G : Gl} {c : Ac} {st : St} {X : XPost} {P : AF → St → Prop}
theorem Rel.pushed {W : Wd} {h₀ : Heap} {m : Str → Option Value} {s : Shared} (h : Rel G c W st h₀ m s) (o : Obj) : Rel G c W st h₀ m { s with heap := s.heap.push o } :=
  h.rest (h.fr.push o) (fun p hp => ⟨Heap.get?_push_of_some _ (h.news p hp).1, (h.news p hp).2⟩) s.toks
theorem Rel.fresh {W : Wd} {h₀ : Heap} {m : Str → Option Value} {s : Shared} (h : Rel G c W st h₀ m s) : (∀ p ∈ W.N, p.1 ≠ s.heap.objs.size) ∧ s.heap.objs.size ∉ W.ρ ∧ h₀.get? s.heap.objs.size = none ∧ s.heap.objs.size ≠ c.L := by
  refine ⟨fun p hp => Nat.ne_of_lt (h.lt hp), fun q => Nat.lt_irrefl _ (h.rho_lt q), ?_, fun q => ?_⟩
  · cases hq : h₀.get? s.heap.objs.size with
    | none => rfl
    | some o => exact absurd (Heap.lt_size (h.fr.keep _ _ hq)) (Nat.lt_irrefl _)
  · have := h.fr.ns.lt
    rw [← q] at this
    exact Nat.lt_irrefl _ this

end

/-! raising and ending while an exception is handled -/
theorem entry_unchain2 : entryFor table "proto.unchain" = some Builtin.«proto.unchain» := entryFor_of_tree (by kernel_rfl)
/-- what is handled is nothing, or a record whose context is None -/
def Hnd (A : Around) (h : Heap) : Prop := A.handled = none ∨ ∃ ea, A.handled = some (.ref ea) ∧ F2 h ea
section
variable {prog : Program} {w : World} {A : Around} {E : Value → Shared → Prop} {s : Shared}
theorem raise2 {α : Type} {a : Addr} {o : Obj} {vs : Array Value} {Q : α → Shared → Prop} (hh : Hnd A s.heap) (ho : s.heap.get? a = some o) (hd : o.data = .fields vs) (h2 : 2 < vs.size) (hne : ∀ ea, A.handled = some (.ref ea) → ea ≠ a)
    (h : ∀ h', Heap.SameBut a s.heap h' → (∃ o', h'.get? a = some o' ∧ o'.cls = o.cls) → E (.ref a) { s with heap := h' }) : wpAny (model prog w) A (raiseNew (.ref a) : Sem α) Q E s := by
  unfold raiseNew
  refine wpAny_bind (wpAny_handled ?_)
  rcases hh with hh | ⟨ea, hh, oe, ws, he, hde, hc⟩
  · rw [hh]
    exact wpAny_bind (wpAny_pure (wpAny_throw (h s.heap (Heap.SameBut.refl ..) ⟨o, ho, rfl⟩)))
  · rw [hh]
    have hn := hne ea hh
    show wpAny _ _ (if (Value.ref ea != Value.ref a) = true then _ else _) _ _ _
    rw [if_pos (by simpa using hn)]
    refine wpAny_bind (wpAny_holding (wpAny_runValue (codeAny_builtin entry_unchain2 ?_)))
    show wpAny _ _ (field (.ref ea) 2 >>= _) _ _ s
    refine wpAny_bind (wpAny_field he hde hc ?_)
    show wpAny _ _ (ret .none) _ _ s
    refine wpAny_pure ?_
    refine wpAny_bind ?_
    unfold updateField
    refine wpAny_bind (wpAny_load ho ?_)
    rw [hd]
    show wpAny _ _ (if 2 < vs.size then _ else _) _ _ s
    rw [if_pos h2]
    refine wpAny_update ho (wpAny_throw (h _ (Heap.SameBut.update ..) ?_))
    exact ⟨_, Heap.get?_update_self _ ho (Obj.isFreed_of_fields (Obj.data_mapFields hd _)), Obj.cls_mapFields ..⟩
theorem next_end2 {it t : Addr} {i : Nat} {items : Array Value} {Q : Option Value → Shared → Prop} (hh : Hnd A s.heap) (hne : ∀ ea, A.handled = some (.ref ea) → ea ≠ it)
    (hit : IsTupIter s.heap it t i) (ht : IsTup s.heap t items) (hx : items[i]? = none)
    (hQ : ∀ h', Heap.ExtBut it s.heap h' → Q none { s with heap := h' }) : wpAny (model prog w) A (pyNext (.ref it)) Q E s := by
  obtain ⟨o, ho, hc, hd⟩ := id hit
  obtain ⟨ol, hol, _, nl, hdl⟩ := ht
  unfold pyNext
  refine wpAny_bind (wpAny_attempt (wpAny_callSpecial?_slot (name := Str.ofString "__next__") hit.typeIs slot_tupleiter_next
    (wpAny_call_entry slot_tupleiter_next hit.typeIs entry_tupleiter_next ?_ (args_tupleiter_next _))))
  show wpAny _ _ (field (.ref it) 0 >>= _) _ _ s
  refine wpAny_bind (wpAny_field ho hd (x := .ref t) rfl ?_)
  show wpAny _ _ (if (Value.ref t == Value.none) = true then _ else _) _ _ s
  rw [if_neg (show ¬ ((Value.ref t == Value.none) = true) from Bool.false_ne_true)]
  show wpAny _ _ (field (.ref it) 1 >>= _) _ _ s
  refine wpAny_bind (wpAny_field ho hd (x := .int i 0) rfl ?_)
  show wpAny _ _ (seqItems? (.ref t) >>= _) _ _ s
  refine wpAny_bind (wpAny_seqItems hol hdl ?_)
  simp only [Int.toNat_natCast, hx]
  refine wpAny_bind (wpAny_rule (wpAny_bind (wpAny_setField ho hd (by simp) ?_)))
  show wpAny _ _ (newExc (.type "StopIteration") [] >>= _) _ _ _
  refine wpAny_bind ?_
  simp only [newExc, newTuple]
  refine wpAny_bind (wpAny_newObj_type ?_ (by size_fits))
  refine wpAny_bind (m := firstArgMember _ _) (wpAny_of_eq (a := Value.none) (by first | rfl | (simp only [firstArgMember]; rfl)) ?_)
  refine wpAny_newObj_type ?_ (by size_fits)
  have ext := ((Heap.SameBut.update (h := s.heap) (a := it) (f := (Obj.mapFields fun x => x.setIfInBounds 0 Value.none))).extBut.push { cls := .type "tuple", dict := none, data := .seq [].toArray }).push { cls := .type "StopIteration", dict := none, data := .fields (#[.ref (s.heap.update it (Obj.mapFields fun x => x.setIfInBounds 0 Value.none)).objs.size, .none, .none, .none, .bool false, .none] ++ ownMembersOf (.type "StopIteration") []) }
  refine raise2 (A := A.in1) ?_ (Heap.get?_push_size _ rfl) rfl (show (2 : Nat) < 6 by decide) ?_ fun h' hs ⟨o', ho', hc'⟩ => ?_
  · rcases hh with hh | ⟨ea, hh, oe, ws, he, hde, hcx⟩
    · exact .inl hh
    · exact .inr ⟨ea, hh, oe, ws, ext _ _ (hne ea hh) he, hde, hcx⟩
  · intro ea hea q
    rcases hh with hh | ⟨ea', hh, oe, ws, he, hde, hcx⟩
    · exact absurd (hh.symm.trans hea) (by intro q; cases q)
    · have : ea' = ea := by
        have := hh.symm.trans hea
        cases this
        rfl
      subst this
      have := Heap.lt_size he
      rw [q] at this
      simp only [Heap.size_push, Heap.size_after_update] at this
      exact absurd this (Nat.not_lt.mpr (Nat.le_succ _))
  · refine wpAny_bind (wpAny_isInstance (T := "StopIteration") (b := true) ⟨_, ho', hc'⟩ isSubtype_stop ?_)
    refine wpAny_pure (hQ _ fun b x hb e => ?_)
    have hb' : b ≠ ((s.heap.update it (Obj.mapFields fun x => x.setIfInBounds 0 Value.none)).push { cls := .type "tuple", dict := none, data := .seq [].toArray }).objs.size := fun q => by
      have := Heap.lt_size e
      rw [q] at this
      simp only [Heap.size_push, Heap.size_after_update] at this
      exact absurd this (Nat.not_lt.mpr (Nat.le_succ _))
    exact (hs.2 b hb').trans (ext b x hb e)
theorem unpackItems2 {t : Addr} {items : Array Value} {Q : List Value → Shared → Prop} (hh : Hnd A s.heap) (ht : IsTup s.heap t items)
    (hQ : ∀ h', Heap.ExtBut s.heap.objs.size s.heap h' → Q items.toList { s with heap := h' }) : wpAny (model prog w) A (unpackItems (.ref t) items.size none) Q E s := by
  have hlt : t ≠ s.heap.objs.size := by obtain ⟨o, ho, _⟩ := ht; exact Nat.ne_of_lt (Heap.lt_size ho)
  have hne : ∀ ea, A.handled = some (.ref ea) → ea ≠ s.heap.objs.size := fun ea hea q => by
    rcases hh with hh | ⟨ea', hh, oe, ws, he, _⟩
    · exact absurd (hh.symm.trans hea) (by intro q; cases q)
    · have z := hh.symm.trans hea
      cases z
      have := Heap.lt_size he
      rw [q] at this
      exact Nat.lt_irrefl _ this
  unfold unpackItems
  refine wpAny_bind ?_
  unfold notIterableAtAll
  refine wpAny_bind (wpAny_specialOf ht.typeIs slot_tuple_iter.lookup ?_)
  refine wpAny_pure ?_
  simp only [Bool.false_eq_true, if_false]
  refine wpAny_bind (wpAny_holding (PyProof.Rows.iter_tuple ht ?_))
  refine wpAny_bind (wpAny_holding (draw_tuple hlt items.size 0 _ _ ⟨_, Heap.get?_push_size _ rfl, rfl, rfl⟩ (ht.push _) (by omega) fun h₁ hit₁ hs₁ => ?_))
  have hall : List.take items.size (List.drop 0 items.toList) = items.toList := by
    rw [List.drop_zero]
    exact List.take_of_length_le (by simp)
  rw [hall]
  rw [if_neg (by simp)]
  have ht₁ : IsTup h₁ t items := (ht.push _).extBut hs₁.extBut hlt
  have hh₁ : Hnd A h₁ := by
    rcases hh with hh | ⟨ea, hh, oe, ws, he, hde, hcx⟩
    · exact .inl hh
    · exact .inr ⟨ea, hh, oe, ws, hs₁.extBut _ _ (hne ea hh) (Heap.get?_push_of_some _ he), hde, hcx⟩
  refine wpAny_bind (wpAny_holding (next_end2 hh₁ hne hit₁ ht₁ (by simp) fun h₂ he₂ => ?_))
  simp only [Option.isSome_none, Bool.false_eq_true, if_false]
  exact wpAny_pure (hQ h₂ fun b o hb e => he₂ b o hb (hs₁.extBut b o hb (Heap.get?_push_of_some _ e)))
theorem unpack2 {env : Env} {elts : List Expr} {k : Nat} {pos : Pos} {h₀ : Heap} {L : Addr} {m : Str → Option Value} {news : List (Addr × Obj)} {t : Addr} {items : Array Value} {Q : Unit → Shared → Prop} (F : Fr h₀ L s.heap m) (N : News h₀ L s.heap news) (ht : IsTup s.heap t items)
    (hh : Hnd A s.heap) (hn : (assignEach elts env).length = items.size) (hstar : (assignEach elts env).findIdx? (·.1) = none)
    (h : ∀ h', Fr h₀ L h' m → News h₀ L h' news → wpAny (model prog w) A (assignInOrder ((assignEach elts env).map (·.2)) items.toList) Q E { s with heap := h' }) :
    wpAny (model prog w) A (assign (.Tuple elts k pos) env (.ref t)) Q E s := by
  rw [PyProof.Rows.assign_Tuple]
  refine wpAny_bind (wpAny_standAt ?_)
  unfold unpack
  rw [hn, hstar]
  exact wpAny_bind (wpAny_holding (unpackItems2 hh ht fun h' he => h h' (F.extBut he (Nat.le_refl _)) (N.extBut he (Nat.le_refl _))))
end
theorem Rel.hnd {G : Gl} {c : Ac} {st : St} {W : Wd} {h₀ : Heap} {m : Str → Option Value} {s : Shared} (hr : Rel G c W st h₀ m s) : Hnd c.A s.heap := by
  cases q : c.A.handled with
  | none => exact .inl q
  | some v =>
    obtain ⟨ea, oe, vs, rfl, hm, _, hd, h2⟩ := hr.hdo v q
    exact .inr ⟨ea, q, oe, vs, (hr.news _ hm).1, hd, h2⟩

section
variable {G : Gl} {c : Ac} {st : St} {X : XPost} {P : D → St → Prop}

/-! items -/
theorem ae_sub {v i : Expr} {pos : Pos} {env : Env} (h : AE G c (eval v env) st (fun d st₁ => AE G c (eval i env) st₁ (fun e st₂ => EV2 G c (subscriptTail v i) d e st₂ P X) X) X) : AE G c (eval (.Subscript v i pos) env) st P X := by
  intro W s h₀ m hr
  refine Subscript_ (h.step (.refl W) hr (fun _ _ x => x) fun W₁ st₁ d _ _ v s₁ l₁ _ r₁ p₁ h₁ => ?_)
  refine h₁.step l₁ r₁ (fun _ _ x => x) fun W₂ st₂ e _ _ u s₂ l₂ k₂ r₂ p₂ h₂ => ?_
  exact wpAny_mono (h₂ W₂ s₂ _ _ v u r₂ (p₁.mono k₂) p₂) (fun _ _ q => q.le l₂) fun _ _ x => x.le l₂
theorem Rel.isRo {W : Wd} {h₀ : Heap} {m : Str → Option Value} {s : Shared} (hr : Rel G c W st h₀ m s) {a : Addr} {vs : List Value} (hb : G.base.IsList a vs.toArray) : s.heap.IsList a vs.toArray :=
  stays_list (fun b o e => hr.fr.keep b o (hr.below.stays b o e)) hb
theorem Rel.isLst {W : Wd} {h₀ : Heap} {m : Str → Option Value} {s : Shared} (hr : Rel G c W st h₀ m s) {k : Nat} {a : Addr} {ds : List D} (hk : st.ls[k]? = some ds) (hρ : W.ρ[k]? = some a) :
    ∃ vs n, s.heap.get? a = some (listOf vs.toArray n) ∧ s.heap.IsList a vs.toArray ∧ Reps G.base W vs ds := by
  obtain ⟨b, vs, n, h1, h2, h3⟩ := hr.lists k ds hk
  rw [hρ] at h1
  cases h1
  exact ⟨vs, n, (hr.news _ h2).1, ⟨_, (hr.news _ h2).1, rfl, n, rfl⟩, h3⟩
theorem ev_item_ro {v i : Expr} {ns : List Int} {k : Int} {n : Int} (h0 : 0 ≤ k) (hx : ns[k.toNat]? = some n) (h : P (.int n) st) (hf : k < 2 ^ 63 := by omega)
    (hs : ∀ o u, subscripted i false o u = operate [o, u] (getItem o u) := by intro _ _; rfl) : EV2 G c (subscriptTail v i) (.ro ns) (.int k) st P X := by
  intro W s h₀ m a u hr ha hu
  cases hu
  cases ha with
  | ro hb hI =>
    have h3 : Reps G.base W _ (ns.map D.int) := Reps.ofInts hI
    obtain ⟨x, hv, hrep⟩ := h3.get (k := k.toNat) (d := .int n) (by rw [List.getElem?_map, hx]; rfl)
    have hL := hr.isRo hb
    exact tail_any hL.typeIs slot_list_getitem.lookup (wpAny_getItem_list hL h0 hf (by simpa using hv) (hr.here0 hrep h)) (hs _ _)
theorem ev_item_lst {v i : Expr} {j : Nat} {ds : List D} {k : Int} {d : D} (hj : st.ls[j]? = some ds) (h0 : 0 ≤ k) (hx : ds[k.toNat]? = some d) (h : P d st) (hf : k < 2 ^ 63 := by omega)
    (hs : ∀ o u, subscripted i false o u = operate [o, u] (getItem o u) := by intro _ _; rfl) : EV2 G c (subscriptTail v i) (.lst j) (.int k) st P X := by
  intro W s h₀ m a u hr ha hu
  cases hu
  cases ha with
  | lst hρ =>
    obtain ⟨vs, n, _, hL, h3⟩ := hr.isLst hj hρ
    obtain ⟨x, hv, hrep⟩ := h3.get hx
    exact tail_any hL.typeIs slot_list_getitem.lookup (wpAny_getItem_list hL h0 hf (by simpa using hv) (hr.here0 hrep h)) (hs _ _)
/-! bools as ints -/
theorem ev_addB {a : Int} {b : Bool} (h : P (.int (a + if b = true then 1 else 0)) st) : EV2 G c (binaryOp .Add) (.int a) (.bool b) st P X := by
  intro W s h₀ m v u hr hv hu
  cases hv; cases hu
  exact add_int_bool (hr.here _ (.int _ _) h)
theorem ev_iadd {a b : Int} (h : P (.int (a + b)) st) : EV2 G c (inplaceOp .Add) (.int a) (.int b) st P X := by
  intro W s h₀ m v u hr hv hu
  cases hv; cases hu
  exact PyProof.Rows.iadd_int (hr.here _ (.int _ _) h)
theorem ev_isub {a b : Int} (h : P (.int (a - b)) st) : EV2 G c (inplaceOp .Sub) (.int a) (.int b) st P X := by
  intro W s h₀ m v u hr hv hu
  cases hv; cases hu
  exact PyProof.Rows.isub_int (hr.here _ (.int _ _) h)
theorem ev_eqB {a b : Bool} (h : P (.bool (a == b)) st) : EV2 G c (compareOp .Eq) (.bool a) (.bool b) st P X := by
  intro W s h₀ m v u hr hv hu
  cases hv; cases hu
  exact eq_bool (hr.here0 (.bool _) h)
/-! divmod -/
theorem ev_divmod {a b : Int} (hb : 0 < b) (hq : b < 1073741824) (h : P (.tup [.int (a / b), .int (a % b)]) st) : EVN G c (callV (.builtin "divmod")) [.int a, .int b] st P X := by
  intro W s h₀ m vs hr hv
  cases hv with
  | cons h1 h2 =>
    cases h1
    cases h2 with
    | cons h3 h4 =>
      cases h3
      cases h4
      refine divmod_N hr.fr hr.news (by omega) (fun h' F N => ?_) (.inl (PyProof.noPylong_small (by omega)))
      refine ⟨newW W _ _, st, _, h₀, m, newW_le, hr.newObj _ F N, ?_, h⟩
      rw [← Int.fdiv_eq_ediv_of_nonneg _ (by omega), ← Int.fmod_eq_emod_of_nonneg _ (by omega)]
      exact .tup (vs := [.int (a.fdiv b) s.toks, .int (a.fmod b) (s.toks + 1)]) (.head _) (.cons (.int _ _) (.cons (.int _ _) .nil))
end

/-! unpacking -/
def StoreAll : List Str → List D → St → (St → Prop) → Prop
  | [], _, st, k => k st
  | _ :: _, [], _, _ => False
  | x :: xs, d :: ds, st, k => Store st x d (fun st₁ => StoreAll xs ds st₁ k)
section
variable {G : Gl} {c : Ac} {st : St} {X : XPost}
theorem assign_all {P : Unit → St → Prop} : ∀ (ts : List (Str × Pos)) (ds : List D) (st : St), ts.length = ds.length → (∀ t ∈ ts, c.env.kindOf t.1 = some .local) → StoreAll (ts.map (·.1)) ds st (P ()) →
    AN RepU G c (fun vs => assignInOrder ((assignEach (ts.map fun t => Expr.Name t.1 t.2) c.env).map (·.2)) vs) ds st P X
  | [], ds, st, hl, _, h => by
    intro W s h₀ m vs hr hv
    cases ds with
    | nil => cases hv; exact wpAny_pure (hr.here0 trivial h)
    | cons => simp at hl
  | t :: ts, [], st, hl, _, h => by simp at hl
  | t :: ts, d :: ds, st, hl, hk, h => by
    intro W s h₀ m vs hr hv
    cases hv with
    | cons h1 h2 =>
      rename_i v vs
      show wpAny _ _ (do holding vs (assign (.Name t.1 t.2) c.env v); assignInOrder ((assignEach (ts.map fun t => Expr.Name t.1 t.2) c.env).map (·.2)) vs) _ _ s
      refine wpAny_bind (wpAny_holding (wpAny_assign_Name (wpAny_mono (au_store (X := X) (P := fun _ st₂ => StoreAll (ts.map (fun t : Str × Pos => t.1)) ds st₂ (P ())) (x := t.1) (d := d) h (hk t (.head _)) W s h₀ m v hr h1) (fun _ s₁ q => ?_) fun _ _ x => x)))
      obtain ⟨W₁, st₁, _, h₁, m₁, l₁, r₁, _, q₁⟩ := q
      exact wpAny_mono (assign_all ts ds st₁ (by simpa using hl) (fun t ht => hk t (.tail _ ht)) q₁ W₁ s₁ h₁ m₁ vs r₁ (h2.mono l₁)) (fun _ _ q => q.le l₁) fun _ _ x => x.le l₁
theorem starless (ts : List (Str × Pos)) : (assignEach (ts.map fun t => Expr.Name t.1 t.2) c.env).findIdx? (·.1) = Option.none ∧ (assignEach (ts.map fun t => Expr.Name t.1 t.2) c.env).length = ts.length := by
  induction ts with
  | nil => exact ⟨rfl, rfl⟩
  | cons t ts ih =>
    show ((false, assign (.Name t.1 t.2) c.env) :: assignEach (ts.map fun t => Expr.Name t.1 t.2) c.env).findIdx? (·.1) = Option.none ∧ _
    refine ⟨?_, ?_⟩
    · rw [List.findIdx?_cons]
      simp [ih.1]
    · show ((false, assign (.Name t.1 t.2) c.env) :: assignEach (ts.map fun t => Expr.Name t.1 t.2) c.env).length = _
      simp [ih.2]

/-- what may be unpacked -/
def Unp (c : Ac) (st : St) : D → List D → Prop
  | .tup es, ds => es = ds
  | .lst k, ds => st.ls[k]? = some ds ∧ c.A.handled = none
  | _, _ => False
theorem as_unpack {P : AF → St → Prop} {ts : List (Str × Pos)} {elts : List Expr} {k : Nat} {tp pos : Pos} {e : Expr} (hts : elts = ts.map fun t => Expr.Name t.1 t.2) (hk : ∀ t ∈ ts, c.env.kindOf t.1 = some .local)
    (h : AE G c (eval e c.env) st (fun d st₁ => ∃ ds, Unp c st₁ d ds ∧ ts.length = ds.length ∧ StoreAll (ts.map (·.1)) ds st₁ (P .next)) X)
    (hs : swapsWithSole [.Tuple elts k tp] e pos.line c.env = pure false := by rfl) (hw : swappedStores [.Tuple elts k tp] e c.env = pure Option.none := by rfl) : AS G c (exec (.Assign [.Tuple elts k tp] e pos) c.env) st P X := by
  intro W s h₀ m hr
  subst hts
  refine Assign_Tuple (h.step (.refl W) hr (fun _ _ x => x) fun W₁ st₁ d h₁' m₁ v s₁ l₁ _ r₁ p₁ h₁ => ?_) hs hw
  obtain ⟨ds, hu, hlen, hst⟩ := h₁
  obtain ⟨f1, f2⟩ := starless (c := c) ts
  have fin : ∀ (vs : List Value) (h' : Heap), Reps G.base W₁ vs ds → Fr h₁' c.L h' m₁ → News h₁' c.L h' W₁.N → wpAny (model G.prog G.w) c.A (assignInOrder ((assignEach (ts.map fun t => Expr.Name t.1 t.2) c.env).map (·.2)) vs) (fun _ => QP RepF G c W P .next) (XP G c W X) { s₁ with heap := h' } := by
    intro vs h' hv F N
    refine wpAny_mono (assign_all (X := X) (P := fun _ st₂ => P .next st₂) ts ds st₁ hlen hk hst W₁ _ _ _ vs (r₁.rest F N s₁.toks) hv) (fun _ s₂ q => ?_) fun _ _ x => x.le l₁
    obtain ⟨W₂, st₂, _, h₂, m₂, l₂, r₂, _, q₂⟩ := q
    exact ⟨W₂, st₂, .next, h₂, m₂, l₁.trans l₂, r₂, .next, q₂⟩
  cases p₁ with
  | tup hm h3 =>
    rename_i a vs n es
    have hu : es = ds := hu
    subst hu
    have hT : IsTup s₁.heap a vs.toArray := ⟨_, (r₁.news _ hm).1, rfl, _, rfl⟩
    refine unpack2 r₁.fr r₁.news hT r₁.hnd (by rw [f2, List.size_toArray, h3.length]; exact hlen) f1 fun h' F N => ?_
    exact fin vs h' h3 F N
  | lst hρ =>
    obtain ⟨hu, hh⟩ : st₁.ls[_]? = some ds ∧ c.A.handled = none := hu
    obtain ⟨vs, n, _, hL, h3⟩ := r₁.isLst hu hρ
    rw [PyProof.Rows.assign_Tuple]
    refine wpAny_bind (wpAny_standAt ?_)
    unfold unpack
    refine wpAny_bind (wpAny_holding ?_)
    rw [f1]
    refine kun_items r₁.fr r₁.news hL hh (by rw [f2, List.size_toArray, h3.length]; exact hlen) fun h' F N => ?_
    exact fin vs h' h3 F N
  | _ => exact hu.elim
end

/-! glue for the steps -/
theorem spl {p : Prop} [Decidable p] {A B : Prop} (h1 : p → A) (h2 : ¬ p → B) : (decide p = true → A) ∧ (decide p = false → B) :=
  ⟨fun h => h1 (of_decide_eq_true h), fun h => h2 (of_decide_eq_false h)⟩
theorem splN {b : Bool} {A B : Prop} (h : (b = true → B) ∧ (b = false → A)) : ((!b) = true → A) ∧ ((!b) = false → B) := by
  cases b <;> simp_all
theorem splT {A B : Prop} (h : A) : (true = true → A) ∧ (true = false → B) := ⟨fun _ => h, fun q => by cases q⟩
theorem splF {A B : Prop} (h : B) : (false = true → A) ∧ (false = false → B) := ⟨fun q => (by cases q), fun _ => h⟩
theorem dec_and {p : Prop} [Decidable p] {A : Prop} (hp : p) (h : A) : decide p = true ∧ A := ⟨decide_eq_true hp, h⟩
theorem ff_and {A : Prop} (h : False) : false = true ∧ A := h.elim
theorem seqK_next {k : St → Prop} {P : AF → St → Prop} {st : St} (h : k st) : seqK k P .next st := h
theorem seqK_ret {k : St → Prop} {P : AF → St → Prop} {st : St} {d : D} (h : P (.ret d) st) : seqK k P (.ret d) st := h
theorem retK_ret {P : D → St → Prop} {st : St} {env : List (Str × D)} {ls : List (List D)} {d : D} (h : P d ⟨st.env, ls, st.tn⟩) : retK P st (.ret d) ⟨env, ls, false⟩ := h
theorem retK_retT {P : D → St → Prop} {st : St} {env : List (Str × D)} {ls : List (List D)} {tn : Bool} {d : D} (h : P d ⟨st.env, ls, tn || st.tn⟩) : retK P st (.ret d) ⟨env, ls, tn⟩ := h
theorem loopK_next {k : St → Prop} {P : AF → St → Prop} {st : St} (h : k st) : loopK k P .next st := h
theorem mulL {a b : Int} (h1 : -(2 ^ 64) < a) (h2 : a < 2 ^ 64) : IntMulOk a b := IntMulOk.of_left (intBits_le_64 h1 h2)
theorem mulR {a b : Int} (h1 : -(2 ^ 64) < b) (h2 : b < 2 ^ 64) : IntMulOk a b := IntMulOk.of_right (intBits_le_64 h1 h2)
theorem ro_of {K : Frag} {B : Heap} {a : Addr} {vs : List Value} {n : Nat} {ns : List Int} (e : K.lookup a = some (listOf vs.toArray n)) (hi : IntsAre vs ns) : K.In B → ∀ W, Rep B W (.ref a) (.ro ns) :=
  fun kb _ => .ro ⟨_, kb _ _ e, rfl, n, rfl⟩ hi
theorem rep_int {K : Frag} {B : Heap} {i : Int} {t : Tok} : K.In B → ∀ W, Rep B W (.int i t) (.int i) := fun _ _ => .int i t
theorem store_o {env : List (Str × D)} {ls : List (List D)} {tn : Bool} {x : Str} {d : D} {k : St → Prop} {i : Nat} {env' : List (Str × D)} (hi : idxE env x = some i) (he : env.set i (x, d) = env') (h : k ⟨env', ls, tn⟩) : Store ⟨env, ls, tn⟩ x d k :=
  store_old hi (he ▸ h)
theorem store_n {env : List (Str × D)} {ls : List (List D)} {tn : Bool} {x : Str} {d : D} {k : St → Prop} {env' : List (Str × D)} (hi : idxE env x = Option.none) (he : env ++ [(x, d)] = env') (h : k ⟨env', ls, tn⟩) : Store ⟨env, ls, tn⟩ x d k :=
  store_new hi (he ▸ h)
theorem storeAll_cons {x : Str} {xs : List Str} {d : D} {ds : List D} {st : St} {k : St → Prop} (h : Store st x d (fun st₁ => StoreAll xs ds st₁ k)) : StoreAll (x :: xs) (d :: ds) st k := h
theorem storeAll_nil {ds : List D} {st : St} {k : St → Prop} (h : k st) : StoreAll [] ds st k := h
theorem ae_gint {G : Gl} {c : Ac} {st : St} {X : XPost} {P : D → St → Prop} {x : Str} {pos : Pos} {i : Int} {t : Tok} (e : nsIn G.K mainGlobals x = some (some (.int i t))) (hp : P (.int i) st)
    (hx : c.env.kindOf x = some .globalImplicit) (hd : (x == ("__debug__" : Str)) = false) : AE G c (eval (.Name x pos) c.env) st P X := ae_global e rep_int hp hx hd
theorem ae_gro {G : Gl} {c : Ac} {st : St} {X : XPost} {P : D → St → Prop} {x : Str} {pos : Pos} {a : Addr} {vs : List Value} {n : Nat} {ns : List Int} (e : nsIn G.K mainGlobals x = some (some (.ref a))) (e2 : G.K.lookup a = some (listOf vs.toArray n)) (hi : IntsAre vs ns) (hp : P (.ro ns) st)
    (hx : c.env.kindOf x = some .globalImplicit) (hd : (x == ("__debug__" : Str)) = false) : AE G c (eval (.Name x pos) c.env) st P X := ae_global e (ro_of e2 hi) hp hx hd
section
variable {G : Gl} {c : Ac} {st : St} {X : XPost} {P : AF → St → Prop}
theorem as_unpack2 {x1 x2 : Str} {p1 p2 tp pos : Pos} {k : Nat} {e : Expr} (k1 : c.env.kindOf x1 = some .local) (k2 : c.env.kindOf x2 = some .local)
    (h : AE G c (eval e c.env) st (fun d st₁ => ∃ ds, Unp c st₁ d ds ∧ 2 = ds.length ∧ StoreAll [x1, x2] ds st₁ (P .next)) X)
    (hs : swapsWithSole [.Tuple [.Name x1 p1, .Name x2 p2] k tp] e pos.line c.env = pure false) (hw : swappedStores [.Tuple [.Name x1 p1, .Name x2 p2] k tp] e c.env = pure Option.none) :
    AS G c (exec (.Assign [.Tuple [.Name x1 p1, .Name x2 p2] k tp] e pos) c.env) st P X :=
  as_unpack (ts := [(x1, p1), (x2, p2)]) rfl (fun t ht => by
    rcases List.mem_cons.mp ht with rfl | ht
    · exact k1
    · rcases List.mem_cons.mp ht with rfl | ht
      · exact k2
      · cases ht) h hs hw
theorem as_unpack3 {x1 x2 x3 : Str} {p1 p2 p3 tp pos : Pos} {k : Nat} {e : Expr} (k1 : c.env.kindOf x1 = some .local) (k2 : c.env.kindOf x2 = some .local) (k3 : c.env.kindOf x3 = some .local)
    (h : AE G c (eval e c.env) st (fun d st₁ => ∃ ds, Unp c st₁ d ds ∧ 3 = ds.length ∧ StoreAll [x1, x2, x3] ds st₁ (P .next)) X)
    (hs : swapsWithSole [.Tuple [.Name x1 p1, .Name x2 p2, .Name x3 p3] k tp] e pos.line c.env = pure false) (hw : swappedStores [.Tuple [.Name x1 p1, .Name x2 p2, .Name x3 p3] k tp] e c.env = pure Option.none) :
    AS G c (exec (.Assign [.Tuple [.Name x1 p1, .Name x2 p2, .Name x3 p3] k tp] e pos) c.env) st P X :=
  as_unpack (ts := [(x1, p1), (x2, p2), (x3, p3)]) rfl (fun t ht => by
    rcases List.mem_cons.mp ht with rfl | ht
    · exact k1
    · rcases List.mem_cons.mp ht with rfl | ht
      · exact k2
      · rcases List.mem_cons.mp ht with rfl | ht
        · exact k3
        · cases ht) h hs hw
theorem unp_tup {n : Nat} {xs : List Str} {es : List D} {k : St → Prop} (hn : n = es.length) (h : StoreAll xs es st k) : ∃ ds, Unp c st (.tup es) ds ∧ n = ds.length ∧ StoreAll xs ds st k := ⟨es, rfl, hn, h⟩
theorem unp_lst {n i : Nat} {xs : List Str} {es : List D} {k : St → Prop} (hi : st.ls[i]? = some es) (hn : n = es.length) (h : StoreAll xs es st k) (hh : c.A.handled = none := by assumption) : ∃ ds, Unp c st (.lst i) ds ∧ n = ds.length ∧ StoreAll xs ds st k := ⟨es, ⟨hi, hh⟩, hn, h⟩
end
/-- a body cut in two -/
theorem wp_append {M : Model} {Γ : PySem.Ctx} {env : Env} {l₂ : List Stmt} {Q : Flow → Pos → Shared → Prop} {E : Value → Pos → Shared → Prop} : ∀ (l₁ : List Stmt) (p : Pos) (s : Shared),
    Sem.wp M Γ (execs l₁ env) (fun f p' s' => match f with | .next => Sem.wp M Γ (execs l₂ env) Q E p' s' | f => Q f p' s') E p s → Sem.wp M Γ (execs (l₁ ++ l₂) env) Q E p s
  | [], _, _, h => h
  | a :: l, p, s, h => by
    rw [List.cons_append, execs_cons, Sem.wp_bind']
    rw [execs_cons, Sem.wp_bind'] at h
    refine Sem.wp_mono M Γ _ (fun f p' s' h' => ?_) (fun _ _ _ h' => h') _ _ h
    cases f with
    | next => exact wp_append l p' s' h'
    | brk => exact h'
    | cont => exact h'
    | ret v => exact h'
theorem as_cut {G : Gl} {c : Ac} {st : St} {X : XPost} {P : AF → St → Prop} {l : List Stmt} {env : Env} (k : Nat) (Mid : St → Prop) (h1 : AS G c (execs (l.take k) env) st (fun af st₁ => af = .next ∧ Mid st₁) X)
    (h2 : ∀ st₁, Mid st₁ → AS G c (execs (l.drop k) env) st₁ P X) : AS G c (execs l env) st P X := by
  intro W s h₀ m hr
  rw [← List.take_append_drop k l]
  intro Γ p hΓ
  refine wp_append _ _ _ (Sem.wp_mono _ Γ _ (fun f p' s' hq => ?_) (fun _ _ _ h' => h') p s (h1 W s h₀ m hr Γ p hΓ))
  obtain ⟨W₁, st₁, af, h₁, m₁, l₁, r₁, rf, rfl, hm⟩ := hq
  cases rf
  exact (wpAny_mono (h2 st₁ hm W₁ s' h₁ m₁ r₁) (fun _ _ q => q.le l₁) fun _ _ x => x.le l₁) Γ p' hΓ
/-- the same, the state between written out, fewer names -/
theorem as_cutE {G : Gl} {c : Ac} {st : St} {X : XPost} {P : AF → St → Prop} {l : List Stmt} {env : Env} (k : Nat) (st' : St) (h1 : AS G c (execs (l.take k) env) st (fun af st₁ => af = .next ∧ st₁ = st') X)
    (h2 : AS G c (execs (l.drop k) env) st' P X) : AS G c (execs l env) st P X := as_cut k (fun st₁ => st₁ = st') h1 fun st₁ e => e ▸ h2
theorem as_assignJ {G : Gl} {c : Ac} {st : St} {X : XPost} {P : AF → St → Prop} {x : Str} {p' pos : Pos} {e : Expr} (d₀ : D) (hj : AE G c (eval e c.env) st (fun d st₁ => d = d₀ ∧ st₁ = st) X) (h : Store st x d₀ (P .next))
    (hl : c.env.kindOf x = some .local := by rfl) (hs : swapsWith e (some (.Name x p')) pos.line c.env = pure false := by rfl) : AS G c (exec (.Assign [.Name x p'] e pos) c.env) st P X :=
  as_assign (hj.mono (fun d st₁ q => by obtain ⟨rfl, rfl⟩ := q; exact h) fun _ _ _ x => x) hl hs
theorem fin_eq {P : D → St → Prop} {st : St} {d d' : D} (h : P d st) (e : d = d') : P d' st := e ▸ h
theorem dbool {a b : Prop} [Decidable a] [Decidable b] (h : a ↔ b) : D.bool (decide a) = D.bool (decide b) := by
  by_cases q : a
  · rw [decide_eq_true q, decide_eq_true (h.mp q)]
  · rw [decide_eq_false q, decide_eq_false (fun z => q (h.mpr z))]
theorem dint {a b : Int} (h : a = b) : D.int a = D.int b := h ▸ rfl
theorem getD_at {ns : List Int} {k : Nat} (h : k < ns.length) : ns[k]? = some (ns.getD k 0) := by
  rw [List.getElem?_eq_getElem h, List.getD_eq_getElem?_getD, List.getElem?_eq_getElem h]
  rfl


/-! names and calls inside a comprehension -/
abbrev Ac.comp (c : Ac) (C : Addr) (x : Str) (d : D) : Ac := { c with cp := some (C, x, d) }
section
variable {G : Gl} {c : Ac} {st : St} {X : XPost} {P : D → St → Prop} {C : Addr} {scope : Scope}

theorem ae_cname {x : Str} {pos : Pos} {d : D} (hc : c.cp = some (C, x, d)) (hp : P d st) (hk : scope.kind = .function) (hl : (compEnv scope C c.env).kindOf x = some .local) (hd : (x == ("__debug__" : Str)) = false) :
    AE G c (eval (.Name x pos) (compEnv scope C c.env)) st P X := by
  intro W s h₀ m h
  obtain ⟨o, es, n, v, h1, _, h3, h4, h5, h6⟩ := h.cpo C x d hc
  exact wpAny_Name (wpAny_loadName_local (m := fun y => nsFind es y) hk hl ⟨o, es, n, (h.news _ h1).1, h3, h4, fun _ => rfl⟩ h5 (h.here0 h6 hp)) hd
theorem ae_ccallT {x : Str} {T : String} {e : Expr} {r : List Expr} {np pos : Pos} (hx : nsIn G.K mainGlobals x = some none) (hv : bootBuiltins x = some (.type T))
    (h : AL G c (spliced (backTo pos (starEach (e :: r) (compEnv scope C c.env)))) st (fun ds st₁ => EVN G c (callV (.type T)) ds st₁ P X) X) (hn : x ≠ "__name__") (hk : scope.kind = .function)
    (hkd : (compEnv scope C c.env).kindOf x = some .globalImplicit) (hd : (x == ("__debug__" : Str)) = false)
    (he : starEach (e :: r) (compEnv scope C c.env) = (false, eval e (compEnv scope C c.env)) :: starEach r (compEnv scope C c.env)) (hplain : (backTo pos (starEach r (compEnv scope C c.env))).any (·.1) = false)
    (hc : eval (.Call (.Name x np) (e :: r) [] pos) (compEnv scope C c.env) = (do callWith pos (← eval (.Name x np) (compEnv scope C c.env)) [] (backTo pos (starEach (e :: r) (compEnv scope C c.env))) (backToKw pos (keywordEach [] (compEnv scope C c.env))))) :
    AE G c (eval (.Call (.Name x np) (e :: r) [] pos) (compEnv scope C c.env)) st P X := by
  intro W s h₀ m hr
  have T' := topRead_of hr.top
  refine Call_ (Calls.Name_function_global hk hkd (Calls.loadGlobal_builtin (env := compEnv scope C c.env) (T'.g.keeps hr.fr.keep) (mg_none_of hr.kin T'.g hx) (T'.b.keeps hr.fr.keep) ((T'.builtins x hn).trans hv) ?_) hd) hc
  refine PyProof.Rows.callWith_type1 (h.step (.refl W) hr (fun _ _ x => x) fun W₁ st₁ ds _ _ vs s₁ l₁ _ r₁ p₁ h₁ => ?_) he hplain
  exact wpAny_mono (h₁ W₁ s₁ _ _ vs r₁ p₁) (fun _ _ q => q.le l₁) fun _ _ x => x.le l₁
end

/-- the comprehension's own state put on and off -/
theorem Rel.cpOff {G : Gl} {c : Ac} {W : Wd} {st : St} {h₀ : Heap} {m : Str → Option Value} {s : Shared} {cp : Option (Addr × Str × D)} (h : Rel G { c with cp := cp } W st h₀ m s) (hc : c.cp = Option.none) : Rel G c W st h₀ m s :=
  { turn := h.turn, same := h.same, below := h.below, kin := h.kin, top := h.top, kb := h.kb, tb := h.tb, dicts := h.dicts, fn := h.fn, cpo := (by rw [hc]; exact CpOk.no), hdo := h.hdo, dep := h.dep, unt := h.unt, len := h.len, nodup := h.nodup, loc := h.loc, lists := h.lists, fr := h.fr, news := h.news, gens := h.gens, os := h.os }
theorem Rel.cpOn {G : Gl} {c : Ac} {W : Wd} {st : St} {h₀ : Heap} {m : Str → Option Value} {s : Shared} {cp : Option (Addr × Str × D)} (h : Rel G c W st h₀ m s) (hc : CpOk G.base cp W) : Rel G { c with cp := cp } W st h₀ m s :=
  { turn := h.turn, same := h.same, below := h.below, kin := h.kin, top := h.top, kb := h.kb, tb := h.tb, dicts := h.dicts, fn := h.fn, cpo := hc, hdo := h.hdo, dep := h.dep, unt := h.unt, len := h.len, nodup := h.nodup, loc := h.loc, lists := h.lists, fr := h.fr, news := h.news, gens := h.gens, os := h.os }

/-- objects that fall out of the ledger -/
theorem Rel.forget {G : Gl} {c : Ac} {W : Wd} {st : St} {h₀ : Heap} {m : Str → Option Value} {s : Shared} (r : Rel G c W st h₀ m s) (hcp : c.cp = Option.none) (hh : c.A.handled = none) {I : Addr} {oI : Obj} (hin : (I, oI) ∈ W.N) (hnt : ∀ vs n, oI ≠ tupO vs n) (hnr : ∀ a b c t u v, oI ≠ rngO a b c t u v) (hρ : I ∉ W.ρ) :
    Rel G c ⟨W.N.filter (fun p => p.1 != I), W.ρ⟩ st h₀ m s ∧ W.Sub ⟨W.N.filter (fun p => p.1 != I), W.ρ⟩ := by
  have hz := r.news _ hin
  have sub : W.Sub ⟨W.N.filter (fun p => p.1 != I), W.ρ⟩ := ⟨fun _ _ q => q, fun p hp hq => List.mem_filter.mpr ⟨hp, by
    simp only [bne_iff_ne, ne_eq]
    intro e
    have := (r.news p hp).1
    rw [e, hz.1] at this
    have this : oI = p.2 := Option.some.inj this
    rcases hq with ⟨_, _, q⟩ | ⟨_, _, _, _, _, _, q⟩
    · exact hnt _ _ (this.trans q)
    · exact hnr _ _ _ _ _ _ (this.trans q)⟩⟩
  refine ⟨?_, sub⟩
  exact { turn := r.turn, same := r.same, below := r.below, kin := r.kin, top := r.top, kb := r.kb, tb := r.tb, dicts := r.dicts, fn := r.fn, cpo := (by rw [hcp]; exact CpOk.no), hdo := HdOk.no hh, dep := r.dep, unt := r.unt, len := r.len, nodup := r.nodup, loc := fun x d e => (let ⟨u, h1, h2⟩ := r.loc x d e; ⟨u, h1, h2.sub sub⟩), lists := fun j es e => (by
            obtain ⟨b, ws, n, h1, h2, h3⟩ := r.lists j es e
            refine ⟨b, ws, n, h1, List.mem_filter.mpr ⟨h2, ?_⟩, h3.sub sub⟩
            simp only [bne_iff_ne, ne_eq]
            rintro rfl
            exact hρ (List.mem_of_getElem? h1)), fr := r.fr, news := fun p hp => r.news p (List.mem_filter.mp hp).1, gens := r.gens, os := r.os }


/-- what an iteration hands out -/
def Seq (st : St) : D → List D → Prop
  | .tup es, ds => es = ds
  | .lst k, ds => st.ls[k]? = some ds
  | .ro ns, ds => ns.map D.int = ds
  | _, _ => False

theorem iter_tup {G : Gl} {c : Ac} {ds : List D} {vs : List Value} {n : Nat} {I ax : Addr} (hne : ax ≠ I) (hh : c.A.handled = none) :
    Iter G c I (fun i W h => h.IsTupleIter I ax i ∧ (ax, tupO vs n) ∈ W.N ∧ Reps G.base W vs ds) (fun i _ => ds[i]?) where
  frame := fun i W W' h h' q e l => ⟨(let ⟨o, ho, r⟩ := q.1; ⟨o, e.trans ho, r⟩), l.keep _ q.2.1 (.inl ⟨_, _, rfl⟩), q.2.2.sub l⟩
  there := fun i W h q => by
    obtain ⟨o, ho, hc, hd⟩ := q.1
    exact ⟨o, ho, (fun es n e => by (rw [hd] at e; cases e)), (by rw [hc]; decide), (by rw [hc]; decide)⟩
  next := by
    intro i W st h₀ m s d hr q hc Q E hQ
    obtain ⟨v, hv, hrep⟩ := q.2.2.get hc
    have hT : s.heap.IsTuple ax vs.toArray := ⟨_, (hr.news _ q.2.1).1, rfl, n, rfl⟩
    refine wpAny_pyNext_tuple_item q.1 hT (by simpa using hv) fun h' hit hs => ?_
    exact hQ v h' s.toks hrep ⟨hit, q.2⟩ fun b o hb e => (hs.2 b hb).trans e
  stop := by
    intro i W st h₀ m s hr q hc Q E hQ
    have hT : s.heap.IsTuple ax vs.toArray := ⟨_, (hr.news _ q.2.1).1, rfl, n, rfl⟩
    refine wpAny_pyNext_tuple_end hh q.1 hT ?_ fun h' hs => hQ h' s.toks fun b o hb e => hs b o hb e
    rw [List.getElem?_toArray]
    rw [List.getElem?_eq_none_iff] at hc ⊢
    rw [q.2.2.length]
    exact hc

/-- the iterator of a sequence -/
theorem seq_iter {G : Gl} {c : Ac} {st : St} {d : D} {ds : List D} (hsq : Seq st d ds) (hh : c.A.handled = none) {W : Wd} {s : Shared} {h₀ : Heap} {m : Str → Option Value} {v : Value} (hr : Rel G c W st h₀ m s) (hv : Rep G.base W v d)
    {Q : Value → Shared → Prop} {E : Value → Shared → Prop}
    (h : ∀ IT cur o, Iter G c s.heap.objs.size IT cur → IT 0 W (s.heap.push o) → (∀ acc i, cur i ⟨st.env, st.ls ++ [acc], st.tn⟩ = ds[i]?) → (∀ i W' h' (s' : Shared) Q' E', s'.heap = h' → IT i W' h' → Q' (.ref s.heap.objs.size) s' → wpAny (model G.prog G.w) c.A (pyIter (.ref s.heap.objs.size)) Q' E' s') → Q (.ref s.heap.objs.size) { s with heap := s.heap.push o }) :
    wpAny (model G.prog G.w) c.A (pyIter v) Q E s := by
  obtain ⟨f1, f2, f3, f4⟩ := hr.fresh
  cases hv with
  | tup hm h3 =>
    rename_i a vs n es
    have hu : es = ds := hsq
    subst hu
    have hT : s.heap.IsTuple a vs.toArray := ⟨_, (hr.news _ hm).1, rfl, n, rfl⟩
    refine wpAny_pyIter_tuple hT ?_
    exact h _ _ _ (iter_tup (fun q => f1 _ hm q) hh) ⟨⟨_, Heap.get?_push_size _ rfl, rfl, rfl⟩, hm, h3⟩ (fun _ _ => rfl) fun i W' h' s' Q' E' e q hQ' => by
      subst e
      exact wpAny_pyIter_tupleiter q.1 hQ'
  | lst hρ =>
    rename_i a k
    have hu : st.ls[k]? = some ds := hsq
    obtain ⟨vs, n, ho, hL, h3⟩ := hr.isLst hu hρ
    have hne : a ≠ s.heap.objs.size := fun q => by
      have := Heap.lt_size ho
      rw [q] at this
      exact Nat.lt_irrefl _ this
    refine wpAny_pyIter_list hL ?_
    refine h _ _ _ (iter_lst (k := k) hne hh) ⟨hρ, _, Heap.get?_push_size _ rfl, rfl, rfl⟩ (fun acc i => ?_) fun i W' h' s' Q' E' e q hQ' => by
      subst e
      exact wpAny_pyIter_listiter q.2 hQ'
    have hk : k < st.ls.length := by
      rcases Nat.lt_or_ge k st.ls.length with q | q
      · exact q
      · rw [List.getElem?_eq_none q] at hu; cases hu
    dsimp only
    rw [List.getElem?_append_left hk, hu]
    rfl
  | ro hb hI =>
    rename_i a vs ns
    have hu : ns.map D.int = ds := hsq
    have hL := hr.isRo hb
    refine wpAny_pyIter_list hL ?_
    refine h _ _ _ (iter_ro hb hI hh) ⟨_, Heap.get?_push_size _ rfl, rfl, rfl⟩ (fun acc i => ?_) fun i W' h' s' Q' E' e q hQ' => by
      subst e
      exact wpAny_pyIter_listiter q hQ'
    rw [← hu, List.getElem?_map]
  | _ => exact hsq.elim

abbrev testsOf (ifs : List Expr) (env : Env) : Sem Bool := forIn ifs true fun c r => if r = true then do let ok ← isTrue c env (eval c env); pure (ForInStep.yield ok) else pure (ForInStep.yield r)

theorem take_filter_succ {ds : List D} {i : Nat} {d : D} (h : ds[i]? = some d) (p : D → Bool) (f : D → D) : ((ds.take (i + 1)).filter p).map f = ((ds.take i).filter p).map f ++ (if p d = true then [f d] else []) := by
  rw [List.take_add_one, h]
  simp only [Option.toList_some, List.filter_append, List.map_append]
  congr 1
  by_cases q : p d = true <;> simp [q]

theorem ae_comp {G : Gl} {c : Ac} {st : St} {X : XPost} {P : D → St → Prop} {elt iter : Expr} {x : Str} {px : Pos} {ifs : List Expr} {scope : Scope} {pos : Pos} (p : D → Bool) (f : D → D)
    (hh : c.A.handled = none) (hcp : c.cp = Option.none) (hfree : ∀ y ∈ scope.names, y.2 ≠ .free) (hcell : ∀ y ∈ scope.names, y.2 ≠ .cell) (hkind : scope.kind = .function)
    (hnames : ∀ y ∈ scope.names, y.2 = .local → scope.names.lookup y.1 = some .local) (hx : scope.names.lookup x = some .local)
    (h : AE G c (eval iter c.env) st (fun d₀ st₁ => ∃ ds, Seq st₁ d₀ ds ∧ ds.length ≤ 16384 ∧
      (∀ C d acc, d ∈ ds → AB G (c.comp C x d) (testsOf ifs (compEnv scope C c.env)) ⟨st₁.env, st₁.ls ++ [acc], st₁.tn⟩ (fun b st₂ => b = p d ∧ st₂ = ⟨st₁.env, st₁.ls ++ [acc], st₁.tn⟩) NoX) ∧
      (∀ C d acc, d ∈ ds → p d = true → AE G (c.comp C x d) (eval elt (compEnv scope C c.env)) ⟨st₁.env, st₁.ls ++ [acc], st₁.tn⟩ (fun e st₂ => e = f d ∧ st₂ = ⟨st₁.env, st₁.ls ++ [acc], st₁.tn⟩) NoX) ∧
      P (.lst st₁.ls.length) ⟨st₁.env, st₁.ls ++ [(ds.filter p).map f], st₁.tn⟩) X)
    (hs : ∀ x, foldedSetIterable iter c.env x = pure x) : AE G c (eval (.ListComp elt [⟨.Name x px, iter, ifs, 0⟩] scope pos) c.env) st P X := by
  intro W s h₀ m hr
  refine wpAny_ListComp hfree hkind hnames (h.step (.refl W) hr (fun _ _ x => x) fun W₁ st₁ d₀ h₁ m₁ v s₁ l₁ _ r₁ p₁ q₁ => ?_) hs
  obtain ⟨ds, hsq, hsz, htest, helt, hP⟩ := q₁
  obtain ⟨f1, f2, f3, f4⟩ := r₁.fresh
  generalize hI : s₁.heap.objs.size = I at *
  refine seq_iter hsq hh r₁ p₁ fun IT cur o it hit hcur hself => ?_
  rw [hI] at it hself ⊢
  have r₂ := r₁.pushed o
  -- the iterator put aside: the new list
  obtain ⟨oI, hoI, hnd, hnt, hnr⟩ := it.there _ _ _ hit
  have N₂ := News.more r₂.fr r₂.news hoI hnd f3
  have r₃ : Rel G c (newW W₁ I oI) st₁ h₁ m₁ { s₁ with heap := s₁.heap.push o } := r₂.newObj s₁.toks r₂.fr N₂
  refine newList_K r₃.fr r₃.news (fun l h' F N hlt => ?_) (by show 0 ≤ sizeLine; exact Nat.zero_le _)
  have hne : ∀ q ∈ (newW W₁ I oI).N, q.1 ≠ l := fun q hq => Nat.ne_of_lt (hlt q hq)
  have r₄ := r₃.newList s₁.toks hne Reps.nil F N
  refine wpAny_newFunctionEnv hcell (fun _ hz => nomatch hz) (fun h'' hns hsb => ?_) hkind
  dsimp only at hns hsb ⊢
  obtain ⟨g1, g2, g3, g4⟩ := r₄.fresh
  dsimp only at g1 g2 g3 g4
  generalize hC : h'.objs.size = C at *
  have hkeep : ∀ b o', b ≠ C → h'.get? b = some o' → h''.get? b = some o' := fun b o' hb e => (hsb.2 b hb).trans (Heap.get?_push_of_some _ e)
  have hIin : (I, oI) ∈ (newL (newW W₁ I oI) l (listOf [].toArray 0)).N := .tail _ (.head _)
  have hIC : I ≠ C := fun q => g1 _ hIin q
  have hIρ : I ∉ (newL (newW W₁ I oI) l (listOf [].toArray 0)).ρ := fun q => by
    rcases List.mem_append.mp q with q | q
    · exact f2 q
    · exact hne _ (.head _) (List.mem_singleton.mp q)
  have r₅ := r₄.moved (s₁.toks + ([] : List (Str × Value)).length) hkeep g1 g3 (fun q => g4 q)
  have hI5 := (r₅.news _ hIin).1
  obtain ⟨r₆, sub₆⟩ := r₅.forget hcp hh hIin (fun _ _ q => hnt (by rw [q])) (fun _ _ _ _ _ _ q => hnr (by rw [q])) hIρ
  -- the invariant
  let J : Nat → Shared → Prop := fun n s' => ∃ i W' h₀' m' mc, n = ds.length - i ∧ i ≤ ds.length ∧ W.Le W' ∧ Rel G c W' ⟨st₁.env, st₁.ls ++ [((ds.take i).filter p).map f], st₁.tn⟩ h₀' m' s' ∧ (∀ q ∈ W'.N, q.1 ≠ I ∧ q.1 ≠ C) ∧ I ∉ W'.ρ ∧ C ∉ W'.ρ ∧
    h₀'.get? I = none ∧ h₀'.get? C = none ∧ IT i W' s'.heap ∧ s'.heap.Ns C mc ∧ W'.ρ[st₁.ls.length]? = some l
  have hRloop : ∀ s₀ : Shared, J (ds.length - 0) s₀ → codeAny (model G.prog G.w) c.A (.compLoop (.ListComp elt [⟨.Name x px, iter, ifs, 0⟩] scope pos) 0 (.ref I) (.ref l) (compEnv scope C c.env))
      (fun r s' => ∃ m, s'.heap.Ns C m ∧ ∀ h', Heap.SameBut C s'.heap h' → match r with | .ok _ => QP Rep G c W P (.ref l) { s' with heap := h' } | .error x => wpAny (model G.prog G.w) c.A (passOn "comprehension.variables-let-go" x (compEnv scope C c.env)) (QP Rep G c W P) (XP G c W X) { s' with heap := h' }) s₀ := by
    intro s₀ hJ
    refine codeAny_compLoop_tests J ?_ _ hJ
    rintro n s' ⟨i, W', h₀', m', mc, rfl, hile, l', r', hN', hIρ', hCρ', hI', hC', hit', hns', hρl⟩
    have hsC : ∀ d : D, (compEnv scope C c.env).kindOf x = some .local := fun _ => hx
    cases hd : ds[i]? with
    | none =>
      refine it.stop i W' _ h₀' m' s' r' hit' (by rw [hcur]; exact hd) _ _ fun hp tk hk => ?_
      have hi : i = ds.length := by
        rw [List.getElem?_eq_none_iff] at hd
        omega
      subst hi
      have r'' := r'.moved tk hk (fun q hq => (hN' q hq).1) hI' f4
      obtain ⟨oC, es, ep, e1, e2⟩ := hns'
      refine ⟨mc, ⟨oC, es, ep, hk _ _ (fun q => hIC q.symm) e1, e2⟩, fun h3 hs3 => ?_⟩
      have r3 := r''.moved (I := C) (h' := h3) tk (fun b o' hb e => (hs3.2 b hb).trans e) (fun q hq => (hN' q hq).2) hC' g4
      rw [List.take_length] at r3
      exact ⟨W', _, .lst st₁.ls.length, h₀', m', l', r3, .lst hρl, hP⟩
    | some d =>
      have hdin : d ∈ ds := List.mem_of_getElem? hd
      have hlt : i < ds.length := by
        rcases Nat.lt_or_ge i ds.length with q | q
        · exact q
        · rw [List.getElem?_eq_none q] at hd; cases hd
      refine it.next i W' _ h₀' m' s' d r' hit' (by rw [hcur]; exact hd) _ _ fun v' hp tk hv' hit₁ hk => ?_
      have ra := r'.moved tk hk (fun q hq => (hN' q hq).1) hI' f4
      obtain ⟨oC₀, es₀, ep₀, e1, e2⟩ := hns'
      refine wpAny_assign_Name (wpAny_storeName_local (env := compEnv scope C c.env) hx ⟨oC₀, es₀, ep₀, hk _ _ (fun q => hIC q.symm) e1, e2⟩ (fun hb hnsb hsb' => ?_) (by show (scope.kind == .class || (scope.kind == .module && C != mainGlobals)) = false; rw [hkind]; rfl))
      have rb := ra.moved (I := C) (h' := hb) (tk + 1) (fun b o' hb' e => (hsb'.2 b hb').trans e) (fun q hq => (hN' q hq).2) hC' g4
      obtain ⟨oC, es, ep, c1, c2, c3, c4⟩ := hnsb
      obtain ⟨oJ, hoJ, hndJ, hntJ, hnrJ⟩ := it.there _ _ _ hit₁
      have hoJ' : hb.get? I = some oJ := (hsb'.2 I hIC).trans hoJ
      have N1 := News.more rb.fr rb.news hoJ' hndJ hI'
      have rc : Rel G c (newW W' I oJ) _ h₀' m' { s' with heap := hb, toks := tk + 1 } := rb.newObj (tk + 1) rb.fr N1
      have N2 : News h₀' c.L hb ((C, oC) :: (I, oJ) :: W'.N) := fun q hq => by
        rcases List.mem_cons.mp hq with rfl | hq
        · exact ⟨c1, fun q => g4 q, hC'⟩
        · exact rc.news q hq
      have rd : Rel G c (newW (newW W' I oJ) C oC) _ h₀' m' { s' with heap := hb, toks := tk + 1 } := rc.newObj (tk + 1) rc.fr N2
      have hcpo : CpOk G.base (some (C, x, d)) (newW (newW W' I oJ) C oC) := by
        intro C' x' d' e
        cases e
        refine ⟨oC, es, ep, v', .head _, hCρ', c2, c3, ?_, (hv'.mono newW_le).mono newW_le⟩
        rw [c4]
        exact if_pos rfl
      have re : Rel G (c.comp C x d) (newW (newW W' I oJ) C oC) ⟨st₁.env, st₁.ls ++ [((ds.take i).filter p).map f], st₁.tn⟩ h₀' m' { s' with heap := hb, toks := tk + 1 } := rd.cpOn hcpo
      have fin : ∀ (W₃ : Wd) (acc' : List D) (h₃ : Heap) (m₃ : Str → Option Value) (s₃ : Shared), (newW (newW W' I oJ) C oC).Le W₃ → Rel G c W₃ ⟨st₁.env, st₁.ls ++ [acc'], st₁.tn⟩ h₃ m₃ s₃ → acc' = ((ds.take (i + 1)).filter p).map f → ∃ n', n' < ds.length - i ∧ J n' s₃ := by
        intro W₃ acc' h₃ m₃ s₃ le₃ r₃ hacc
        have i1 : (C, oC) ∈ W₃.N := le₃.keep _ (.head _) (.inl hCρ')
        have i2 : (I, oJ) ∈ W₃.N := le₃.keep _ (.tail _ (.head _)) (.inl hIρ')
        have q1 : C ∉ W₃.ρ := fun q => by
          rcases le₃.new _ q with q | q
          · exact hCρ' q
          · exact q _ (.head _) rfl
        have q2 : I ∉ W₃.ρ := fun q => by
          rcases le₃.new _ q with q | q
          · exact hIρ' q
          · exact q _ (.tail _ (.head _)) rfl
        have z1 := r₃.news _ i1
        have z2 := r₃.news _ i2
        obtain ⟨r₄', s₄'⟩ := r₃.forget hcp hh i1 (fun _ _ q => by rw [q] at c2; cases c2) (fun _ _ _ _ _ _ q => by rw [q] at c2; cases c2) q1
        have i3 : (I, oJ) ∈ W₃.N.filter (fun p => p.1 != C) := List.mem_filter.mpr ⟨i2, by simpa using hIC⟩
        obtain ⟨r₅', s₅'⟩ := r₄'.forget hcp hh i3 (fun _ _ q => hntJ (by rw [q])) (fun _ _ _ _ _ _ q => hnrJ (by rw [q])) q2
        refine ⟨ds.length - (i + 1), by omega, i + 1, ⟨(W₃.N.filter (fun p => p.1 != C)).filter (fun p => p.1 != I), W₃.ρ⟩, h₃, m₃, _, rfl, hlt, ?_, hacc ▸ r₅', ?_, q2, q1, z2.2.2, z1.2.2, ?_, ⟨oC, es, ep, z1.1, c2, c3, c4⟩, ?_⟩
        · have L3 : W.Le W₃ := ((l'.trans newW_le).trans newW_le).trans le₃
          refine ⟨L3.rho, fun q hq hc => ?_, L3.new⟩
          have hw := hN' q (l'.keep q hq hc)
          exact List.mem_filter.mpr ⟨List.mem_filter.mpr ⟨L3.keep q hq hc, by simpa using hw.2⟩, by simpa using hw.1⟩
        · intro q hq
          have q1 := List.mem_filter.mp hq
          exact ⟨by simpa using q1.2, by simpa using (List.mem_filter.mp q1.1).2⟩
        · refine it.frame _ W' _ _ _ hit₁ (z2.1.trans hoJ.symm) ⟨fun k a q => le₃.rho _ _ q, fun q hq hc => ?_⟩
          have hw := hN' q hq
          refine List.mem_filter.mpr ⟨List.mem_filter.mpr ⟨le₃.keep q (.tail _ (.tail _ hq)) (.inr ?_), by simpa using hw.2⟩, by simpa using hw.1⟩
          rcases hc with ⟨_, _, q⟩ | ⟨_, _, _, _, _, _, q⟩
          · rw [q]; exact tup_ne_list
          · rw [q]; exact rng_ne_list
        · exact le₃.rho _ _ hρl
      refine (htest C d _ hdin).step (.refl _) re (fun e s x => (xp_no x).elim) fun W₂ st₂ b h₂ m₂ b' s₂ l₂ _ r₂' pb q₂ => ?_
      have hb' : b' = b := pb
      subst hb'
      obtain ⟨rfl, rfl⟩ := q₂
      cases hpd : p d with
      | false =>
        rw [if_neg (by simp)]
        refine fin W₂ _ h₂ m₂ s₂ l₂ (r₂'.cpOff hcp) ?_
        rw [take_filter_succ hd, hpd]
        simp
      | true =>
        rw [if_pos rfl]
        refine (helt C d _ hdin hpd).step l₂ r₂' (fun e s x => (xp_no x).elim) fun W₃ st₃ e' h₃ m₃ xv s₃ l₃ _ r₃' pe q₃ => ?_
        obtain ⟨rfl, rfl⟩ := q₃
        have hρ₃ : W₃.ρ[st₁.ls.length]? = some l := l₃.rho _ _ hρl
        obtain ⟨vs, nn, ho, hL, h3⟩ := r₃'.isLst (k := st₁.ls.length) (ds := ((ds.take i).filter p).map f) (by simp) hρ₃
        refine append_at ho (fun ha hsa hoa => ?_) ?_
        · have rpe : Rep G.base W₃ xv (f d) := pe
          obtain ⟨r₄', le₄⟩ := (r₃'.cpOff hcp).setList (i := st₁.ls.length) (vs' := vs ++ [xv]) (ds' := ((ds.take i).filter p).map f ++ [f d]) (n' := nn + 1) s₃.toks hρ₃ (h3.append (.cons rpe .nil)) hsa (by rw [hoa]; simp)
          refine fin _ (((ds.take i).filter p).map f ++ [f d]) h₃ m₃ _ (l₃.trans le₄) ?_ ?_
          · have e : (st₁.ls ++ [((ds.take i).filter p).map f]).set st₁.ls.length (((ds.take i).filter p).map f ++ [f d]) = st₁.ls ++ [((ds.take i).filter p).map f ++ [f d]] := by
              rw [List.set_append_right _ _ (Nat.le_refl _)]
              simp
            dsimp only at r₄'
            rw [e] at r₄'
            exact r₄'
          · rw [take_filter_succ hd, hpd]
            simp
        · rw [List.size_toArray, h3.length, List.length_map]
          refine Nat.le_trans (List.length_filter_le _ _) (Nat.le_trans (List.length_take_le _ _) (Nat.le_trans (Nat.le_of_lt hlt) (Nat.le_trans hsz ?_)))
          exact Nat.le_of_ble_eq_true rfl
  have hJ0 : J (ds.length - 0) { s₁ with heap := h'', toks := s₁.toks + ([] : List (Str × Value)).length } := by
    refine ⟨0, _, h₁, m₁, _, rfl, Nat.zero_le _, ?_, r₆, ?_, hIρ, g2, f3, g3, ?_, hns, ?_⟩
    · have L4 : W.Le (newL (newW W₁ I oI) l (listOf [].toArray 0)) := (l₁.trans newW_le).trans (newL_le hne)
      refine ⟨L4.rho, fun q hq hc => List.mem_filter.mpr ⟨L4.keep q hq hc, ?_⟩, L4.new⟩
      simpa using f1 q (l₁.keep q hq hc)
    · intro q hq
      have q1 := List.mem_filter.mp hq
      exact ⟨by simpa using q1.2, g1 q q1.1⟩
    · refine it.frame _ W₁ _ _ _ hit (hI5.trans hoI.symm) ⟨fun k a q => (newL_le (o := listOf [].toArray 0) hne).rho k a q, fun q hq hc => ?_⟩
      exact List.mem_filter.mpr ⟨.tail _ (.tail _ hq), by simpa using f1 q hq⟩
    · show (W₁.ρ ++ [l])[st₁.ls.length]? = some l
      rw [← r₁.len]
      simp
  have hit0 : IT 0 W₁ h'' := it.frame _ W₁ _ _ _ hit (hI5.trans hoI.symm) ⟨fun _ _ q => q, fun _ q _ => q⟩
  exact codeAny_compStart_list (hRloop _ hJ0) (hself 0 _ _ _ _ _ rfl hit0 (hRloop _ hJ0))


/-! data, whole -/
mutual
inductive DP (ls : List (List D)) : D → PyData → Prop
  | none : DP ls .none .none
  | bool (b : Bool) : DP ls (.bool b) (.bool b)
  | int (i : Int) : DP ls (.int i) (.int i)
  | str (x : Str) : DP ls (.str x) (.str x)
  | tup {ds : List D} {ps : List PyData} : DPs ls ds ps → DP ls (.tup ds) (.tuple ps)
  | lst {k : Nat} {ds : List D} {ps : List PyData} : ls[k]? = some ds → DPs ls ds ps → DP ls (.lst k) (.list ps)
inductive DPs (ls : List (List D)) : List D → List PyData → Prop
  | nil : DPs ls [] []
  | cons {d : D} {ds : List D} {p : PyData} {ps : List PyData} : DP ls d p → DPs ls ds ps → DPs ls (d :: ds) (p :: ps)
end
section
variable {G : Gl} {c : Ac} {st : St} {W : Wd} {h₀ : Heap} {m : Str → Option Value} {s : Shared}
mutual
theorem dp_reads (hr : Rel G c W st h₀ m s) : ∀ {d : D} {p : PyData}, DP st.ls d p → ∀ {v : Value}, Rep G.base W v d → ∃ as, Reads s.heap v p as
  | _, _, .none, _, .none => ⟨_, .none⟩
  | _, _, .bool _, _, .bool b => ⟨_, .bool b⟩
  | _, _, .int _, _, .int i t => ⟨_, .int i t⟩
  | _, _, .str _, _, .str x t => ⟨_, .str x t⟩
  | _, _, .tup h, _, .tup hm hv => let ⟨as, q⟩ := dps_reads hr h hv; ⟨as, reads_tuple_at (hr.news _ hm).1 rfl rfl (by simpa using q)⟩
  | _, _, .lst hk h, _, .lst hρ => let ⟨vs, n, ho, _, hv⟩ := hr.isLst hk hρ; let ⟨as, q⟩ := dps_reads hr h hv; ⟨_, reads_list_at ho rfl rfl (by simpa using q)⟩
theorem dps_reads (hr : Rel G c W st h₀ m s) : ∀ {ds : List D} {ps : List PyData}, DPs st.ls ds ps → ∀ {vs : List Value}, Reps G.base W vs ds → ∃ as, ReadsAll s.heap vs ps as
  | _, _, .nil, _, .nil => ⟨_, .nil⟩
  | _, _, .cons h r, _, .cons hv hr' => let ⟨as, q⟩ := dp_reads hr h hv; let ⟨bs, q'⟩ := dps_reads hr r hr'; ⟨_, .cons q q'⟩
end
end
section
variable {G : Gl} {c : Ac} {st : St} {X : XPost} {P : D → St → Prop}
theorem units_ok {W : Wd} {h₀ : Heap} {m : Str → Option Value} {s : Shared} (hr : Rel G c W st h₀ m s) : c.A.units + 64 < cLine := by
  have := hr.unt
  show c.A₀.units + 3 + 64 < cLine
  omega
theorem ev_eqD {d e : D} {p q : PyData} (hd : DP st.ls d p) (he : DP st.ls e q) (sp : SeqAt.shaped p = true) (sq : SeqAt.shaped q = true) (h : P (.bool (PyData.eqv p q)) st) : EV2 G c (compareOp .Eq) d e st P X := by
  intro W s h₀ m v u hr hv hu
  obtain ⟨as, ra⟩ := dp_reads hr hd hv
  obtain ⟨bs, rb⟩ := dp_reads hr he hu
  exact eq_dataH ra rb sp sq (units_ok hr) (hr.here0 (.bool _) h)
theorem ev_neD {d e : D} {p q : PyData} (hd : DP st.ls d p) (he : DP st.ls e q) (sp : SeqAt.shaped p = true) (sq : SeqAt.shaped q = true) (h : P (.bool (!PyData.eqv p q)) st) : EV2 G c (compareOp .NotEq) d e st P X := by
  intro W s h₀ m v u hr hv hu
  obtain ⟨as, ra⟩ := dp_reads hr hd hv
  obtain ⟨bs, rb⟩ := dp_reads hr he hu
  exact ne_dataH ra rb sp sq (units_ok hr) (hr.here0 (.bool _) h)
/-! isinstance, len -/
theorem ev_len_lst {k : Nat} {ds : List D} (hk : st.ls[k]? = some ds) (h : P (.int ds.length) st) (hz : ds.length ≤ 1099511627776) : EVN G c (callV (.builtin "len")) [.lst k] st P X := by
  intro W s h₀ m vs hr hv
  cases hv with
  | cons h1 h2 =>
    cases h2
    cases h1 with
    | lst hρ =>
      obtain ⟨vs, n, _, hL, h3⟩ := hr.isLst hk hρ
      have hl := h3.length
      refine PyProof.Rows.len_list hL (by rw [List.size_toArray]; omega) ?_
      rw [List.size_toArray, hl]
      exact hr.here _ (.int _ _) h
/-! lists put together -/
theorem ev_addL {i j : Nat} {ds es : List D} (hi : st.ls[i]? = some ds) (hj : st.ls[j]? = some es) (h : P (.lst st.ls.length) { st with ls := st.ls ++ [ds ++ es] }) (hz : ds.length + es.length ≤ 16384) : EV2 G c (binaryOp .Add) (.lst i) (.lst j) st P X := by
  intro W s h₀ m v u hr hv hu
  cases hv with
  | lst hρ =>
    cases hu with
    | lst hρ' =>
      obtain ⟨vs, n, ho, _, h3⟩ := hr.isLst hi hρ
      obtain ⟨ws, n', ho', _, h3'⟩ := hr.isLst hj hρ'
      have l1 := h3.length
      have l2 := h3'.length
      refine PySem.P.add_list ho ho' ?_ (by rw [List.size_toArray, List.size_toArray, l1, l2]; exact Nat.le_trans hz (Nat.le_of_ble_eq_true rfl))
      obtain ⟨f1, f2, f3, f4⟩ := hr.fresh
      have N := News.push hr.fr hr.news (listOf (vs ++ ws).toArray 0)
      have e : (vs.toArray ++ ws.toArray) = (vs ++ ws).toArray := by simp
      rw [e]
      refine ⟨newL W _ _, _, _, h₀, m, newL_le f1, hr.newList s.toks f1 (h3.append h3') (hr.fr.push _) N, .lst ?_, h⟩
      show (W.ρ ++ [s.heap.objs.size])[st.ls.length]? = some s.heap.objs.size
      rw [← hr.len]
      simp
/-! slices of lists -/
theorem ap_none {env : Env} (h : P .none st) : AE G c (evalPart none env) st P X := fun _ _ _ _ hr => wpAny_pure (hr.here0 .none h)
theorem ap_some {e : Expr} {env : Env} (h : AE G c (eval e env) st P X) : AE G c (evalPart (some e) env) st P X := h
/-- a slice of three parts at hand -/
def SL (G : Gl) (c : Ac) (v : Expr) (d l u : D) (st : St) (P : D → St → Prop) (X : XPost) : Prop :=
  ∀ W s h₀ m a b e lo hi p, Rel G c W st h₀ m s → Rep G.base W a d → Rep G.base W b l → Rep G.base W e u →
    wpAny (model G.prog G.w) c.A (subscriptTail v (.Slice lo hi none p) a (.ref s.heap.objs.size)) (QP Rep G c W P) (XP G c W X) { s with heap := s.heap.push { cls := .type "slice", data := .fields #[b, e, .none] } }
theorem ae_slice {v : Expr} {lo hi : Option Expr} {p pos : Pos} {env : Env} (h : AE G c (eval v env) st (fun d st₁ => AE G c (evalPart lo env) st₁ (fun l st₂ => AE G c (evalPart hi env) st₂ (fun u st₃ => SL G c v d l u st₃ P X) X) X) X) :
    AE G c (eval (.Subscript v (.Slice lo hi none p) pos) env) st P X := by
  intro W s h₀ m hr
  refine Subscript_ (h.step (.refl W) hr (fun _ _ x => x) fun W₁ st₁ d _ _ a s₁ l₁ _ r₁ p₁ h₁ => ?_)
  refine wpAny_Slice (h₁.step l₁ r₁ (fun _ _ x => x) fun W₂ st₂ l _ _ b s₂ l₂ k₂ r₂ p₂ h₂ => ?_)
  refine h₂.step l₂ r₂ (fun _ _ x => x) fun W₃ st₃ u _ _ e s₃ l₃ k₃ r₃ p₃ h₃ => ?_
  rw [evalPart_none]
  refine wpAny_pure ?_
  exact wpAny_mono (h₃ W₃ s₃ _ _ a b e lo hi p r₃ ((p₁.mono k₂).mono k₃) (p₂.mono k₃) p₃) (fun _ _ q => q.le l₃) fun _ _ x => x.le l₃
theorem pick_to {vs : List Value} {k : Nat} : slicePick vs.toArray none (some (k : Int)) none = (vs.take k).toArray := by rw [slicePick_upto']
theorem pick_from {vs : List Value} {k : Nat} : slicePick vs.toArray (some (k : Int)) none none = (vs.drop k).toArray := by rw [slicePick_from']
theorem sl_core {v : Expr} {W : Wd} {s : Shared} {h₀ : Heap} {m : Str → Option Value} {a : Addr} {vs ws : List Value} {ds : List D} {b e : Value} {l u : Option Int} {lo hi : Option Expr} {p : Pos} (hr : Rel G c W st h₀ m s) (hL : s.heap.IsList a vs.toArray) (pl : IsPart b l) (pu : IsPart e u)
    (hw : slicePick vs.toArray l u none = ws.toArray) (hv : Reps G.base W ws ds) (hz : vs.length ≤ sizeLine) (h : P (.lst st.ls.length) { st with ls := st.ls ++ [ds] }) :
    wpAny (model G.prog G.w) c.A (subscriptTail v (.Slice lo hi none p) (.ref a) (.ref s.heap.objs.size)) (QP Rep G c W P) (XP G c W X) { s with heap := s.heap.push { cls := .type "slice", data := .fields #[b, e, .none] } } := by
  have r₁ := hr.pushed { cls := .type "slice", data := .fields #[b, e, .none] }
  refine tail_any (T := "list") (Heap.IsList.typeIs (s := { s with heap := s.heap.push { cls := .type "slice", data := .fields #[b, e, .none] } }) (hL.push _)) slot_list_getitem.lookup
    (wpAny_getItem_list_slice (hL.push _) (Heap.IsSliceOf.new ..) pl pu .none (by simp) ?_ (by rw [List.size_toArray]; exact hz)) rfl
  rw [hw]
  obtain ⟨f1, f2, f3, f4⟩ := r₁.fresh
  have N := News.push r₁.fr r₁.news (listOf ws.toArray 0)
  refine ⟨newL W _ _, _, _, h₀, m, newL_le f1, r₁.newList s.toks f1 hv (r₁.fr.push _) N, .lst ?_, h⟩
  show (W.ρ ++ [_])[st.ls.length]? = some _
  rw [← hr.len]
  simp
theorem sl_to {v : Expr} {d : D} {ds : List D} {k : Nat} (hs : Seq st d ds) (hd : ∀ es, d ≠ .tup es) (hz : ds.length ≤ 16384) (h : P (.lst st.ls.length) { st with ls := st.ls ++ [ds.take k] }) : SL G c v d .none (.int k) st P X := by
  intro W s h₀ m a b e lo hi p hr ha hb he
  cases hb
  cases he with
  | int _ t =>
    cases ha with
    | lst hρ =>
      obtain ⟨vs, n, _, hL, h3⟩ := hr.isLst hs hρ
      exact sl_core hr hL .none (.int _ t) pick_to (h3.take k) (by rw [h3.length]; exact Nat.le_trans hz (Nat.le_of_ble_eq_true rfl)) h
    | ro hb hI =>
      have hs : _ = ds := hs
      have h3 : Reps G.base W _ ds := hs ▸ Reps.ofInts hI
      exact sl_core hr (hr.isRo hb) .none (.int _ t) pick_to (h3.take k) (by rw [h3.length]; exact Nat.le_trans hz (Nat.le_of_ble_eq_true rfl)) h
    | tup => exact absurd rfl (hd _)
    | _ => exact hs.elim
theorem sl_from {v : Expr} {d : D} {ds : List D} {k : Nat} (hs : Seq st d ds) (hd : ∀ es, d ≠ .tup es) (hz : ds.length ≤ 16384) (h : P (.lst st.ls.length) { st with ls := st.ls ++ [ds.drop k] }) : SL G c v d (.int k) .none st P X := by
  intro W s h₀ m a b e lo hi p hr ha hb he
  cases he
  cases hb with
  | int _ t =>
    cases ha with
    | lst hρ =>
      obtain ⟨vs, n, _, hL, h3⟩ := hr.isLst hs hρ
      exact sl_core hr hL (.int _ t) .none pick_from (h3.drop k) (by rw [h3.length]; exact Nat.le_trans hz (Nat.le_of_ble_eq_true rfl)) h
    | ro hb hI =>
      have hs : _ = ds := hs
      have h3 : Reps G.base W _ ds := hs ▸ Reps.ofInts hI
      exact sl_core hr (hr.isRo hb) (.int _ t) .none pick_from (h3.drop k) (by rw [h3.length]; exact Nat.le_trans hz (Nat.le_of_ble_eq_true rfl)) h
    | tup => exact absurd rfl (hd _)
    | _ => exact hs.elim
end

/-! more glue -/
theorem ab_test0 {G : Gl} {c : Ac} {st : St} {X : XPost} {P : Bool → St → Prop} {env : Env} (h : P true st) : AB G c (testsOf [] env) st P X := fun _ _ _ _ hr => wpAny_tests_nil (hr.here0 rfl h)
theorem ls_last {ls : List (List D)} {d : List D} : (ls ++ [d])[ls.length]? = some d := by simp
theorem ls_old {ls : List (List D)} {d e : List D} {k : Nat} (h : ls[k]? = some e) : (ls ++ [d])[k]? = some e := by
  have hk : k < ls.length := by
    rcases Nat.lt_or_ge k ls.length with q | q
    · exact q
    · rw [List.getElem?_eq_none q] at h; cases h
  rw [List.getElem?_append_left hk]
  exact h
theorem ev_newL {G : Gl} {c : Ac} {env : List (Str × D)} {ls : List (List D)} {tn : Bool} {X : XPost} {P : D → St → Prop} {ds : List D} (h : P (.lst ls.length) ⟨env, ls ++ [ds], tn⟩) (hz : ds.length ≤ sizeLine) : EVN G c newList ds ⟨env, ls, tn⟩ P X := ev_newList h hz
/-! the law's own call -/
abbrev lawAc (s₁ : Shared) (nm : Str) (sc : Scope) (fa : Addr) (cd : Value) : Ac := ⟨callerA, [], s₁.heap, nm, sc, s₁.heap.objs.size, fa, cd, none, 100, none⟩
theorem law_entry {G : Gl} {nm : Str} {sc : Scope} {fa : Addr} {cd : Value} {s₁ : Shared} {h₁ : Heap} {tk : Nat} {l : Addr} {vs : List Value} {ns : List Int} {m₀ : Str → Option Value} {x : Str} {body : List Stmt} {Q : Flow → Shared → Prop} {E : Value → Shared → Prop}
    (hb : G.base = s₁.heap) (ho : G.os = s₁.os) (KX : G.K.In s₁.heap) (T : Top G.p G.loose G.mean G.mg G.mb s₁.heap) (B : Below callerA s₁.heap [] s₁.heap) (F : Fr s₁.heap s₁.heap.objs.size h₁ m₀) (hm : m₀ x = some (.ref l))
    (hl : s₁.heap.IsList l vs.toArray) (hi : IntsAre vs ns) (hg : s₁.gens = #[]) (hk : sc.kind = .function)
    (h : AS G (lawAc s₁ nm sc fa cd) (execs body (envOf nm sc s₁.heap.objs.size fa cd)) ⟨[(x, .ro ns)], [], false⟩ (fun af _ => af = .ret (.bool true)) NoX)
    (hQ : ∀ s' m', Fr s₁.heap s₁.heap.objs.size s'.heap m' → s'.gens = #[] → s'.os = s₁.os → Q (.ret (.bool true)) s') :
    wpAny (model G.prog G.w) (callerA.deeper (envOf nm sc s₁.heap.objs.size fa cd)) (execs body (envOf nm sc s₁.heap.objs.size fa cd)) Q E { s₁ with heap := h₁, toks := tk } := by
  have rel : Rel G (lawAc s₁ nm sc fa cd) ⟨[], []⟩ ⟨[(x, .ro ns)], [], false⟩ s₁.heap m₀ { s₁ with heap := h₁, toks := tk } :=
    { turn := KtsTurn.refl, same := fun _ => rfl, below := hb ▸ B, kin := KX, top := T, kb := hb ▸ KX, tb := hb ▸ T, dicts := ktsDicts_nil, fn := hk, cpo := CpOk.no, hdo := HdOk.no rfl, dep := (show callerA.depth + 1 + 100 < recursionLimit by decide), unt := (show callerA.units + 3 + 8 * 100 + 80 < cLine by decide), loc := (fun y d e => by
        rw [List.lookup_cons] at e
        cases q : y == x with
        | true =>
          simp only [q] at e
          cases e
          have := (beq_iff_eq.mp q)
          subst this
          exact ⟨_, hm, .ro (hb ▸ hl) hi⟩
        | false =>
          simp only [q] at e
          cases e), len := rfl, nodup := .nil, lists := (fun k ds e => by simp at e), fr := F, news := News.nil, gens := hg, os := ho.symm }
  refine wpAny_mono (h _ _ _ _ rel) (fun f s' hq => ?_) fun e s' hx => (xp_no hx).elim
  obtain ⟨W', st', af, h₀, m', _, r, rf, rfl⟩ := hq
  cases rf with
  | ret hv =>
    cases hv
    refine hQ s' m' ⟨r.fr.ns, fun b o e => r.fr.keep b o (r.turn.other b o e (by intro q; cases q)), Nat.le_refl _⟩ r.gens (r.os.trans ho)

section
variable {G : Gl} {c : Ac} {st : St} {X : XPost} {P : D → St → Prop}
/-! types of things -/
theorem ev_type_int {i : Int} (h : P (.val (.type "int")) st) : EVN G c (callV (.type "type")) [.int i] st P X := by
  intro W s h₀ m vs hr hv
  cases hv with
  | cons h1 h2 =>
    cases h2
    cases h1
    exact call_type_of rfl (by decide) (hr.here0 (.val _) h)
/-! lists, given or made -/
/-! a method of a list -/
end
theorem lk_cons {z k : Str} {d q : D} {r : List (Str × D)} (h : List.lookup z ((k, d) :: r) = some q) : (z = k ∧ d = q) ∨ List.lookup z r = some q := by
  rw [List.lookup_cons] at h
  by_cases e : z = k
  · subst e
    simp at h
    exact .inl ⟨rfl, h⟩
  · have hb : (z == k) = false := by simpa using e
    rw [hb] at h
    exact .inr h
theorem eqv_t3 (a b c : Int) : PyData.eqv (.tuple [.int a, .int b, .int c]) (.tuple [.int a, .int b, .int c]) = true := by simp [PyData.eqv, PyData.eqvAll]

section
variable {G : Gl} {c : Ac} {st : St} {X : XPost}
/-! a text put together, of two parts -/
theorem ae_fstr2 {P : D → St → Prop} {a : Str} {k : Nat} {e : Expr} {p1 p2 pos : Pos} (i : Int) (h : AE G c (eval e c.env) st (fun d st₁ => d = .int i ∧ ∀ x, P (.str x) st₁) X) (hi : i.natAbs.log2 < 1920) (ha : (Str.empty ++ a).length ≤ sizeLine) (hz : (Str.empty ++ a ++ Str.ofString (toString i)).length ≤ sizeLine) :
    AE G c (eval (.JoinedStr [.Constant (.str a) k p1, .FormattedValue e (-1) none p2] pos) c.env) st P X := by
  intro W s h₀ m hr
  refine wpAny_JoinedStr ?_
  show wpAny (model G.prog G.w) c.A (eval (.Constant (.str a) k p1) c.env) _ _ s
  refine AW.step (ae_str (X := X) (P := fun d st₁ => d = .str a ∧ st₁ = st) ⟨rfl, rfl⟩) (.refl W) hr (fun _ _ x => x) fun W₁ st₁ d _ _ v s₁ l₁ _ r₁ p₁ h₁ => ?_
  obtain ⟨rfl, rfl⟩ := h₁
  cases p₁ with
  | str _ t =>
  refine ⟨a, t, rfl, ha, ?_⟩
  show wpAny (model G.prog G.w) c.A (eval (.FormattedValue e (-1) none p2) c.env) _ _ s₁
  refine wpAny_FormattedValue_plain (h.step l₁ r₁ (fun _ _ x => x) fun W₂ st₂ d _ _ v s₂ l₂ k₂ r₂ p₂ h₂ => ?_)
  obtain ⟨rfl, h₂⟩ := h₂
  cases p₂ with
  | int _ t' =>
  refine wpAny_formatField_int hi ?_
  refine ⟨Str.ofString (toString i), _, rfl, hz, hz, ?_⟩
  exact ⟨W₂, st₂, _, _, _, l₂, r₂.toks _, .str _ _, h₂ _⟩
/-! raise of a builtin exception with one argument -/
theorem as_raise1 {P : AF → St → Prop} {cls newId initId : String} (F : ExcCallFacts cls newId initId) (FR : ExcRaiseFacts cls) {x : Str} {e : Expr} {np cpos pos : Pos} (hx : nsIn G.K mainGlobals x = some none) (hv : bootBuiltins x = some (.type cls)) (hh : c.A.handled = none)
    (h : AL G c (spliced (backTo cpos (starEach [e] c.env))) st (fun ds st₁ => ds.length ≤ 16384 ∧ X cls false st₁) X)
    (hn : x ≠ "__name__" := by decide) (hkd : c.env.kindOf x = some .globalImplicit := by rfl) (hd : (x == ("__debug__" : Str)) = false := by rfl)
    (he : starEach [e] c.env = (false, eval e c.env) :: starEach [] c.env := by rfl) (hplain : (backTo cpos (starEach [e] c.env)).any (·.1) = false := by rfl) :
    AS G c (exec (.Raise (some (.Call (.Name x np) [e] [] cpos)) none pos) c.env) st P X := by
  intro W s h₀ m hr
  refine wpAny_Raise_call F FR hh hplain (name_B hr.fr hr.kin (topRead_of hr.top) hx hv hn ⟨rfl, ?_⟩ hr.fn hkd hd)
  rw [he] at h ⊢
  refine evalArgs_plain (h.step (.refl W) hr (fun _ _ x => x) fun W₁ st₁ ds h₁ m₁ vs s₁ l₁ _ r₁ p₁ q₁ => ?_)
  refine ⟨rfl, ?_, fun h' e hm => ?_⟩
  · show vs.length ≤ sizeLine
    rw [p₁.length]
    exact Nat.le_trans q₁.1 (Nat.le_of_ble_eq_true rfl)
  · exact ⟨W₁, st₁, cls, false, l₁, ⟨e, h₁, m₁, vs, rfl, r₁.gens, r₁.os, r₁.toCore, .inl ⟨rfl, _, r₁.fr, r₁.news, hm.of⟩⟩, q₁.2⟩
/-! try with one except clause of a builtin exception, its body's exceptions come out of calls -/
theorem Rel.unmark {W : Wd} {h₀ : Heap} {m : Str → Option Value} {hm : Option Value} {s : Shared} (h : Rel G { c with hm := hm } W st h₀ m s) (hd : HdOk c.A.handled W) : Rel G c W st h₀ m s :=
  { turn := h.turn, same := h.same, below := h.below, kin := h.kin, top := h.top, kb := h.kb, tb := h.tb, dicts := h.dicts, fn := h.fn, cpo := h.cpo, hdo := hd, dep := h.dep, unt := h.unt, loc := h.loc, len := h.len, nodup := h.nodup, lists := h.lists, fr := h.fr, news := h.news, gens := h.gens, os := h.os }
def tryK (G : Gl) (c : Ac) (orelse : List Stmt) (P : AF → St → Prop) : AF → St → Prop
  | .next, st₁ => AS G c (execs orelse c.env) st₁ P NoX
  | af, st₁ => P af st₁
end
/-- what the except clauses do with an exception of class cls -/
inductive Hands (G : Gl) (c : Ac) (cls : String) (st : St) (P : AF → St → Prop) : List ExceptHandler → Prop
  | skip {x : Str} {T' : String} {np hp : Pos} {b₀ : Stmt} {suite : List Stmt} {rest : List ExceptHandler} (hx : nsIn G.K mainGlobals x = some none) (hv : bootBuiltins x = some (.type T')) (hn : x ≠ "__name__")
      (hexc : isSubtype (.type T') (.type "BaseException") = pure true) (hnt : isSubtype (.type ((Manifest.find? T').elim "type" fun y => y.metatype)) (.type "tuple") = pure false) (hsub : isSubtype (.type cls) (.type T') = pure false)
      (hkd : c.env.kindOf x = some .globalImplicit) (hd : (x == ("__debug__" : Str)) = false) (h : Hands G c cls st P rest) : Hands G c cls st P (.ExceptHandler (some (.Name x np)) none (b₀ :: suite) hp :: rest)
  | hit {x : Str} {T' : String} {np hp : Pos} {b₀ : Stmt} {suite : List Stmt} {rest : List ExceptHandler} (hx : nsIn G.K mainGlobals x = some none) (hv : bootBuiltins x = some (.type T')) (hn : x ≠ "__name__")
      (hexc : isSubtype (.type T') (.type "BaseException") = pure true) (hnt : isSubtype (.type ((Manifest.find? T').elim "type" fun y => y.metatype)) (.type "tuple") = pure false) (hsub : isSubtype (.type cls) (.type T') = pure true)
      (hkd : c.env.kindOf x = some .globalImplicit) (hd : (x == ("__debug__" : Str)) = false)
      (h : ∀ ev, AS G { c with hm := some ev } (execs (b₀ :: suite) c.env) { st with tn := true } P NoX) : Hands G c cls st P (.ExceptHandler (some (.Name x np)) none (b₀ :: suite) hp :: rest)
section
variable {G : Gl} {c : Ac} {st : St} {X : XPost}
theorem hands_go (hm : c.hm = none) {cls : String} {st₁ : St} {P : AF → St → Prop} {hs : List ExceptHandler} (H : Hands G c cls st₁ P hs) {W₀ W₁ : Wd} (l₁ : W₀.Le W₁) {s : Shared} {ea t : Addr} {h₁ g B : Heap} {m₁ : Str → Option Value}
    (co : Core G c W₁ st₁ h₁ m₁) (F : Fr h₁ c.L g m₁) (hB : G.base.StaysIn B) (hBG : ∀ b o, g.get? b = some o → b ∉ (c.env :: c.outer).filterMap (·.frame) → B.get? b = some o) (hl : ∀ q ∈ W₁.N, B.get? q.1 = some q.2 ∧ g.get? q.1 = none ∧ G.base.get? q.1 = none)
    (hfl : Heap.FlyingW B (c.env :: c.outer) ea (.type cls) (.ref t) s.heap) (hF : F2 s.heap ea) (hsm : g.UpToSlots s.heap) (hg : s.gens = #[]) (ho : s.os = G.os) :
    wpAny (model G.prog G.w) c.A (handleBy (.ref ea) c.env hs) (QP RepF G c W₀ P) (fun _ _ => False) s := by
  obtain ⟨A₀, outer, g₀, nm, sc, L, fa, cd, hm', room, cp⟩ := c
  cases hm
  obtain ⟨ob, hob, hobc⟩ := hfl.there
  obtain ⟨g₅, T₅, F₅, K₅⟩ := kts_ground co.below F hBG hfl.1 hsm
  have X₅ : G.K.In g₅ := co.kb.keeps K₅.stays
  have P₅ : TopRead G.p G.loose G.mg G.mb g₅ := topRead_of (co.tb.keeps K₅.stays)
  induction H with
  | @skip x T' np hp b₀ suite rest hx hv hn hexc hnt hsub hkd hd h ih =>
    exact wpAny_handleBy_builtin (A := A₀.deeper (envOf nm sc L fa cd)) (X := cls) (T := T') (b := false) hexc hnt hsub (name_B F₅ X₅ P₅ hx hv hn ⟨rfl, ⟨ob, hob, hobc⟩, ih⟩ co.fn hkd hd)
  | @hit x T' np hp b₀ suite rest hx hv hn hexc hnt hsub hkd hd h =>
    refine wpAny_handleBy_builtin (A := A₀.deeper (envOf nm sc L fa cd)) (X := cls) (T := T') (b := true) hexc hnt hsub (name_B F₅ X₅ P₅ hx hv hn ⟨rfl, ⟨ob, hob, hobc⟩, ?_⟩ co.fn hkd hd)
    refine flight2 hfl.1 hfl.2.2.1 hfl.2.2.2.at hF fun h₆ k1 k2 k3 k4 k5 => ?_
    have hsm₆ := hsm.trans k4
    obtain ⟨g₆, T₆, F₆, K₆⟩ := kts_ground co.below F hBG k1 hsm₆
    obtain ⟨oe, ws, hoe, hoed, hoe2⟩ := k5
    have ne₆ : g₆.get? ea = none := T₆.none_ _ (kts_fresh F hBG hfl.2.1 fun o ho m => by
      obtain ⟨_, o', ho', hd⟩ := co.below.frames.mem m
      rw [ho] at ho'
      cases ho'
      obtain ⟨sl, hs⟩ := hsm₆ _ _ (F.keep _ _ ho) hd
      rw [hoe] at hs
      cases hs
      exact hd _ hoed)
    have hL : B.get? L = none := by
      obtain ⟨_, ⟨L', _, hf, hn', _⟩, _⟩ := hfl.2.2.1
      obtain rfl : L = L' := Option.some.inj hf
      exact hn'
    have Nl : News g₆ L h₆ W₁.N := fun q hq => ⟨k1 _ _ (hl q hq).1, (fun z => by have := (hl q hq).1; rw [z, hL] at this; cases this), T₆.none_ _ (kts_none F.keep (hl q hq).2.1)⟩
    have N₆ := News.more F₆ Nl hoe (fun es n q => by rw [hoed] at q; cases q) ne₆
    have hρ : ea ∉ W₁.ρ := fun q => by
      obtain ⟨_, _, _, _, _, _, hm, _⟩ := co.rho_in q
      have := (hl _ hm).1
      rw [hfl.2.1] at this
      cases this
    have le : W₁.Le (newW W₁ ea oe) := newW_le
    have core : Core G ⟨A₀, outer, g₀, nm, sc, L, fa, cd, some (.ref ea), room, cp⟩ (newW W₁ ea oe) { st₁ with tn := true } g₆ m₁ :=
      { turn := co.turn.trans T₆, same := fun q => (by cases q), below := K₆, kin := co.kb.keeps K₆.stays, top := co.tb.keeps K₆.stays, kb := co.kb, tb := co.tb, dicts := co.dicts.turn T₆, fn := co.fn, cpo := co.cpo.mono le
        hdo := fun v e => by
          have e : some (Value.ref ea) = some v := e
          cases e
          exact ⟨ea, oe, ws, rfl, .head _, hρ, hoed, hoe2⟩
        dep := co.dep, unt := co.unt, loc := fun x d e' => (let ⟨u, h1, h2⟩ := co.loc x d e'; ⟨u, h1, h2.mono le⟩), len := co.len, nodup := co.nodup
        lists := fun i ds e => (let ⟨b, vs, n, h1, h2, h3⟩ := co.lists i ds e; ⟨b, vs, n, h1, .tail _ h2, h3.mono le⟩) }
    refine wpAny_passesOwnAt .never (wpAny_mono (h (.ref ea) (newW W₁ ea oe) { s with heap := h₆ } g₆ m₁ { core with fr := F₆, news := N₆, gens := hg, os := ho }) (fun f s₂ q => ?_) fun e s₂ x => (xp_no x).elim)
    obtain ⟨W₂, st₂, af, g₂, m₂, l₂, r₂, rf, p₂⟩ := q
    exact ⟨W₂, st₂, af, g₂, m₂, l₁.trans (le.trans l₂), Rel.unmark (c := ⟨A₀, outer, g₀, nm, sc, L, fa, cd, none, room, cp⟩) r₂ (co.hdo.mono (le.trans l₂)), rf, p₂⟩
theorem as_tryH {P : AF → St → Prop} {body orelse : List Stmt} {pos : Pos} {hd₀ : ExceptHandler} {hds : List ExceptHandler} (hm : c.hm = none)
    (h : AS G c (execs body c.env) st (tryK G c orelse P) (fun cls fl st₁ => fl = true ∧ Hands G c cls st₁ P (hd₀ :: hds))) :
    AS G c (exec (.Try body (hd₀ :: hds) orelse [] pos) c.env) st P X := by
  intro W s h₀ m hr
  refine wpAny_mono (E := fun _ _ => False) (Q := QP RepF G c W P) ?_ (fun _ _ q => q) (fun _ _ q => q.elim)
  refine wpAny_Try_except (h.step (.refl W) hr (fun e s' hx' => ?_) fun W₁ st₁ af h₁ m₁ f s₁ l₁ _ r₁ p₁ q₁ => ?_)
  · obtain ⟨W₁, st₁, cls, fl, l₁, ⟨ea, h₁, m₁, vs, rfl, hg, ho, co, th⟩, rfl, q₁⟩ := hx'
    rcases th with ⟨q, _⟩ | ⟨_, g, t, F, R, up, hF⟩
    · cases q
    obtain ⟨⟨B, hB, hBG, hl, hfl, hnew⟩, htup⟩ := R
    have hfr : c.A.frames = some (c.env :: c.outer) := Around.frames_deeper co.below.stack
    refine note2_on hfr hfl.2.2.1 rfl hfl.2.2.2 hfl.1 hfl.2.1 hF fun h₄ ⟨k1, k2, k3, k4⟩ hF₄ => ?_
    refine flight2 (s := { s' with heap := h₄ }) k1 k2 k3 hF₄ fun h₅ j1 j2 j3 j4 j5 => ?_
    exact hands_go hm q₁ l₁ co F hB hBG hl (s := { s' with heap := h₅ }) ⟨j1, hfl.2.1, j2, j3⟩ j5 (up.trans (Heap.UpToSlots.trans (h₂ := h₄) k4 j4)) hg ho
  · cases p₁ with
    | next =>
      have q₁ : AS G c (execs orelse c.env) st₁ P NoX := q₁
      exact wpAny_mono (q₁ W₁ s₁ _ _ r₁) (fun _ _ q => q.le l₁) fun _ _ x => (xp_no x).elim
    | brk => exact ⟨W₁, st₁, _, _, _, l₁, r₁, .brk, q₁⟩
    | cont => exact ⟨W₁, st₁, _, _, _, l₁, r₁, .cont, q₁⟩
    | ret q => exact ⟨W₁, st₁, _, _, _, l₁, r₁, .ret q, q₁⟩
theorem as_try {P : AF → St → Prop} {body orelse : List Stmt} {x : Str} {cls T' : String} {np hp pos : Pos} {b₀ : Stmt} {suite : List Stmt} {rest : List ExceptHandler}
    (hx : nsIn G.K mainGlobals x = some none) (hv : bootBuiltins x = some (.type T')) (hm : c.hm = none)
    (hexc : isSubtype (.type T') (.type "BaseException") = pure true) (hnt : isSubtype (.type ((Manifest.find? T').elim "type" fun y => y.metatype)) (.type "tuple") = pure false) (hsub : isSubtype (.type cls) (.type T') = pure true)
    (h : AS G c (execs body c.env) st (tryK G c orelse P) (fun cls' fl st₁ => cls' = cls ∧ fl = true ∧ ∀ ev, AS G { c with hm := some ev } (execs (b₀ :: suite) c.env) { st₁ with tn := true } P NoX))
    (hn : x ≠ "__name__" := by decide) (hkd : c.env.kindOf x = some .globalImplicit := by rfl) (hd : (x == ("__debug__" : Str)) = false := by rfl) :
    AS G c (exec (.Try body (.ExceptHandler (some (.Name x np)) none (b₀ :: suite) hp :: rest) orelse [] pos) c.env) st P X :=
  as_tryH hm (h.mono (fun _ _ q => q) fun cls' fl st₁ ⟨e1, e2, q⟩ => ⟨e2, .hit hx hv hn hexc hnt (e1 ▸ hsub) hkd hd q⟩)
end

section
variable {G : Gl} {c : Ac} {st : St} {X : XPost}
theorem tryK_ret {P : AF → St → Prop} {o : List Stmt} {d : D} (h : P (.ret d) st) : tryK G c o P (.ret d) st := h
end
theorem sub_ve_be : isSubtype (.type "ValueError") (.type "BaseException") = pure true := by rw [isSubtype_type]; kernel_rfl
theorem sub_ve_tu : isSubtype (.type ((Manifest.find? "ValueError").elim "type" fun y => y.metatype)) (.type "tuple") = pure false := by rw [isSubtype_type]; kernel_rfl
theorem sub_ve_ve : isSubtype (.type "ValueError") (.type "ValueError") = pure true := by rw [isSubtype_type]; kernel_rfl
section
variable {G : Gl} {c : Ac} {st : St} {X : XPost}
end

def lex3 (a1 a2 a3 b1 b2 b3 : Int) : Bool := decide (a1 < b1 ∨ (a1 = b1 ∧ (a2 < b2 ∨ (a2 = b2 ∧ a3 < b3))))
theorem rc_lt {prog : Program} {w : World} {A : Around} {E : Value → Shared → Prop} {s : Shared} {Q : Value → Shared → Prop} {a b : Int} {t u : Tok} (h : Q (.bool (decide (a < b))) s) : wpAny (model prog w) A (richCompare .Lt (.int a t) (.int b u)) Q E s := lt_int h
theorem tuple_lt3 (l b : Addr) (a1 a2 a3 b1 b2 b3 : Int) (t1 t2 t3 u1 u2 u3 : Tok) (n n2 : Nat) :
    Meets (Builtin.«tuple.__lt__» ⟨[.ref l, .ref b], []⟩)
      (fun A R s => s.heap.get? l = some { cls := .type "tuple", data := .seq #[.int a1 t1, .int a2 t2, .int a3 t3] n } ∧ s.heap.get? b = some { cls := .type "tuple", data := .seq #[.int b1 u1, .int b2 u2, .int b3 u3] n2 } ∧
        R (.ok (.ret (.bool (lex3 a1 a2 a3 b1 b2 b3)))) s) :=
  .of_wp fun prog w A R s h => by
    obtain ⟨hp, g, d, tk, os⟩ := s; obtain ⟨hl, hb, h⟩ := h
    have f2 := AutoSeq1.sub_tuple_tuple
    wp_walk using wpAny_loadPart' hl, wpAny_loadPart' hb, wpAny_eqBool_int
    by_cases e1 : a1 = b1
    · rw [show (a1 == b1) = true by simpa using e1]
      wp_walk using wpAny_eqBool_int
      by_cases e2 : a2 = b2
      · rw [show (a2 == b2) = true by simpa using e2]
        wp_walk using wpAny_eqBool_int
        by_cases e3 : a3 = b3
        · rw [show (a3 == b3) = true by simpa using e3]
          wp_walk
          refine ⟨_, rfl, ?_⟩
          rw [show lex3 a1 a2 a3 b1 b2 b3 = false by unfold lex3; rw [decide_eq_false_iff_not]; omega] at h
          exact h
        · rw [show (a3 == b3) = false by simpa using e3]
          wp_walk using rc_lt
          refine ⟨_, rfl, ?_⟩
          rw [show lex3 a1 a2 a3 b1 b2 b3 = decide (a3 < b3) by unfold lex3; rw [decide_eq_decide]; omega] at h
          exact h
      · rw [show (a2 == b2) = false by simpa using e2]
        wp_walk using rc_lt
        refine ⟨_, rfl, ?_⟩
        rw [show lex3 a1 a2 a3 b1 b2 b3 = decide (a2 < b2) by unfold lex3; rw [decide_eq_decide]; omega] at h
        exact h
    · rw [show (a1 == b1) = false by simpa using e1]
      wp_walk using rc_lt
      refine ⟨_, rfl, ?_⟩
      rw [show lex3 a1 a2 a3 b1 b2 b3 = decide (a1 < b1) by unfold lex3; rw [decide_eq_decide]; omega] at h
      exact h
section
variable {G : Gl} {c : Ac} {st : St} {X : XPost}
theorem ev_ltT3 {P : D → St → Prop} {a1 a2 a3 b1 b2 b3 : Int} (h : P (.bool (lex3 a1 a2 a3 b1 b2 b3)) st) : EV2 G c (compareOp .Lt) (.tup [.int a1, .int a2, .int a3]) (.tup [.int b1, .int b2, .int b3]) st P X := by
  intro W s h₀ m v u hr hv hu
  have hU := units_ok hr
  cases hv with
  | tup hm h1 =>
  cases hu with
  | tup hm' h2 =>
  have e1 := (hr.news _ hm).1
  have e2 := (hr.news _ hm').1
  cases h1 with
  | cons q1 h1 =>
  cases h1 with
  | cons q2 h1 =>
  cases h1 with
  | cons q3 h1 =>
  cases h1
  cases q1; cases q2; cases q3
  cases h2 with
  | cons q1 h2 =>
  cases h2 with
  | cons q2 h2 =>
  cases h2 with
  | cons q3 h2 =>
  cases h2
  cases q1; cases q2; cases q3
  exact richCompare_meets_room (op := .Lt) ⟨_, e1, rfl⟩ ⟨_, e2, rfl⟩ PySem.F.slot_tuple_lt PySem.F.entry_tuple_lt (PySem.F.args_tuple_lt_2 _ _) (tuple_lt3 _ _ _ _ _ _ _ _ _ _ _ _ _ _ _ _) ⟨e1, e2, show Value.bool (lex3 a1 a2 a3 b1 b2 b3) ≠ Value.notImplemented ∧ QP Rep G c W P (.bool (lex3 a1 a2 a3 b1 b2 b3)) s from ⟨(fun x => nomatch x), hr.here0 (.bool _) h⟩⟩ (by omega)
theorem ev_sum {P : D → St → Prop} {k : Nat} {ns : List Int} (hk : st.ls[k]? = some (ns.map D.int)) (hh : c.A.handled = none) (h : P (.int ns.sum) st) : EVN G c (callV (.builtin "sum")) [.lst k] st P X := by
  intro W s h₀ m vs hr hv
  cases hv with
  | cons h1 h2 =>
  cases h2
  cases h1 with
  | lst hρ =>
  obtain ⟨ws, n, ho, hL, h3⟩ := hr.isLst hk hρ
  refine sumK hh hr.fr hr.news hL h3.ints fun h' tk t' F N => ?_
  exact ⟨W, st, _, _, _, .refl W, hr.rest F N _, .int _ _, h⟩
end

section
variable {G : Gl} {c : Ac} {st : St} {X : XPost} {P : D → St → Prop}
theorem ev_eqVals {i j : Nat} {vs : List Value} (hi : st.ls[i]? = some (vs.map D.val)) (hj : st.ls[j]? = some (vs.map D.val)) (h : P (.bool true) st) : EV2 G c (compareOp .Eq) (.lst i) (.lst j) st P X := by
  intro W s h₀ m v u hr hv hu
  have same : ∀ {ws : List Value} {us : List Value}, Reps G.base W ws (us.map D.val) → ws = us := by
    intro ws us
    induction us generalizing ws with
    | nil => intro q; cases q; rfl
    | cons a r ih =>
      intro q
      cases q with
      | cons q1 q2 =>
        cases q1
        rw [ih q2]
  cases hv with
  | lst hρ =>
    cases hu with
    | lst hρ' =>
      obtain ⟨ws, n, ho, hL, h3⟩ := hr.isLst hi hρ
      obtain ⟨ws', n', ho', hL', h3'⟩ := hr.isLst hj hρ'
      obtain rfl := same h3
      obtain rfl := same h3'
      have hU := units_ok hr
      refine SeqAt.eq_listAt (e := fun _ => true) hL hL' rfl (by omega) (fun j _ _ => SeqAt.EqAt.same _) ?_
      have e : ((List.range ws'.toArray.size).all fun _ => true) = true := by simp
      rw [e]
      exact hr.here0 (.bool _) h
end

/-! the calendar, plain -/
abbrev leapP (y : Int) : Prop := y % 4 = 0 ∧ (y % 100 ≠ 0 ∨ y % 400 = 0)
def dimT : List Int := [-1, 31, 28, 31, 30, 31, 30, 31, 31, 30, 31, 30, 31]
def dbmT : List Int := [-1, 0, 31, 59, 90, 120, 151, 181, 212, 243, 273, 304, 334]
def dby (y : Int) : Int := (y - 1) * 365 + (y - 1) / 4 - (y - 1) / 100 + (y - 1) / 400
def lpI (y : Int) : Int := if leapP y then 1 else 0
/-- days ahead of the month, in the year -/
def dbm (y m : Int) : Int := dbmT.getD m.toNat 0 + if 2 < m ∧ leapP y then 1 else 0
def dim (y m : Int) : Int := if m = 2 ∧ leapP y then 29 else dimT.getD m.toNat 0
def Valid (y m d : Int) : Prop := 1 ≤ m ∧ m ≤ 12 ∧ 1 ≤ d ∧ d ≤ dim y m
def ordn (y m d : Int) : Int := dby y + dbm y m + d

theorem m12 {m : Int} (h1 : 1 ≤ m) (h2 : m ≤ 12) : m = 1 ∨ m = 2 ∨ m = 3 ∨ m = 4 ∨ m = 5 ∨ m = 6 ∨ m = 7 ∨ m = 8 ∨ m = 9 ∨ m = 10 ∨ m = 11 ∨ m = 12 := by omega
theorem dby_succ (y : Int) : dby (y + 1) = dby y + 365 + lpI y := by
  unfold dby lpI
  split <;> omega
theorem lpI_cases (y : Int) : (leapP y ∧ lpI y = 1) ∨ (¬ leapP y ∧ lpI y = 0) := by
  unfold lpI
  by_cases h : leapP y
  · exact .inl ⟨h, if_pos h⟩
  · exact .inr ⟨h, if_neg h⟩
theorem lpI_range (y : Int) : 0 ≤ lpI y ∧ lpI y ≤ 1 := by rcases lpI_cases y with ⟨_, e⟩ | ⟨_, e⟩ <;> omega
/-- the twelve rows -/
theorem dbm1 (y : Int) : dbm y 1 = 0 := by
  show (0 : Int) + (if (2 : Int) < 1 ∧ leapP y then 1 else 0) = _
  rw [if_neg (fun q => absurd q.1 (by decide))]
  rfl
theorem dbm2 (y : Int) : dbm y 2 = 31 := by
  show (31 : Int) + (if (2 : Int) < 2 ∧ leapP y then 1 else 0) = _
  rw [if_neg (fun q => absurd q.1 (by decide))]
  rfl
theorem dbm3 (y : Int) : dbm y 3 = 59 + lpI y := by
  rcases lpI_cases y with ⟨h, e⟩ | ⟨h, e⟩
  · show (59 : Int) + (if (2 : Int) < 3 ∧ leapP y then 1 else 0) = _
    rw [if_pos ⟨by decide, h⟩, e]
  · show (59 : Int) + (if (2 : Int) < 3 ∧ leapP y then 1 else 0) = _
    rw [if_neg (fun q => h q.2), e]
theorem dbm4 (y : Int) : dbm y 4 = 90 + lpI y := by
  rcases lpI_cases y with ⟨h, e⟩ | ⟨h, e⟩
  · show (90 : Int) + (if (2 : Int) < 4 ∧ leapP y then 1 else 0) = _
    rw [if_pos ⟨by decide, h⟩, e]
  · show (90 : Int) + (if (2 : Int) < 4 ∧ leapP y then 1 else 0) = _
    rw [if_neg (fun q => h q.2), e]
theorem dbm5 (y : Int) : dbm y 5 = 120 + lpI y := by
  rcases lpI_cases y with ⟨h, e⟩ | ⟨h, e⟩
  · show (120 : Int) + (if (2 : Int) < 5 ∧ leapP y then 1 else 0) = _
    rw [if_pos ⟨by decide, h⟩, e]
  · show (120 : Int) + (if (2 : Int) < 5 ∧ leapP y then 1 else 0) = _
    rw [if_neg (fun q => h q.2), e]
theorem dbm6 (y : Int) : dbm y 6 = 151 + lpI y := by
  rcases lpI_cases y with ⟨h, e⟩ | ⟨h, e⟩
  · show (151 : Int) + (if (2 : Int) < 6 ∧ leapP y then 1 else 0) = _
    rw [if_pos ⟨by decide, h⟩, e]
  · show (151 : Int) + (if (2 : Int) < 6 ∧ leapP y then 1 else 0) = _
    rw [if_neg (fun q => h q.2), e]
theorem dbm7 (y : Int) : dbm y 7 = 181 + lpI y := by
  rcases lpI_cases y with ⟨h, e⟩ | ⟨h, e⟩
  · show (181 : Int) + (if (2 : Int) < 7 ∧ leapP y then 1 else 0) = _
    rw [if_pos ⟨by decide, h⟩, e]
  · show (181 : Int) + (if (2 : Int) < 7 ∧ leapP y then 1 else 0) = _
    rw [if_neg (fun q => h q.2), e]
theorem dbm8 (y : Int) : dbm y 8 = 212 + lpI y := by
  rcases lpI_cases y with ⟨h, e⟩ | ⟨h, e⟩
  · show (212 : Int) + (if (2 : Int) < 8 ∧ leapP y then 1 else 0) = _
    rw [if_pos ⟨by decide, h⟩, e]
  · show (212 : Int) + (if (2 : Int) < 8 ∧ leapP y then 1 else 0) = _
    rw [if_neg (fun q => h q.2), e]
theorem dbm9 (y : Int) : dbm y 9 = 243 + lpI y := by
  rcases lpI_cases y with ⟨h, e⟩ | ⟨h, e⟩
  · show (243 : Int) + (if (2 : Int) < 9 ∧ leapP y then 1 else 0) = _
    rw [if_pos ⟨by decide, h⟩, e]
  · show (243 : Int) + (if (2 : Int) < 9 ∧ leapP y then 1 else 0) = _
    rw [if_neg (fun q => h q.2), e]
theorem dbm10 (y : Int) : dbm y 10 = 273 + lpI y := by
  rcases lpI_cases y with ⟨h, e⟩ | ⟨h, e⟩
  · show (273 : Int) + (if (2 : Int) < 10 ∧ leapP y then 1 else 0) = _
    rw [if_pos ⟨by decide, h⟩, e]
  · show (273 : Int) + (if (2 : Int) < 10 ∧ leapP y then 1 else 0) = _
    rw [if_neg (fun q => h q.2), e]
theorem dbm11 (y : Int) : dbm y 11 = 304 + lpI y := by
  rcases lpI_cases y with ⟨h, e⟩ | ⟨h, e⟩
  · show (304 : Int) + (if (2 : Int) < 11 ∧ leapP y then 1 else 0) = _
    rw [if_pos ⟨by decide, h⟩, e]
  · show (304 : Int) + (if (2 : Int) < 11 ∧ leapP y then 1 else 0) = _
    rw [if_neg (fun q => h q.2), e]
theorem dbm12 (y : Int) : dbm y 12 = 334 + lpI y := by
  rcases lpI_cases y with ⟨h, e⟩ | ⟨h, e⟩
  · show (334 : Int) + (if (2 : Int) < 12 ∧ leapP y then 1 else 0) = _
    rw [if_pos ⟨by decide, h⟩, e]
  · show (334 : Int) + (if (2 : Int) < 12 ∧ leapP y then 1 else 0) = _
    rw [if_neg (fun q => h q.2), e]
theorem dim1 (y : Int) : dim y 1 = 31 := by
  show (if (1 : Int) = 2 ∧ leapP y then 29 else (31 : Int)) = _
  rw [if_neg (fun q => absurd q.1 (by decide))]
theorem dim2 (y : Int) : dim y 2 = 28 + lpI y := by
  rcases lpI_cases y with ⟨h, e⟩ | ⟨h, e⟩
  · show (if (2 : Int) = 2 ∧ leapP y then 29 else (28 : Int)) = _
    rw [if_pos ⟨rfl, h⟩, e]; rfl
  · show (if (2 : Int) = 2 ∧ leapP y then 29 else (28 : Int)) = _
    rw [if_neg (fun q => h q.2), e]; rfl
theorem dim3 (y : Int) : dim y 3 = 31 := by
  show (if (3 : Int) = 2 ∧ leapP y then 29 else (31 : Int)) = _
  rw [if_neg (fun q => absurd q.1 (by decide))]
theorem dim4 (y : Int) : dim y 4 = 30 := by
  show (if (4 : Int) = 2 ∧ leapP y then 29 else (30 : Int)) = _
  rw [if_neg (fun q => absurd q.1 (by decide))]
theorem dim5 (y : Int) : dim y 5 = 31 := by
  show (if (5 : Int) = 2 ∧ leapP y then 29 else (31 : Int)) = _
  rw [if_neg (fun q => absurd q.1 (by decide))]
theorem dim6 (y : Int) : dim y 6 = 30 := by
  show (if (6 : Int) = 2 ∧ leapP y then 29 else (30 : Int)) = _
  rw [if_neg (fun q => absurd q.1 (by decide))]
theorem dim7 (y : Int) : dim y 7 = 31 := by
  show (if (7 : Int) = 2 ∧ leapP y then 29 else (31 : Int)) = _
  rw [if_neg (fun q => absurd q.1 (by decide))]
theorem dim8 (y : Int) : dim y 8 = 31 := by
  show (if (8 : Int) = 2 ∧ leapP y then 29 else (31 : Int)) = _
  rw [if_neg (fun q => absurd q.1 (by decide))]
theorem dim9 (y : Int) : dim y 9 = 30 := by
  show (if (9 : Int) = 2 ∧ leapP y then 29 else (30 : Int)) = _
  rw [if_neg (fun q => absurd q.1 (by decide))]
theorem dim10 (y : Int) : dim y 10 = 31 := by
  show (if (10 : Int) = 2 ∧ leapP y then 29 else (31 : Int)) = _
  rw [if_neg (fun q => absurd q.1 (by decide))]
theorem dim11 (y : Int) : dim y 11 = 30 := by
  show (if (11 : Int) = 2 ∧ leapP y then 29 else (30 : Int)) = _
  rw [if_neg (fun q => absurd q.1 (by decide))]
theorem dim12 (y : Int) : dim y 12 = 31 := by
  show (if (12 : Int) = 2 ∧ leapP y then 29 else (31 : Int)) = _
  rw [if_neg (fun q => absurd q.1 (by decide))]
theorem dim_range {y m : Int} (h1 : 1 ≤ m) (h2 : m ≤ 12) : 28 ≤ dim y m ∧ dim y m ≤ 31 := by
  have r := lpI_range y
  rcases m12 h1 h2 with rfl | rfl | rfl | rfl | rfl | rfl | rfl | rfl | rfl | rfl | rfl | rfl
  · rw [dim1]; omega
  · rw [dim2]; omega
  · rw [dim3]; omega
  · rw [dim4]; omega
  · rw [dim5]; omega
  · rw [dim6]; omega
  · rw [dim7]; omega
  · rw [dim8]; omega
  · rw [dim9]; omega
  · rw [dim10]; omega
  · rw [dim11]; omega
  · rw [dim12]; omega
theorem dbm_next {y m : Int} (h1 : 1 ≤ m) (h2 : m < 12) : dbm y (m + 1) = dbm y m + dim y m := by
  have r := lpI_range y
  have h3 : m ≤ 11 := by omega
  have h : m = 1 ∨ m = 2 ∨ m = 3 ∨ m = 4 ∨ m = 5 ∨ m = 6 ∨ m = 7 ∨ m = 8 ∨ m = 9 ∨ m = 10 ∨ m = 11 := by omega
  clear h1 h2 h3
  rcases h with rfl | rfl | rfl | rfl | rfl | rfl | rfl | rfl | rfl | rfl | rfl
  · show dbm y 2 = dbm y 1 + dim y 1; rw [dbm2, dbm1, dim1]; rfl
  · show dbm y 3 = dbm y 2 + dim y 2; rw [dbm3, dbm2, dim2]; omega
  · show dbm y 4 = dbm y 3 + dim y 3; rw [dbm4, dbm3, dim3]; omega
  · show dbm y 5 = dbm y 4 + dim y 4; rw [dbm5, dbm4, dim4]; omega
  · show dbm y 6 = dbm y 5 + dim y 5; rw [dbm6, dbm5, dim5]; omega
  · show dbm y 7 = dbm y 6 + dim y 6; rw [dbm7, dbm6, dim6]; omega
  · show dbm y 8 = dbm y 7 + dim y 7; rw [dbm8, dbm7, dim7]; omega
  · show dbm y 9 = dbm y 8 + dim y 8; rw [dbm9, dbm8, dim8]; omega
  · show dbm y 10 = dbm y 9 + dim y 9; rw [dbm10, dbm9, dim9]; omega
  · show dbm y 11 = dbm y 10 + dim y 10; rw [dbm11, dbm10, dim10]; omega
  · show dbm y 12 = dbm y 11 + dim y 11; rw [dbm12, dbm11, dim11]; omega
theorem dbm_last (y : Int) : dbm y 12 + dim y 12 = 365 + lpI y := by rw [dbm12, dim12]; omega
theorem dbm_lt {y m m' : Int} (h1 : 1 ≤ m) (h2 : m < m') (h3 : m' ≤ 12) : dbm y m + dim y m ≤ dbm y m' := by
  have key : ∀ (n : Nat) (m : Int), 1 ≤ m → m + 1 + n ≤ 12 → dbm y m + dim y m ≤ dbm y (m + 1 + n) := by
    intro n
    induction n with
    | zero =>
      intro m h1 h2
      have := dbm_next (y := y) h1 (by omega)
      rw [show m + 1 + ((0 : Nat) : Int) = m + 1 by omega]
      exact Int.le_of_eq this.symm
    | succ n ih =>
      intro m h1 h2
      have a := ih m h1 (by omega)
      have b := dbm_next (y := y) (m := m + 1 + n) (by omega) (by omega)
      have r := dim_range (y := y) (m := m + 1 + n) (by omega) (by omega)
      rw [show m + 1 + ((n + 1 : Nat) : Int) = m + 1 + n + 1 by omega, b]
      generalize dbm y (m + 1 + n) = t at *
      generalize dim y (m + 1 + n) = u at *
      generalize dbm y m = v at *
      generalize dim y m = w at *
      omega
  have := key (m' - m - 1).toNat m h1 (by omega)
  rwa [show m + 1 + ((m' - m - 1).toNat : Int) = m' by omega] at this
theorem dbm_nonneg {y m : Int} (h1 : 1 ≤ m) (h2 : m ≤ 12) : 0 ≤ dbm y m := by
  have r := lpI_range y
  rcases m12 h1 h2 with rfl | rfl | rfl | rfl | rfl | rfl | rfl | rfl | rfl | rfl | rfl | rfl
  · rw [dbm1]; omega
  · rw [dbm2]; omega
  · rw [dbm3]; omega
  · rw [dbm4]; omega
  · rw [dbm5]; omega
  · rw [dbm6]; omega
  · rw [dbm7]; omega
  · rw [dbm8]; omega
  · rw [dbm9]; omega
  · rw [dbm10]; omega
  · rw [dbm11]; omega
  · rw [dbm12]; omega
theorem dbm_dim {y m : Int} (h1 : 1 ≤ m) (h2 : m ≤ 12) : dbm y m + dim y m ≤ 365 + lpI y := by
  have l := dbm_last y
  rcases Int.lt_or_eq_of_le h2 with q | rfl
  · have a := dbm_lt (y := y) h1 q (Int.le_refl 12)
    have r := dim_range (y := y) (m := 12) (by decide) (by decide)
    generalize dbm y 12 = t at *
    generalize dim y 12 = u at *
    generalize dbm y m = v at *
    generalize dim y m = w at *
    omega
  · exact Int.le_of_eq l
/-- a valid day lies in its year -/
theorem valid_range {y m d : Int} (h : Valid y m d) : 1 ≤ dbm y m + d ∧ dbm y m + d ≤ 365 + lpI y := by
  obtain ⟨h1, h2, h3, h4⟩ := h
  have a := dbm_nonneg (y := y) h1 h2
  have b := dbm_dim (y := y) h1 h2
  generalize dbm y m = v at *
  generalize dim y m = w at *
  omega
theorem dby_lt {y z : Int} (h : y < z) : dby y + 365 + lpI y ≤ dby z := by
  have key : ∀ (n : Nat) (y : Int), dby y + 365 + lpI y ≤ dby (y + 1 + n) := by
    intro n
    induction n with
    | zero =>
      intro y
      have := dby_succ y
      rw [show y + 1 + ((0 : Nat) : Int) = y + 1 by omega]
      exact Int.le_of_eq this.symm
    | succ n ih =>
      intro y
      have h1 := ih y
      have h2 := dby_succ (y + 1 + n)
      have h3 := lpI_range (y + 1 + n)
      rw [show y + 1 + ((n + 1 : Nat) : Int) = y + 1 + n + 1 by omega, h2]
      generalize dby (y + 1 + n) = t at *
      generalize lpI (y + 1 + n) = u at *
      generalize dby y = v at *
      generalize lpI y = w at *
      omega
  have := key (z - y - 1).toNat y
  rwa [show y + 1 + ((z - y - 1).toNat : Int) = z by omega] at this
/-- one day, one name -/
theorem year_unique {y y' a a' : Int} (h1 : 1 ≤ a) (h2 : a ≤ 365 + lpI y) (h1' : 1 ≤ a') (h2' : a' ≤ 365 + lpI y') (e : dby y + a = dby y' + a') : y = y' ∧ a = a' := by
  have hy : y = y' := by
    rcases Int.lt_trichotomy y y' with q | q | q
    · have := dby_lt q
      exfalso
      generalize dby y = t at *
      generalize dby y' = u at *
      generalize lpI y = v at *
      generalize lpI y' = w at *
      omega
    · exact q
    · have := dby_lt q
      exfalso
      generalize dby y = t at *
      generalize dby y' = u at *
      generalize lpI y = v at *
      generalize lpI y' = w at *
      omega
  subst hy
  exact ⟨rfl, Int.add_left_cancel e⟩
theorem month_unique {y m d m' d' : Int} (h : Valid y m d) (h' : Valid y m' d') (e : dbm y m + d = dbm y m' + d') : m = m' ∧ d = d' := by
  obtain ⟨h1, h2, h3, h4⟩ := h
  obtain ⟨h1', h2', h3', h4'⟩ := h'
  have hm : m = m' := by
    rcases Int.lt_trichotomy m m' with q | q | q
    · have := dbm_lt (y := y) h1 q h2'
      exfalso
      generalize dbm y m = t at *
      generalize dbm y m' = u at *
      generalize dim y m = v at *
      generalize dim y m' = w at *
      omega
    · exact q
    · have := dbm_lt (y := y) h1' q h2
      exfalso
      generalize dbm y m = t at *
      generalize dbm y m' = u at *
      generalize dim y m = v at *
      generalize dim y m' = w at *
      omega
  subst hm
  exact ⟨rfl, Int.add_left_cancel e⟩
theorem valid_unique {y m d y' m' d' : Int} (h : Valid y m d) (h' : Valid y' m' d') (e : ordn y m d = ordn y' m' d') : y = y' ∧ m = m' ∧ d = d' := by
  have r := valid_range h
  have r' := valid_range h'
  unfold ordn at e
  rw [Int.add_assoc, Int.add_assoc] at e
  obtain ⟨rfl, e2⟩ := year_unique r.1 r.2 r'.1 r'.2 e
  exact ⟨rfl, month_unique h h' e2⟩

/-- what _ord2ymd reckons -/
def oY (n : Int) : Int :=
  (n - 1) / 146097 * 400 + 1 + ((n - 1) % 146097 / 36524 * 100 + (n - 1) % 146097 % 36524 / 1461 * 4 + (n - 1) % 146097 % 36524 % 1461 / 365)
def oR (n : Int) : Int := (n - 1) % 146097 % 36524 % 1461 % 365
theorem oparts (n : Int) : ∃ a b c d f g i j : Int, (n - 1) / 146097 = a ∧ (n - 1) % 146097 = b ∧ b / 36524 = c ∧ b % 36524 = d ∧ d / 1461 = f ∧ d % 1461 = g ∧ g / 365 = i ∧ g % 365 = j ∧
    (0 ≤ b ∧ b < 146097 ∧ n = 146097 * a + b + 1) ∧ (0 ≤ d ∧ d < 36524 ∧ b = 36524 * c + d ∧ 0 ≤ c ∧ c ≤ 4) ∧ (0 ≤ g ∧ g < 1461 ∧ d = 1461 * f + g ∧ 0 ≤ f ∧ f ≤ 24) ∧ (0 ≤ j ∧ j < 365 ∧ g = 365 * i + j ∧ 0 ≤ i ∧ i ≤ 4) := by
  refine ⟨_, _, _, _, _, _, _, _, rfl, rfl, rfl, rfl, rfl, rfl, rfl, rfl, ?_, ?_, ?_, ?_⟩ <;> omega
theorem dby_at {y a c f i : Int} (hy : y = 400 * a + 100 * c + 4 * f + i + 1) (hc : 0 ≤ c ∧ c ≤ 3) (hf : 0 ≤ f ∧ f ≤ 24) (hi : 0 ≤ i ∧ i ≤ 3) : dby y = 146097 * a + 36524 * c + 1461 * f + 365 * i := by
  unfold dby
  have e1 : (y - 1) / 4 = 100 * a + 25 * c + f := by omega
  have e2 : (y - 1) / 100 = 4 * a + c := by omega
  have e3 : (y - 1) / 400 = a := by omega
  rw [e1, e2, e3]
  omega
theorem leap_at {y a c f i : Int} (hy : y = 400 * a + 100 * c + 4 * f + i + 1) (hc : 0 ≤ c ∧ c ≤ 3) (hf : 0 ≤ f ∧ f ≤ 24) (hi : 0 ≤ i ∧ i ≤ 3) : leapP y ↔ (i = 3 ∧ (f ≠ 24 ∨ c = 3)) := by
  have e1 : y % 4 = (i + 1) % 4 := by omega
  have e2 : y % 100 = (4 * f + i + 1) % 100 := by omega
  have e3 : y % 400 = (100 * c + 4 * f + i + 1) % 400 := by omega
  unfold leapP
  rw [e1, e2, e3]
  clear e1 e2 e3
  omega
/-- the two odd ends -/
theorem o_last {n : Int} (h : (n - 1) % 146097 % 36524 % 1461 / 365 = 4 ∨ (n - 1) % 146097 / 36524 = 4) : oR n = 0 ∧ dby (oY n - 1) + 366 = n ∧ leapP (oY n - 1) := by
  unfold oY oR
  obtain ⟨a, b, c, d, f, g, i, j, ha, hb, hc, hd, hf, hg, hi, hj, h0, h1, h2, h3⟩ := oparts n
  rw [hb, hd, hg, hi, hc] at h
  rw [hb, hd, hg, hj, ha, hc, hf, hi]
  clear ha hb hc hd hf hg hi hj
  rcases h with rfl | rfl
  · have hj : j = 0 := by omega
    have hc : c ≤ 3 := by omega
    have hf : f ≤ 23 := by omega
    refine ⟨hj, ?_, ?_⟩
    · rw [dby_at (a := a) (c := c) (f := f) (i := 3) (by omega) (by omega) (by omega) (by omega)]
      omega
    · rw [leap_at (a := a) (c := c) (f := f) (i := 3) (by omega) (by omega) (by omega) (by omega)]
      omega
  · have hj : j = 0 := by omega
    have hf : f = 0 := by omega
    have hi : i = 0 := by omega
    refine ⟨hj, ?_, ?_⟩
    · rw [dby_at (a := a) (c := 3) (f := 24) (i := 3) (by omega) (by omega) (by omega) (by omega)]
      omega
    · rw [leap_at (a := a) (c := 3) (f := 24) (i := 3) (by omega) (by omega) (by omega) (by omega)]
      omega
theorem o_year {n : Int} (h : ¬ ((n - 1) % 146097 % 36524 % 1461 / 365 = 4 ∨ (n - 1) % 146097 / 36524 = 4)) :
    dby (oY n) + oR n + 1 = n ∧ 0 ≤ oR n ∧ oR n < 365 ∧
    (((n - 1) % 146097 % 36524 % 1461 / 365 = 3 ∧ ((n - 1) % 146097 % 36524 / 1461 ≠ 24 ∨ (n - 1) % 146097 / 36524 = 3)) ↔ leapP (oY n)) := by
  unfold oY oR
  obtain ⟨a, b, c, d, f, g, i, j, ha, hb, hc, hd, hf, hg, hi, hj, h0, h1, h2, h3⟩ := oparts n
  rw [hb, hd, hg, hi, hc] at h
  rw [hb, hd, hg, hj, ha, hc, hf, hi]
  clear ha hb hc hd hf hg hi hj
  have hi4 : i ≤ 3 := by omega
  have hc4 : c ≤ 3 := by omega
  rw [dby_at (a := a) (c := c) (f := f) (i := i) (by omega) (by omega) (by omega) (by omega), leap_at (a := a) (c := c) (f := f) (i := i) (by omega) (by omega) (by omega) (by omega)]
  exact ⟨by omega, by omega, by omega, Iff.rfl⟩

theorem valid_mk {y m a : Int} (h1 : 1 ≤ m) (h2 : m ≤ 12) (h3 : dbm y m < a) (h4 : a ≤ dbm y m + dim y m) : Valid y m (a - dbm y m) ∧ dbm y m + (a - dbm y m) = a := by
  generalize dbm y m = t at *
  unfold Valid
  generalize dim y m = u at *
  omega
theorem month_exists {y a : Int} (h1 : 1 ≤ a) (h2 : a ≤ 365 + lpI y) : ∃ m d, Valid y m d ∧ dbm y m + d = a := by
  have r := lpI_range y
  by_cases q1 : a ≤ 31
  · exact ⟨1, _, valid_mk (by decide) (by decide) (by rw [dbm1]; omega) (by rw [dbm1, dim1]; omega)⟩
  by_cases q2 : a ≤ 59 + lpI y
  · exact ⟨2, _, valid_mk (by decide) (by decide) (by rw [dbm2]; omega) (by rw [dbm2, dim2]; omega)⟩
  by_cases q3 : a ≤ 90 + lpI y
  · exact ⟨3, _, valid_mk (by decide) (by decide) (by rw [dbm3]; omega) (by rw [dbm3, dim3]; omega)⟩
  by_cases q4 : a ≤ 120 + lpI y
  · exact ⟨4, _, valid_mk (by decide) (by decide) (by rw [dbm4]; omega) (by rw [dbm4, dim4]; omega)⟩
  by_cases q5 : a ≤ 151 + lpI y
  · exact ⟨5, _, valid_mk (by decide) (by decide) (by rw [dbm5]; omega) (by rw [dbm5, dim5]; omega)⟩
  by_cases q6 : a ≤ 181 + lpI y
  · exact ⟨6, _, valid_mk (by decide) (by decide) (by rw [dbm6]; omega) (by rw [dbm6, dim6]; omega)⟩
  by_cases q7 : a ≤ 212 + lpI y
  · exact ⟨7, _, valid_mk (by decide) (by decide) (by rw [dbm7]; omega) (by rw [dbm7, dim7]; omega)⟩
  by_cases q8 : a ≤ 243 + lpI y
  · exact ⟨8, _, valid_mk (by decide) (by decide) (by rw [dbm8]; omega) (by rw [dbm8, dim8]; omega)⟩
  by_cases q9 : a ≤ 273 + lpI y
  · exact ⟨9, _, valid_mk (by decide) (by decide) (by rw [dbm9]; omega) (by rw [dbm9, dim9]; omega)⟩
  by_cases q10 : a ≤ 304 + lpI y
  · exact ⟨10, _, valid_mk (by decide) (by decide) (by rw [dbm10]; omega) (by rw [dbm10, dim10]; omega)⟩
  by_cases q11 : a ≤ 334 + lpI y
  · exact ⟨11, _, valid_mk (by decide) (by decide) (by rw [dbm11]; omega) (by rw [dbm11, dim11]; omega)⟩
  exact ⟨12, _, valid_mk (by decide) (by decide) (by rw [dbm12]; omega) (by rw [dbm12, dim12]; omega)⟩
theorem year_exists (n : Int) : ∃ y a, 1 ≤ a ∧ a ≤ 365 + lpI y ∧ dby y + a = n := by
  by_cases ho : ((n - 1) % 146097 % 36524 % 1461 / 365 = 4 ∨ (n - 1) % 146097 / 36524 = 4)
  · obtain ⟨_, o2, o3⟩ := o_last ho
    have hl : lpI (oY n - 1) = 1 := if_pos o3
    exact ⟨oY n - 1, 366, by decide, by rw [hl]; decide, o2⟩
  · obtain ⟨o1, o2, o3, _⟩ := o_year ho
    have r := lpI_range (oY n)
    exact ⟨oY n, oR n + 1, by omega, by omega, by omega⟩
theorem date_exists (n : Int) : ∃ y m d, Valid y m d ∧ ordn y m d = n := by
  obtain ⟨y, a, h1, h2, h3⟩ := year_exists n
  obtain ⟨m, d, hv, e⟩ := month_exists h1 h2
  exact ⟨y, m, d, hv, by unfold ordn; rw [Int.add_assoc, e, h3]⟩
/-- the Monday of the year's first week -/
def w1 (y : Int) : Int := dby y + 1 - (dby y + 1 + 6) % 7 + if 3 < (dby y + 1 + 6) % 7 then 7 else 0
theorem w1_spec (y : Int) : w1 y % 7 = 1 ∧ dby y + 1 ≤ w1 y + 3 ∧ w1 y + 3 ≤ dby y + 7 := by
  unfold w1
  generalize dby y = t
  split <;> omega
/-- week dates -/
def WeekOk (y w : Int) : Prop := (1 ≤ w ∧ w ≤ 52) ∨ (w = 53 ∧ ((dby y + 1) % 7 = 4 ∨ ((dby y + 1) % 7 = 3 ∧ leapP y)))
/-- a year's weeks end ahead of the next year's -/
theorem weekOk_iff {y w : Int} (h1 : 1 ≤ w) : WeekOk y w ↔ w1 y + 7 * w ≤ w1 (y + 1) := by
  obtain ⟨e1, e2, e3⟩ := w1_spec y
  obtain ⟨f1, f2, f3⟩ := w1_spec (y + 1)
  have hs := dby_succ y
  unfold WeekOk
  rcases lpI_cases y with ⟨hl, l⟩ | ⟨hl, l⟩
  · rw [l] at hs
    rw [show leapP y = True from eq_true hl]
    simp only [and_true]
    generalize dby y = t at *
    generalize dby (y + 1) = t' at *
    generalize w1 y = u at *
    generalize w1 (y + 1) = u' at *
    omega
  · rw [l] at hs
    rw [show leapP y = False from eq_false hl]
    simp only [and_false, or_false]
    generalize dby y = t at *
    generalize dby (y + 1) = t' at *
    generalize w1 y = u at *
    generalize w1 (y + 1) = u' at *
    omega

def lastsL (y : Int) : List D := [.int 31, .int (dim y 2), .int 31, .int 30, .int 31, .int 30, .int 31, .int 31, .int 30, .int 31, .int 30, .int 31]
theorem lasts_at {y m : Int} (h1 : 1 ≤ m) (h2 : m ≤ 12) : (lastsL y)[(m - 1).toNat]? = some (.int (dim y m)) := by
  rcases m12 h1 h2 with rfl | rfl | rfl | rfl | rfl | rfl | rfl | rfl | rfl | rfl | rfl | rfl
  · rw [dim1]; rfl
  · rfl
  · rw [dim3]; rfl
  · rw [dim4]; rfl
  · rw [dim5]; rfl
  · rw [dim6]; rfl
  · rw [dim7]; rfl
  · rw [dim8]; rfl
  · rw [dim9]; rfl
  · rw [dim10]; rfl
  · rw [dim11]; rfl
  · rw [dim12]; rfl
def cum (y : Int) (i : Nat) : Int := if i < 12 then dbm y (i + 1) else 365 + lpI y
theorem last_eq (y : Int) : (y + y / 4 - y / 100 + y / 400) % 7 = dby (y + 1) % 7 := by
  unfold dby
  rw [show y + 1 - 1 = y by omega]
  omega
theorem dby_lp11 (y : Int) : dby y + lpI y = 365 * (y - 1) + y / 4 - y / 100 + y / 100 / 4 := by
  rcases lpI_cases y with ⟨q, e⟩ | ⟨q, e⟩ <;> rw [e] <;> unfold leapP at q <;> unfold dby <;> omega
def zel (y m d : Int) : Int := (d + 13 * (m + 1) / 5 + y % 100 + y % 100 / 4 + y / 100 / 4 - 2 * (y / 100) + 5) % 7 + 1
theorem zel_hi {y m d : Int} (h1 : 3 ≤ m) (h2 : m ≤ 12) : zel y m d = (ordn y m d - 1) % 7 + 1 := by
  have h := dby_lp11 y
  have q : y / 4 = 25 * (y / 100) + y % 100 / 4 := by omega
  unfold zel ordn
  rcases m12 (by omega) h2 with rfl | rfl | rfl | rfl | rfl | rfl | rfl | rfl | rfl | rfl | rfl | rfl
  · omega
  · omega
  · rw [dbm3]; omega
  · rw [dbm4]; omega
  · rw [dbm5]; omega
  · rw [dbm6]; omega
  · rw [dbm7]; omega
  · rw [dbm8]; omega
  · rw [dbm9]; omega
  · rw [dbm10]; omega
  · rw [dbm11]; omega
  · rw [dbm12]; omega
theorem zel_lo {y m d : Int} (h1 : 1 ≤ m) (h2 : m < 3) : zel (y - 1) (m + 12) d = (ordn y m d - 1) % 7 + 1 := by
  have h : dby y = 365 * (y - 1) + (y - 1) / 4 - (y - 1) / 100 + (y - 1) / 100 / 4 := by unfold dby; omega
  have q : (y - 1) / 4 = 25 * ((y - 1) / 100) + (y - 1) % 100 / 4 := by omega
  unfold zel ordn
  rcases (show m = 1 ∨ m = 2 by omega) with rfl | rfl
  · rw [dbm1]; omega
  · rw [dbm2]; omega
theorem ok53 (y : Int) : WeekOk y 53 ↔ (dby (y + 1) % 7 = 4 ∨ dby y % 7 = 3) := by
  have a := w1_spec y
  have b := w1_spec (y + 1)
  have l := lpI_range y
  rw [dby_succ] at b ⊢
  rw [weekOk_iff (by decide)]
  omega
/-- days in order -/
theorem lex_ord {y m d y' m' d' : Int} (h : Valid y m d) (h' : Valid y' m' d') : lex3 y m d y' m' d' = decide (ordn y m d < ordn y' m' d') := by
  unfold lex3
  rw [decide_eq_decide]
  have r := valid_range h
  have r' := valid_range h'
  obtain ⟨a1, a2, a3, a4⟩ := h
  obtain ⟨b1, b2, b3, b4⟩ := h'
  unfold ordn
  rcases Int.lt_trichotomy y y' with q | q | q
  · have := dby_lt q
    omega
  · subst q
    rcases Int.lt_trichotomy m m' with q | q | q
    · have := dbm_lt (y := y) a1 q b2
      omega
    · subst q
      omega
    · have := dbm_lt (y := y) b1 q a2
      omega
  · have := dby_lt q
    omega
/-- the line of a place -/
def ordP (p : Int) : Int := min (w1 (p / 371 + 1) + p % 371) (w1 (p / 371 + 1 + 1) - 1)
theorem w1_mono {y z : Int} (h : y ≤ z) : w1 y ≤ w1 z := by
  have a := w1_spec y
  have b := w1_spec z
  rcases Int.lt_or_eq_of_le h with q | rfl
  · have := dby_lt q
    have := lpI_range y
    omega
  · exact Int.le_refl _
theorem ordP_lt {p Y T : Int} (h1 : w1 Y ≤ T) (h2 : T < w1 (Y + 1)) : ordP p < T ↔ p < (Y - 1) * 371 + (T - w1 Y) := by
  have a := w1_spec Y
  have b := w1_spec (Y + 1)
  have l := lpI_range Y
  have ds := dby_succ Y
  have hr : T - w1 Y < 371 := by omega
  unfold ordP
  rcases Int.lt_trichotomy (p / 371 + 1) Y with q | q | q
  · have := w1_mono (y := p / 371 + 1 + 1) (z := Y) (by omega)
    omega
  · rw [q]
    omega
  · have := w1_mono (y := Y + 1) (z := p / 371 + 1) (by omega)
    have w2 := w1_spec (p / 371 + 1)
    have w3 := w1_spec (p / 371 + 1 + 1)
    have d2 := dby_succ (p / 371 + 1)
    have l2 := lpI_range (p / 371 + 1)
    omega
def lastsN (y : Int) : List Int := [31, dim y 2, 31, 30, 31, 30, 31, 31, 30, 31, 30, 31]
theorem lasts_map (y : Int) : lastsL y = (lastsN y).map D.int := rfl
theorem sum_lasts {y m : Int} (h1 : 1 ≤ m) (h2 : m ≤ 12) : ((lastsN y).take (m - 1).toNat).sum = dbm y m := by
  unfold lastsN
  rw [dim2]
  rcases m12 h1 h2 with rfl | rfl | rfl | rfl | rfl | rfl | rfl | rfl | rfl | rfl | rfl | rfl
  · rw [dbm1]; rfl
  · rw [dbm2]; rfl
  · rw [dbm3]; simp; omega
  · rw [dbm4]; simp; omega
  · rw [dbm5]; simp; omega
  · rw [dbm6]; simp; omega
  · rw [dbm7]; simp; omega
  · rw [dbm8]; simp; omega
  · rw [dbm9]; simp; omega
  · rw [dbm10]; simp; omega
  · rw [dbm11]; simp; omega
  · rw [dbm12]; simp; omega
theorem week_unique {Y Z T : Int} (h1 : w1 Y ≤ T) (h2 : T < w1 (Y + 1)) (g1 : w1 Z ≤ T) (g2 : T < w1 (Z + 1)) : Y = Z := by
  rcases Int.lt_trichotomy Y Z with q | q | q
  · have := w1_mono (y := Y + 1) (z := Z) (by omega)
    omega
  · exact q
  · have := w1_mono (y := Z + 1) (z := Y) (by omega)
    omega
theorem w1_next (y : Int) : ((dby (y + 1) % 7 = 4 ∨ dby y % 7 = 3) ∧ w1 (y + 1) = w1 y + 371) ∨ (¬ (dby (y + 1) % 7 = 4 ∨ dby y % 7 = 3) ∧ w1 (y + 1) = w1 y + 364) := by
  have a := w1_spec y
  have b := w1_spec (y + 1)
  have l := lpI_range y
  have s := dby_succ y
  have k := ok53 y
  rw [weekOk_iff (by decide)] at k
  by_cases q : dby (y + 1) % 7 = 4 ∨ dby y % 7 = 3
  · have := k.mpr q
    exact .inl ⟨q, by omega⟩
  · have := fun z => q (k.mp z)
    refine .inr ⟨q, ?_⟩
    have : ¬ (w1 y + 7 * 53 ≤ w1 (y + 1)) := this
    omega

structure E0 where
  w : World
  mean : ExcName → Option Value
  mg : Str → Option Value
  mb : Str → Option Value
  base : Heap
  os : OsState
noncomputable def gl (e : E0) : Gl := ⟨PySem.Challenge.rw_dm0257_11.row.prog, e.w, Mine.hd11.heap_39 e.w.params, Mine.hd11.view_39, looseW hd11.view_39
      [Str.ofString "_DAYS_IN_MONTH", Str.ofString "_DAYS_BEFORE_MONTH", Str.ofString "_DI400Y", Str.ofString "_DI100Y",
        Str.ofString "_DI4Y"], e.mean, e.mg, e.mb, e.base, e.os⟩
local macro_rules | `(tactic| kqd_in) => `(tactic| first
  | with_reducible refine seqK_next ?_
  | with_reducible refine seqK_ret ?_
  | with_reducible refine seqK_cont ?_
  | with_reducible refine seqK_brk ?_
  | with_reducible refine retK_ret ?_
  | with_reducible refine tryK_next ?_
  | with_reducible refine tryK_ret ?_
  | with_reducible refine tryK_brk ?_
  | with_reducible refine tryK_cont ?_
  | with_reducible refine loopK_next ?_
  | with_reducible refine loopK_cont ?_
  | with_reducible refine loopK_brk ?_
  | with_reducible refine loopK_ret ?_
  | with_reducible refine splT ?_
  | with_reducible refine splF ?_
  | with_reducible refine splN ?_
  | with_reducible refine tt_and ?_
  | ((with_reducible refine ff_and ?_); omega)
  | ((with_reducible refine dec_and ?hp ?_); (case hp => omega))
  | ((with_reducible refine' store_o ?hi ?he ?k); (case hi => exact rfl); (case he => first | (dsimp only [List.set]; done) | (dsimp only [List.set]; exact rfl)))
  | ((with_reducible refine' store_n ?hi ?he ?k); (case hi => exact rfl); (case he => first | (dsimp only [List.cons_append, List.nil_append]; done) | (dsimp only [List.cons_append, List.nil_append]; exact rfl)))
  | with_reducible refine storeAll_cons ?_
  | with_reducible refine storeAll_nil ?_
  | with_reducible refine as_cons ?_
  | with_reducible refine as_nil ?_
  | with_reducible refine as_return ?_
  | ((with_reducible refine as_assign ?k ?hl ?hs); (case hl => exact rfl); (case hs => exact rfl))
  | ((with_reducible refine' as_aug ?he ?k ?hl); (case hl => exact rfl); (case he => exact rfl))
  | ((with_reducible refine as_unpack2 ?k1 ?k2 ?k ?hs ?hw); (case k1 => exact rfl); (case k2 => exact rfl); (case hs => exact rfl); (case hw => exact rfl))
  | ((with_reducible refine as_unpack3 ?k1 ?k2 ?k3 ?k ?hs ?hw); (case k1 => exact rfl); (case k2 => exact rfl); (case k3 => exact rfl); (case hs => exact rfl); (case hw => exact rfl))
  | ((with_reducible refine unp_tup ?hn ?k); (case hn => exact rfl))
  | ((with_reducible refine ev_divmod ?h1 ?h2 ?k); (case h1 => decide); (case h2 => decide))
  | ((with_reducible refine ev_shr ?h1 ?k); (case h1 => decide))
  | ((with_reducible refine as_for ?k ?hs); (case hs => (intro _; rfl)))
  | with_reducible refine as_if ?_
  | with_reducible refine as_assert ?_
  | with_reducible refine as_break ?_
  | with_reducible refine as_continue ?_
  | with_reducible refine as_pass ?_
  | with_reducible refine al_nil ?_
  | ((with_reducible refine al_cons ?k ?he); (case he => exact rfl))
  | ((with_reducible refine' ae_name ?he ?k ?hl ?hd); (case hl => exact rfl); (case he => exact rfl); (case hd => exact rfl))
  | with_reducible refine ae_int ?_
  | with_reducible refine ae_str ?_
  | with_reducible refine ae_bool ?_
  | with_reducible refine ae_none ?_
  | with_reducible refine ae_binop ?_
  | with_reducible refine ae_unary ?_
  | ((with_reducible refine ae_cmp ?k ?hm); (case hm => with_unfolding_all rfl))
  | ((with_reducible refine ae_chain2 ?k ?hm); (case hm => with_unfolding_all rfl))
  | with_reducible refine ae_bool1 ?_
  | with_reducible refine ae_and ?_
  | with_reducible refine ae_or ?_
  | with_reducible refine ae_ifexp ?_
  | with_reducible refine ae_slice ?_
  | with_reducible refine ap_none ?_
  | with_reducible refine ap_some ?_
  | with_reducible refine ae_sub ?_
  | with_reducible refine ae_list ?_
  | with_reducible refine ae_tuple ?_
  | ((with_reducible refine ab_cmp ?k ?hm); (case hm => with_unfolding_all rfl))
  | ((with_reducible refine ab_chain2 ?k ?hm); (case hm => with_unfolding_all rfl))
  | with_reducible refine ab_not ?_
  | with_reducible refine ab_and_nil ?_
  | with_reducible refine ab_or_nil ?_
  | with_reducible refine ab_and ?_
  | with_reducible refine ab_or ?_
  | with_reducible refine ev_add ?_
  | with_reducible refine ev_sub ?_
  | ((with_reducible refine ev_mul ?k ?hm); (case hm => first | exact mulL (by decide) (by decide) | exact mulR (by decide) (by decide)))
  | ((with_reducible refine ev_mod ?h1 ?k); (case h1 => decide))
  | ((with_reducible refine ev_div ?h1 ?h2 ?k); (case h1 => decide); (case h2 => decide))
  | with_reducible refine ev_iadd ?_
  | with_reducible refine ev_isub ?_
  | with_reducible refine ev_addB ?_
  | with_reducible refine ev_iaddB ?_
  | with_reducible refine ev_neg ?_
  | with_reducible refine ev_not ?_
  | with_reducible refine ev_lt ?_
  | with_reducible refine ev_le ?_
  | with_reducible refine ev_gt ?_
  | with_reducible refine ev_ge ?_
  | with_reducible refine ev_eq ?_
  | with_reducible refine ev_ne ?_
  | with_reducible refine ev_eqS ?_
  | with_reducible refine ev_neS ?_
  | with_reducible refine ev_eqB ?_
  | ((with_reducible refine' ev_item_tup ?h0 ?hx ?k ?hf ?hs); (case h0 => decide); (case hx => exact rfl); (case hf => decide); (case hs => (intro _ _; rfl)))
  | ((with_reducible refine ev_newTuple ?k ?hz); (case hz => exact Nat.le_of_ble_eq_true rfl))
  | ((with_reducible refine ev_newL ?k ?hz); (case hz => exact Nat.le_of_ble_eq_true rfl))
  | ((with_reducible refine' ae_callK ?hx ?hk ?k ?h3 ?h4 ?h5 ?h6 ?h7); (case hx => exact rfl); (case hk => exact rfl); (case h3 => exact rfl); (case h4 => exact rfl); (case h5 => exact rfl); (case h6 => exact rfl); (case h7 => exact rfl))
  | ((with_reducible refine' ae_callB ?hx ?hk ?k ?h2 ?h3 ?h4 ?h5 ?h6 ?h7); (case hx => exact rfl); (case hk => boot_by_name); (case h2 => decide); (case h3 => exact rfl); (case h4 => exact rfl); (case h5 => exact rfl); (case h6 => exact rfl); (case h7 => exact rfl))
  | ((with_reducible refine' ae_callT ?hx ?hk ?k ?h2 ?h3 ?h4 ?h5 ?h6 ?h7); (case hx => exact rfl); (case hk => boot_by_name); (case h2 => decide); (case h3 => exact rfl); (case h4 => exact rfl); (case h5 => exact rfl); (case h6 => exact rfl); (case h7 => exact rfl))
  | ((with_reducible refine' ae_gint ?he ?k ?h1 ?h2); (case h1 => exact rfl); (case he => exact rfl); (case h2 => exact rfl))
  | ((with_reducible refine' ae_gro ?he ?he2 ?hi ?k ?h1 ?h2); (case h1 => exact rfl); (case he => exact rfl); (case he2 => exact rfl); (case hi => (repeat (first | exact IntsAre.nil | apply IntsAre.cons))); (case h2 => exact rfl))
  | ((with_reducible refine' ae_builtin ?he ?hv ?k ?h0 ?h1 ?h2); (case h1 => exact rfl); (case he => exact rfl); (case hv => boot_by_name); (case h0 => decide); (case h2 => exact rfl))
  | ((with_reducible refine' ae_cname ?hc ?k ?h0 ?h1 ?h2); (case hc => exact rfl); (case h0 => exact rfl); (case h1 => exact rfl); (case h2 => exact rfl))
  | ((with_reducible refine' ae_ccallK ?hx ?hk ?k ?h2 ?h3 ?h4 ?h5 ?h6 ?h7); (case hx => exact rfl); (case hk => exact rfl); (case h2 => exact rfl); (case h3 => exact rfl); (case h4 => exact rfl); (case h5 => exact rfl); (case h6 => exact rfl); (case h7 => exact rfl))
  | ((with_reducible refine' ae_ccallB ?hx ?hk ?k ?h1 ?h2 ?h3 ?h4 ?h5 ?h6 ?h7); (case h3 => exact rfl); (case hx => exact rfl); (case hk => boot_by_name); (case h1 => decide); (case h2 => exact rfl); (case h4 => exact rfl); (case h5 => exact rfl); (case h6 => exact rfl); (case h7 => exact rfl))
  | ((with_reducible refine' ae_ccallT ?hx ?hk ?k ?h1 ?h2 ?h3 ?h4 ?h5 ?h6 ?h7); (case h3 => exact rfl); (case hx => exact rfl); (case hk => boot_by_name); (case h1 => decide); (case h2 => exact rfl); (case h4 => exact rfl); (case h5 => exact rfl); (case h6 => exact rfl); (case h7 => exact rfl))
  | ((with_reducible refine' ae_ctype ?he ?hv ?k ?h0 ?h1 ?h2 ?h3); (case h2 => exact rfl); (case he => exact rfl); (case hv => boot_by_name); (case h0 => decide); (case h1 => exact rfl); (case h3 => exact rfl))
  | with_reducible refine ev_isi_int_bool ?_
  | with_reducible refine ev_type_int ?_
  | with_reducible refine ev_range1 ?_
  | with_reducible refine ev_isnotT ?_
  | with_reducible refine ev_isnotN ?_
  | ((with_reducible refine ev_min2 ?hh ?k); (case hh => assumption))
  | with_reducible refine ev_isi_int_int ?_
  | with_reducible refine ev_isi_tup ?_
  | ((with_reducible refine ev_len_tup ?k ?hz); (case hz => exact Nat.le_of_ble_eq_true rfl))
  | with_reducible refine at_bool ?_
  | with_reducible refine at_int ?_
  | with_reducible refine at_none ?_
  | ((with_reducible refine ab_plain ?k ?he); (case he => exact rfl))
  | ((with_reducible refine spl ?_ ?_) <;> intro hq))
section
variable {e : E0} {c : Ac} {st : St} {X : XPost} {P : D → St → Prop}
theorem c_is_leap (y : Int) (hroom : 1 ≤ c.room) (h : P (.bool (decide (leapP y))) st) : EVN (gl e) c (callV (.ref 28)) [.int y] st P X := by
  refine ev_def (r := 0) (xs := [Str.ofString "year"]) rfl rfl (by intro vs h; match vs, h with | [a], _ => rfl) rfl (by decide) (by decide) (by omega) rfl rfl rfl (by decide) ?_
  intro A₀ outer g₀ L hh
  dsimp only [List.zip, List.zipWith]
  repeat' kqd_in
  all_goals exact fin_eq h (dbool (by omega))
theorem c_dby (y : Int) (hroom : 1 ≤ c.room) (h : P (.int (dby y)) st) : EVN (gl e) c (callV (.ref 35)) [.int y] st P X := by
  refine ev_def (r := 0) (xs := [Str.ofString "year"]) rfl rfl (by intro vs h; match vs, h with | [a], _ => rfl) rfl (by decide) (by decide) (by omega) rfl rfl rfl (by decide) ?_
  intro A₀ outer g₀ L hh
  dsimp only [List.zip, List.zipWith]
  repeat' kqd_in
  exact h
theorem c_dim (y m : Int) (h1 : 1 ≤ m) (h2 : m ≤ 12) (hroom : 2 ≤ c.room) (h : P (.int (dim y m)) st) : EVN (gl e) c (callV (.ref 42)) [.int y, .int m] st P X := by
  refine ev_def (r := 1) (xs := [Str.ofString "year", Str.ofString "month"]) rfl rfl (by intro vs h; match vs, h with | [a, b], _ => rfl) rfl (by decide) (by decide) (by omega) rfl rfl rfl (by decide) ?_
  intro A₀ outer g₀ L hh
  dsimp only [List.zip, List.zipWith]
  repeat' kqd_in
  · refine c_is_leap y (Nat.le_of_ble_eq_true rfl) ?_
    repeat' kqd_in
    · exact fin_eq h (dint (by unfold dim; rw [if_pos ⟨by assumption, by assumption⟩]))
    · refine ev_item_ro (n := dimT.getD m.toNat 0) (by omega) (getD_at (by show m.toNat < 13; omega)) ?_
      repeat' kqd_in
      exact fin_eq h (dint (by unfold dim; rw [if_neg (fun q => by have := q.2; contradiction)]))
  · refine ev_item_ro (n := dimT.getD m.toNat 0) (by omega) (getD_at (by show m.toNat < 13; omega)) ?_
    repeat' kqd_in
    exact fin_eq h (dint (by unfold dim; rw [if_neg (fun q => by have := q.1; contradiction)]))
theorem c_dbm1 (y : Int) (hroom : 1 ≤ c.room) (h : P (.int 0) st) : EVN (gl e) c (callV (.ref 49)) [.int y, .int 1] st P X := by
  refine ev_def (r := 0) (xs := [Str.ofString "year", Str.ofString "month"]) rfl rfl (by intro vs h; match vs, h with | [a, b], _ => rfl) rfl (by decide) (by decide) (by omega) rfl rfl rfl (by decide) ?_
  intro A₀ outer g₀ L hh
  dsimp only [List.zip, List.zipWith]
  repeat' kqd_in
  refine ev_item_ro (n := 0) (by decide) rfl ?_
  repeat' kqd_in
  · exfalso; omega
  · exact fin_eq h (dint (by decide))
theorem c_ymd1 (y : Int) (hroom : 3 ≤ c.room) (h : P (.int (dby y + 1)) st) : EVN (gl e) c (callV (.ref 56)) [.int y, .int 1, .int 1] st P X := by
  refine ev_def (r := 2) (xs := [Str.ofString "year", Str.ofString "month", Str.ofString "day"]) rfl rfl (by intro vs h; match vs, h with | [a, b, c], _ => rfl) rfl (by decide) (by decide) (by omega) rfl rfl rfl (by decide) ?_
  intro A₀ outer g₀ L hh
  dsimp only [List.zip, List.zipWith]
  repeat' kqd_in
  refine c_dim y 1 (by decide) (by decide) (Nat.le_of_ble_eq_true rfl) ?_
  rw [dim1]
  repeat' kqd_in
  refine c_dby y (Nat.le_of_ble_eq_true rfl) ?_
  repeat' kqd_in
  refine c_dbm1 y (Nat.le_of_ble_eq_true rfl) ?_
  repeat' kqd_in
  exact fin_eq h (dint (by omega))
theorem c_w1 (y : Int) (hroom : 4 ≤ c.room) (h : P (.int (w1 y)) st) : EVN (gl e) c (callV (.ref 80)) [.int y] st P X := by
  refine ev_def (r := 3) (xs := [Str.ofString "year"]) rfl rfl (by intro vs h; match vs, h with | [a], _ => rfl) rfl (by decide) (by decide) (by omega) rfl rfl rfl (by decide) ?_
  intro A₀ outer g₀ L hh
  dsimp only [List.zip, List.zipWith]
  repeat' kqd_in
  refine c_ymd1 y (Nat.le_of_ble_eq_true rfl) ?_
  repeat' kqd_in
  · exact fin_eq h (dint (by unfold w1; rw [if_pos (by assumption)]))
  · exact fin_eq h (dint (by unfold w1; rw [if_neg (by assumption)]; omega))
theorem month_guess {y m d : Int} (h : Valid y m d) : (dbm y m + d - 1 + 50) / 2 ^ (5 : Int).toNat = m ∨ ((dbm y m + d - 1 + 50) / 2 ^ (5 : Int).toNat = m + 1 ∧ m < 12) := by
  obtain ⟨h1, h2, h3, h4⟩ := h
  have r := lpI_range y
  show (dbm y m + d - 1 + 50) / 32 = m ∨ ((dbm y m + d - 1 + 50) / 32 = m + 1 ∧ m < 12)
  rcases m12 h1 h2 with rfl | rfl | rfl | rfl | rfl | rfl | rfl | rfl | rfl | rfl | rfl | rfl
  · rw [dbm1]; rw [dim1] at h4; omega
  · rw [dbm2]; rw [dim2] at h4; omega
  · rw [dbm3]; rw [dim3] at h4; omega
  · rw [dbm4]; rw [dim4] at h4; omega
  · rw [dbm5]; rw [dim5] at h4; omega
  · rw [dbm6]; rw [dim6] at h4; omega
  · rw [dbm7]; rw [dim7] at h4; omega
  · rw [dbm8]; rw [dim8] at h4; omega
  · rw [dbm9]; rw [dim9] at h4; omega
  · rw [dbm10]; rw [dim10] at h4; omega
  · rw [dbm11]; rw [dim11] at h4; omega
  · rw [dbm12]; rw [dim12] at h4; omega
theorem c_o2y (y m d n : Int) (hv : Valid y m d) (hn : ordn y m d = n) (hroom : 3 ≤ c.room) (h : P (.tup [.int y, .int m, .int d]) st) : EVN (gl e) c (callV (.ref 66)) [.int n] st P X := by
  by_cases ho : ((n - 1) % 146097 % 36524 % 1461 / 365 = 4 ∨ (n - 1) % 146097 / 36524 = 4)
  · obtain ⟨o1, o2, o3⟩ := o_last ho
    have hl : lpI (oY n - 1) = 1 := if_pos o3
    obtain ⟨rfl, rfl, rfl⟩ := valid_unique hv (show Valid (oY n - 1) 12 31 from ⟨by decide, by decide, by decide, by rw [dim12]; decide⟩) (hn.trans (by unfold ordn; rw [dbm12, hl]; omega))
    refine ev_def (r := 2) (xs := [Str.ofString "n"]) rfl rfl (by intro vs h; match vs, h with | [a], _ => rfl) rfl (by decide) (by decide) (by omega) rfl rfl rfl (by decide) ?_
    intro A₀ outer g₀ L hA
    dsimp only [List.zip, List.zipWith]
    repeat' kqd_in
    · exact h
    · exact h
    all_goals (exfalso; rcases ho with ho | ho <;> contradiction)
  · obtain ⟨o1, o2, o3, o4⟩ := o_year ho
    have r := valid_range hv
    have l := lpI_range (oY n)
    obtain ⟨rfl, hr⟩ := year_unique (y := y) (y' := oY n) (a := dbm y m + d) (a' := oR n + 1) r.1 r.2 (by omega) (by omega) (by unfold ordn at hn; omega)
    refine ev_def (r := 2) (xs := [Str.ofString "n"]) rfl rfl (by intro vs h; match vs, h with | [a], _ => rfl) rfl (by decide) (by decide) (by omega) rfl rfl rfl (by decide) ?_
    intro A₀ outer g₀ L hA
    dsimp only [List.zip, List.zipWith]
    refine as_cutE 8 ⟨[(Str.ofString "n", D.int (oR n)), (Str.ofString "n400", D.int ((n - 1) / 146097)), (Str.ofString "year", D.int (oY n)), (Str.ofString "n100", D.int ((n - 1) % 146097 / 36524)), (Str.ofString "n4", D.int ((n - 1) % 146097 % 36524 / 1461)), (Str.ofString "n1", D.int ((n - 1) % 146097 % 36524 % 1461 / 365))], st.ls, false⟩ ?_ ?_
    · dsimp only [List.take]
      repeat' kqd_in
      · exact absurd (.inl (by assumption)) ho
      · exact absurd (.inr (by assumption)) ho
      · exact ⟨rfl, rfl⟩
    · dsimp only [List.drop]
      generalize (n - 1) % 146097 % 36524 % 1461 / 365 = i at *
      generalize (n - 1) % 146097 % 36524 / 1461 = f at *
      generalize (n - 1) % 146097 / 36524 = cc at *
      generalize (n - 1) / 146097 = aa at *
      clear ho o1 l r hn
      generalize oR n = rr at *
      generalize oY n = y at *
      have hrr : rr = dbm y m + d - 1 := by omega
      clear hr o2 o3
      subst hrr
      kqd_in
      refine as_assignJ (.bool (decide (leapP y))) ?_ ?_ rfl rfl
      · repeat' kqd_in
        · exact ⟨dbool (by rw [← o4]; omega), rfl⟩
        · exact ⟨dbool (by rw [← o4]; omega), rfl⟩
        · exact ⟨dbool (by rw [← o4]; omega), rfl⟩
      clear o4
      repeat' kqd_in
      refine c_is_leap y (Nat.le_of_ble_eq_true rfl) ?_
      repeat' kqd_in
      refine ⟨by simp, ?_⟩
      obtain ⟨h1, h2, h3, h4⟩ := id hv
      rcases month_guess hv with hm | ⟨hm, hm12⟩
      · iterate 2 kqd_in
        refine as_assignJ (.int m) ?_ ?_ rfl rfl
        · repeat' kqd_in
          exact ⟨dint hm, rfl⟩
        iterate 3 kqd_in
        refine as_assignJ (.int (dbm y m)) ?_ ?_ rfl rfl
        · repeat' kqd_in
          refine ev_item_ro (n := dbmT.getD m.toNat 0) (by omega) (getD_at (by show m.toNat < 13; omega)) ?_
          repeat' kqd_in
          · exact ⟨dint (by unfold dbm; simp [*]), rfl⟩
          · exact ⟨dint (by unfold dbm; simp [*]), rfl⟩
        repeat' kqd_in
        · exfalso
          omega
        refine c_dim y m h1 h2 (Nat.le_of_ble_eq_true rfl) ?_
        repeat' kqd_in
        exact fin_eq h (by rw [show dbm y m + d - 1 - dbm y m + 1 = d by omega])
      · iterate 2 kqd_in
        refine as_assignJ (.int (m + 1)) ?_ ?_ rfl rfl
        · repeat' kqd_in
          exact ⟨dint hm, rfl⟩
        iterate 3 kqd_in
        have hnx := dbm_next (y := y) h1 hm12
        refine as_assignJ (.int (dbm y (m + 1))) ?_ ?_ rfl rfl
        · repeat' kqd_in
          refine ev_item_ro (n := dbmT.getD (m + 1).toNat 0) (by omega) (getD_at (by show (m + 1).toNat < 13; omega)) ?_
          repeat' kqd_in
          · exact ⟨dint (by unfold dbm; simp [*]), rfl⟩
          · exact ⟨dint (by unfold dbm; simp [*]), rfl⟩
        repeat' kqd_in
        · rw [show m + 1 - 1 = m by omega]
          obtain ⟨g, hg, key⟩ : ∃ g, [-1, 31, 28, 31, 30, 31, 30, 31, 31, 30, 31, 30, 31][m.toNat]? = some g ∧ dim y m = g + if m = 2 ∧ leapP y then 1 else 0 := by
            refine ⟨dimT.getD m.toNat 0, getD_at (by show m.toNat < 13; omega), ?_⟩
            by_cases q : m = 2
            · subst q
              rw [dim2]
              unfold lpI
              by_cases z : leapP y
              · rw [if_pos z, if_pos ⟨rfl, z⟩]; rfl
              · rw [if_neg z, if_neg (fun w => z w.2)]; rfl
            · unfold dim
              rw [if_neg (fun z => q z.1), if_neg (fun z => q z.1)]
              omega
          refine ev_item_ro (n := g) (by omega) hg ?_
          generalize dbm y (m + 1) = t1 at *
          generalize dbm y m = t0 at *
          by_cases q : m = 2
          · have e1 : t1 - (g + if decide (leapP y) = true then 1 else 0) = t0 := by
              rw [hnx, key]
              by_cases z : leapP y
              · rw [if_pos ⟨q, z⟩, if_pos (decide_eq_true z)]; omega
              · rw [if_neg (fun w => z w.2), if_neg (by rw [decide_eq_true_eq]; exact z)]; omega
            repeat' kqd_in
            · rw [e1]
              refine c_dim y m h1 h2 (Nat.le_of_ble_eq_true rfl) ?_
              repeat' kqd_in
              exact fin_eq h (by rw [show t0 + d - 1 - t0 + 1 = d by omega])
            · exact absurd q (by assumption)
          · have e1 : t1 - (g + if decide (m = 2) = true then 1 else 0) = t0 := by
              rw [hnx, key, if_neg (fun w => q w.1), if_neg (by rw [decide_eq_true_eq]; exact q)]; omega
            repeat' kqd_in
            · exact absurd (by assumption) q
            · rw [e1]
              refine c_dim y m h1 h2 (Nat.le_of_ble_eq_true rfl) ?_
              repeat' kqd_in
              exact fin_eq h (by rw [show t0 + d - 1 - t0 + 1 = d by omega])
        · exfalso
          omega
theorem c_iso (y w k y' m d : Int) (hy : 1 ≤ y ∧ y ≤ 9999) (hw : WeekOk y w) (hk : 1 ≤ k ∧ k ≤ 7) (hv : Valid y' m d) (hn : ordn y' m d = w1 y + ((w - 1) * 7 + (k - 1))) (hroom : 5 ≤ c.room) (h : P (.tup [.int y', .int m, .int d]) st) :
    EVN (gl e) c (callV (.ref 73)) [.int y, .int w, .int k] st P X := by
  refine ev_def (r := 4) (xs := [Str.ofString "year", Str.ofString "week", Str.ofString "day"]) rfl rfl (by intro vs h; match vs, h with | [a, b, c], _ => rfl) rfl (by decide) (by decide) (by omega) rfl rfl rfl (by decide) ?_
  intro A₀ outer g₀ L hA
  dsimp only [List.zip, List.zipWith]
  unfold WeekOk at hw
  repeat' kqd_in
  all_goals (try (exfalso; omega))
  · refine c_w1 y (Nat.le_of_ble_eq_true rfl) ?_
    repeat' kqd_in
    refine c_o2y y' m d _ hv hn (Nat.le_of_ble_eq_true rfl) ?_
    repeat' kqd_in
  · refine c_ymd1 y (Nat.le_of_ble_eq_true rfl) ?_
    repeat' kqd_in
    all_goals (try (exfalso; omega))
    · refine c_w1 y (Nat.le_of_ble_eq_true rfl) ?_
      repeat' kqd_in
      refine c_o2y y' m d _ hv hn (Nat.le_of_ble_eq_true rfl) ?_
      repeat' kqd_in
    · refine c_is_leap y (Nat.le_of_ble_eq_true rfl) ?_
      repeat' kqd_in
      all_goals (try (exfalso; omega))
      refine c_w1 y (Nat.le_of_ble_eq_true rfl) ?_
      repeat' kqd_in
      refine c_o2y y' m d _ hv hn (Nat.le_of_ble_eq_true rfl) ?_
      repeat' kqd_in
end

section
variable {e : E0} {c : Ac} {st : St} {X : XPost} {P : D → St → Prop}
theorem c_isoX (y w k : Int) (hy : 1 ≤ y ∧ y ≤ 9999) (hw : ¬ WeekOk y w) (hw3 : w = 0 ∨ w = 53 ∨ w = 54) (hk : 1 ≤ k ∧ k ≤ 7) (hh : c.A.handled = none) (hroom : 5 ≤ c.room) (h : X "ValueError" true st) :
    EVN (gl e) c (callV (.ref 73)) [.int y, .int w, .int k] st P X := by
  refine ev_def (r := 4) (xs := [Str.ofString "year", Str.ofString "week", Str.ofString "day"]) rfl rfl (by intro vs h; match vs, h with | [a, b, c], _ => rfl) rfl (by decide) (by decide) (by omega) rfl rfl rfl (by decide) ?_
  intro A₀ outer g₀ L hA
  rw [hh] at hA
  dsimp only [List.zip, List.zipWith]
  unfold WeekOk at hw
  have z1 : w.natAbs.log2 < 1920 := by rcases hw3 with rfl | rfl | rfl <;> decide
  have z2 : (Str.empty ++ Str.ofString "Invalid week: " ++ Str.ofString (toString w)).length ≤ sizeLine := by rcases hw3 with rfl | rfl | rfl <;> exact Nat.le_of_ble_eq_true rfl
  have hf : ∀ {q : Prop}, w = 53 → (dby y + 1) % 7 = 3 → leapP y → q := fun a b c => absurd (.inr ⟨a, .inr ⟨b, c⟩⟩) hw
  have hl : (decide (leapP y) = true) = leapP y := by simp
  repeat' kqd_in
  all_goals (try (exfalso; omega))
  · refine c_ymd1 y (Nat.le_of_ble_eq_true rfl) ?_
    repeat' kqd_in
    all_goals (try (exfalso; omega))
    · refine c_is_leap y (Nat.le_of_ble_eq_true rfl) ?_
      repeat' kqd_in
      all_goals (try exact hf (by assumption) (by assumption) (by assumption))
      refine as_raise1 PySem.F.excCall_ValueError PySem.F.excRaise_ValueError rfl (by boot_by_name) hA ?_
      repeat' kqd_in
      refine ae_fstr2 w ?_ z1 (Nat.le_of_ble_eq_true rfl) z2
      repeat' kqd_in
      refine ⟨rfl, fun x => ?_⟩
      repeat' kqd_in
      exact ⟨Nat.le_of_ble_eq_true rfl, rfl, h⟩
    · refine as_raise1 PySem.F.excCall_ValueError PySem.F.excRaise_ValueError rfl (by boot_by_name) hA ?_
      repeat' kqd_in
      refine ae_fstr2 w ?_ z1 (Nat.le_of_ble_eq_true rfl) z2
      repeat' kqd_in
      refine ⟨rfl, fun x => ?_⟩
      repeat' kqd_in
      exact ⟨Nat.le_of_ble_eq_true rfl, rfl, h⟩
  all_goals (
    refine as_raise1 PySem.F.excCall_ValueError PySem.F.excRaise_ValueError rfl (by boot_by_name) hA ?_
    repeat' kqd_in
    refine ae_fstr2 w ?_ z1 (Nat.le_of_ble_eq_true rfl) z2
    repeat' kqd_in
    refine ⟨rfl, fun x => ?_⟩
    repeat' kqd_in
    exact ⟨Nat.le_of_ble_eq_true rfl, rfl, h⟩)
end

section
variable {e : E0} {c : Ac} {st : St} {X : XPost} {P : D → St → Prop}
theorem c_last (y : Int) (hroom : 1 ≤ c.room) (h : P (.int (dby (y + 1) % 7)) st) : EVN (gl e) c (callV (.ref 94)) [.int y] st P X := by
  refine ev_def (r := 0) (xs := [Str.ofString "year"]) rfl rfl (by intro vs h; match vs, h with | [a], _ => rfl) rfl (by decide) (by decide) (by omega) rfl rfl rfl (by decide) ?_
  intro A₀ outer g₀ L hh
  dsimp only [List.zip, List.zipWith]
  repeat' kqd_in
  exact fin_eq h (dint (last_eq y).symm)
theorem c_lengths (y : Int) (hroom : 1 ≤ c.room) (h : P (.lst st.ls.length) ⟨st.env, st.ls ++ [lastsL y], st.tn⟩) : EVN (gl e) c (callV (.ref 101)) [.int y] st P X := by
  refine ev_def (r := 0) (xs := [Str.ofString "year"]) rfl rfl (by intro vs h; match vs, h with | [a], _ => rfl) rfl (by decide) (by decide) (by omega) rfl rfl rfl (by decide) ?_
  intro A₀ outer g₀ L hh
  dsimp only [List.zip, List.zipWith]
  have hp : leapP y → lastsL y = [.int 31, .int 29, .int 31, .int 30, .int 31, .int 30, .int 31, .int 31, .int 30, .int 31, .int 30, .int 31] := fun q => by unfold lastsL; rw [dim2, show lpI y = 1 from if_pos q]; rfl
  have hn : ¬ leapP y → lastsL y = [.int 31, .int 28, .int 31, .int 30, .int 31, .int 30, .int 31, .int 31, .int 30, .int 31, .int 30, .int 31] := fun q => by unfold lastsL; rw [dim2, show lpI y = 0 from if_neg q]; rfl
  unfold leapP at hp hn
  repeat' kqd_in
  all_goals first
    | (rw [hp (by omega)] at h; exact h)
    | (rw [hn (by omega)] at h; exact h)

theorem c_weekday (y m d : Int) (h1 : 1 ≤ m) (h2 : m ≤ 12) (hroom : 1 ≤ c.room) (h : P (.int ((ordn y m d - 1) % 7 + 1)) st) : EVN (gl e) c (callV (.ref 108)) [.int y, .int m, .int d] st P X := by
  refine ev_def (r := 0) (xs := [Str.ofString "year", Str.ofString "month", Str.ofString "day"]) rfl rfl (by intro vs h; match vs, h with | [a, b, c], _ => rfl) rfl (by decide) (by decide) (by omega) rfl rfl rfl (by decide) ?_
  intro A₀ outer g₀ L hh
  dsimp only [List.zip, List.zipWith]
  repeat' kqd_in
  · exact fin_eq h (dint (zel_lo h1 (by assumption)).symm)
  · exact fin_eq h (dint (zel_hi (by omega) h2).symm)
theorem c_name (y m d Y : Int) (hv : Valid y m d) (w1Y : w1 Y ≤ ordn y m d) (w2Y : ordn y m d < w1 (Y + 1)) (hh : c.A.handled = none) (hroom : 2 ≤ c.room) (h : ∀ l, P (.tup [.int Y, .int ((ordn y m d - w1 Y) / 7 + 1), .int ((ordn y m d - 1) % 7 + 1)]) ⟨st.env, st.ls ++ l, st.tn⟩) : EVN (gl e) c (callV (.ref 115)) [.int y, .int m, .int d] st P X := by
  refine ev_def (r := 1) (xs := [Str.ofString "year", Str.ofString "month", Str.ofString "day"]) rfl rfl (by intro vs h; match vs, h with | [a, b, c], _ => rfl) rfl (by decide) (by decide) (by omega) rfl rfl rfl (by decide) ?_
  intro A₀ outer g₀ L hA
  rw [hh] at hA
  dsimp only [List.zip, List.zipWith]
  obtain ⟨h1, h2, h3, h4⟩ := id hv
  repeat' kqd_in
  refine c_weekday y m d h1 h2 (Nat.le_of_ble_eq_true rfl) ?_
  repeat' kqd_in
  refine c_lengths y (Nat.le_of_ble_eq_true rfl) ?_
  repeat' kqd_in
  rw [show m - 1 = (((m - 1).toNat : Nat) : Int) by omega]
  refine sl_to (k := (m - 1).toNat) (ds := lastsL y) ls_last (by intro _ q; cases q) (Nat.le_of_ble_eq_true rfl) ?_
  repeat' kqd_in
  refine ev_sum (ns := (lastsN y).take (m - 1).toNat) (by rw [List.map_take, ← lasts_map]; exact ls_last) hA ?_
  rw [sum_lasts h1 h2]
  have h' := h [lastsL y, List.take (m - 1).toNat (lastsL y)]
  rw [show st.ls ++ [lastsL y, List.take (m - 1).toNat (lastsL y)] = st.ls ++ [lastsL y] ++ [List.take (m - 1).toNat (lastsL y)] by simp] at h'
  have r := valid_range hv
  have a0 := w1_spec (y - 1)
  have a1 := w1_spec y
  have a2 := w1_spec (y + 1)
  have a3 := w1_spec (y + 2)
  have s0 := dby_succ (y - 1)
  rw [show y - 1 + 1 = y by omega] at s0
  have s1 := dby_succ y
  have s2 := dby_succ (y + 1)
  rw [show y + 1 + 1 = y + 2 by omega] at s2
  have l0 := lpI_range (y - 1)
  have l1 := lpI_range y
  have l2 := lpI_range (y + 1)
  have hT : ordn y m d = dby y + dbm y m + d := rfl
  have n0 := w1_next (y - 1)
  rw [show y - 1 + 1 = y by omega] at n0
  have n1 := w1_next y
  repeat' kqd_in
  · rename_i hq
    obtain rfl := week_unique (Z := y - 1) w1Y w2Y (by omega) (by rw [show y - 1 + 1 = y by omega]; omega)
    refine c_last (y - 1) (Nat.le_of_ble_eq_true rfl) ?_
    rw [show y - 1 + 1 = y by omega] at *
    repeat' kqd_in
    · refine c_last (y - 1 - 1) (Nat.le_of_ble_eq_true rfl) ?_
      rw [show y - 1 - 1 + 1 = y - 1 by omega] at *
      repeat' kqd_in
      · exact fin_eq h' (by rw [show (ordn y m d - w1 (y - 1)) / 7 + 1 = 52 by omega])
      · exact fin_eq h' (by rw [show (ordn y m d - w1 (y - 1)) / 7 + 1 = 53 by omega])
    · exact fin_eq h' (by rw [show (ordn y m d - w1 (y - 1)) / 7 + 1 = 53 by omega])
  · rename_i hq0 hq
    refine c_last y (Nat.le_of_ble_eq_true rfl) ?_
    repeat' kqd_in
    · refine c_last (y - 1) (Nat.le_of_ble_eq_true rfl) ?_
      rw [show y - 1 + 1 = y by omega] at *
      repeat' kqd_in
      · have e := week_unique (Z := y + 1) w1Y w2Y (by omega) (by rw [show y + 1 + 1 = y + 2 by omega]; omega)
        rw [e] at h'
        exact fin_eq h' (by rw [show (ordn y m d - w1 (y + 1)) / 7 + 1 = 1 by omega])
      · have e := week_unique (Z := y) w1Y w2Y (by omega) (by omega)
        rw [e] at h'
        exact fin_eq h' (by rw [show (ordn y m d - w1 y) / 7 + 1 = (10 + dbm y m + d - ((ordn y m d - 1) % 7 + 1)) / 7 by omega])
    · have e := week_unique (Z := y) w1Y w2Y (by omega) (by omega)
      rw [e] at h'
      exact fin_eq h' (by rw [show (ordn y m d - w1 y) / 7 + 1 = (10 + dbm y m + d - ((ordn y m d - 1) % 7 + 1)) / 7 by omega])
  · have e := week_unique (Z := y) w1Y w2Y (by omega) (by omega)
    rw [e] at h'
    exact fin_eq h' (by rw [show (ordn y m d - w1 y) / 7 + 1 = (10 + dbm y m + d - ((ordn y m d - 1) % 7 + 1)) / 7 by omega])
end

theorem week_exists (T : Int) : ∃ Y, w1 Y ≤ T ∧ T < w1 (Y + 1) := by
  obtain ⟨Y, a, h1, h2, h3⟩ := year_exists (T - (T - 1) % 7 + 3)
  have b1 := w1_spec Y
  have b2 := w1_spec (Y + 1)
  have b3 := dby_succ Y
  exact ⟨Y, by omega, by omega⟩
theorem week_range {T Y : Int} (h1 : w1 Y ≤ T) (h2 : T < w1 (Y + 1)) (t1 : 1 ≤ T) (t2 : T ≤ dby 10000) : 1 ≤ Y ∧ Y ≤ 9999 := by
  have e1 : w1 1 = 1 := by decide
  have e2 : w1 10000 = 3652062 := by decide
  have e3 : dby 10000 = 3652059 := by decide
  constructor
  · rcases Int.lt_or_le Y 1 with q | q
    · have := w1_mono (y := Y + 1) (z := 1) (by omega)
      omega
    · exact q
  · rcases Int.lt_or_le Y 10000 with q | q
    · omega
    · have := w1_mono (y := 10000) (z := Y) q
      omega
section
variable {e : E0} {c : Ac} {st : St} {X : XPost} {P : D → St → Prop}
theorem c_line (p y' m d : Int) (h1 : 0 ≤ p) (h2 : p < 9999 * 371) (hv : Valid y' m d) (hn : ordn y' m d = ordP p) (hh : c.A.handled = none) (hroom : 6 ≤ c.room) (h : ∀ tn, P (.tup [.int y', .int m, .int d]) ⟨st.env, st.ls, tn⟩) : EVN (gl e) c (callV (.ref 87)) [.int p] st P X := by
  refine ev_def (r := 5) (xs := [Str.ofString "place"]) rfl rfl (by intro vs h; match vs, h with | [a], _ => rfl) rfl (by decide) (by decide) (by omega) rfl rfl rfl (by decide) ?_
  intro A₀ outer g₀ L hA
  rw [hh] at hA
  dsimp only [List.zip, List.zipWith]
  have hwk := weekOk_iff (y := p / 371 + 1) (w := p % 371 / 7 + 1) (by omega)
  have hnx := w1_next (p / 371 + 1)
  have hs1 := w1_spec (p / 371 + 1)
  have hs2 := w1_spec (p / 371 + 1 + 1)
  unfold ordP at hn
  repeat' kqd_in
  refine as_try (cls := "ValueError") (T' := "ValueError") rfl (by boot_by_name) rfl sub_ve_be sub_ve_tu sub_ve_ve ?_
  by_cases hok : WeekOk (p / 371 + 1) (p % 371 / 7 + 1)
  · have hle := hwk.mp hok
    repeat' kqd_in
    refine c_iso _ _ _ y' m d ⟨by omega, by omega⟩ hok ⟨by omega, by omega⟩ hv (by rw [hn]; omega) (Nat.le_of_ble_eq_true rfl) ?_
    repeat' kqd_in
    exact h _
  · have hle : ¬ _ := fun q => hok (hwk.mpr q)
    have hw : p % 371 / 7 + 1 = 53 := by omega
    repeat' kqd_in
    refine c_isoX _ _ _ ⟨by omega, by omega⟩ hok (.inr (.inl hw)) ⟨by omega, by omega⟩ hA (Nat.le_of_ble_eq_true rfl) ⟨rfl, rfl, fun ev => ?_⟩
    repeat' kqd_in
    refine c_iso _ _ _ y' m d ⟨by omega, by omega⟩ (.inl ⟨by decide, by decide⟩) ⟨by decide, by decide⟩ hv (by rw [hn]; omega) (Nat.le_of_ble_eq_true rfl) ?_
    repeat' kqd_in
    exact retK_retT (h _)
end

theorem three11 {ns : List Int} {p q r : Int} : ∃ a b c, (ns.map D.int).take 3 ++ [D.int p, D.int q, D.int r].drop ((ns.map D.int).take 3).length = [.int a, .int b, .int c] := by
  rcases ns with _ | ⟨a, _ | ⟨b, _ | ⟨c, r⟩⟩⟩
  · exact ⟨_, _, _, rfl⟩
  · exact ⟨_, _, _, rfl⟩
  · exact ⟨_, _, _, rfl⟩
  · exact ⟨a, b, c, by simp⟩
theorem ordP_at {Y T : Int} (h1 : w1 Y ≤ T) (h2 : T < w1 (Y + 1)) : T = ordP ((Y - 1) * 371 + (T - w1 Y)) := by
  have a := w1_next Y
  have e1 : ((Y - 1) * 371 + (T - w1 Y)) / 371 + 1 = Y := by omega
  have e2 : ((Y - 1) * 371 + (T - w1 Y)) % 371 = T - w1 Y := by omega
  unfold ordP
  rw [e1, e2]
  omega
theorem law11 {e : E0} {s₁ : Shared} {fa : Addr} {cd : Value} {name qual : Str} {params : Arguments} {body : List Stmt} {scope : Scope} {dV kV doc pm cdv ct oc : Value} {an od : Option Addr} {osl : Array (Option Value)}
    (hk : (gl e).K.lookup 120 = some ⟨oc, od, .func (fnOf name qual params body scope dV kV doc pm an cdv ct), osl⟩) {ns : List Int} (hns : ns.length ≤ 63) :
    AS (gl e) (lawAc s₁ qual scope fa cd) (execs body (envOf qual scope s₁.heap.objs.size fa cd)) ⟨[(Str.ofString "script", .ro ns)], [], false⟩ (fun af _ => af = .ret (.bool true)) NoX := by
  have h2 : (gl e).K.lookup 120 = some _ := rfl
  rw [h2] at hk
  cases hk
  clear h2
  have hA : callerA.handled = none := rfl
  refine as_cut 6 (fun st₁ => ∃ y m d, 1 ≤ y ∧ y ≤ 9999 ∧ Valid y m d ∧ ∃ env ls, env.lookup (Str.ofString "year") = some (.int y) ∧ env.lookup (Str.ofString "month") = some (.int m) ∧ env.lookup (Str.ofString "day") = some (.int d) ∧ env.lookup (Str.ofString "low") = some (.int 0) ∧ env.lookup (Str.ofString "high") = some (.int (9999 * 371 - 1)) ∧ st₁ = ⟨env, ls, false⟩) ?_ ?_
  · dsimp only [List.take]
    repeat' kqd_in
    refine sl_to (k := 3) (ds := ns.map D.int) rfl (by intro _ q; cases q) (by rw [List.length_map]; omega) ?_
    repeat' kqd_in
    refine sl_to (k := 3) (ds := ns.map D.int) rfl (by intro _ q; cases q) (by rw [List.length_map]; omega) ?_
    repeat' kqd_in
    refine ev_len_lst (ds := (ns.map D.int).take 3) rfl ?_ (by simp; omega)
    repeat' kqd_in
    refine sl_from (k := ((ns.map D.int).take 3).length) (ds := [D.int 2020, D.int 12, D.int 31]) rfl (by intro _ q; cases q) (Nat.le_of_ble_eq_true rfl) ?_
    refine ev_addL (ds := (ns.map D.int).take 3) (es := [D.int 2020, D.int 12, D.int 31].drop ((ns.map D.int).take 3).length) rfl rfl ?_ (by simp; omega)
    obtain ⟨a, b, c, hab⟩ := three11 (ns := ns) (p := 2020) (q := 12) (r := 31)
    rw [hab]
    refine unp_lst (es := [.int a, .int b, .int c]) rfl rfl ?_
    repeat' kqd_in
    refine c_lengths _ (Nat.le_of_ble_eq_true rfl) ?_
    repeat' kqd_in
    have hm1 : 1 ≤ (b - 1) % 12 + 1 := by omega
    have hm2 : (b - 1) % 12 + 1 ≤ 12 := by omega
    have hd := dim_range (y := (a - 1) % 9999 + 1) hm1 hm2
    refine ev_item_lst (ds := lastsL ((a - 1) % 9999 + 1)) ls_last (by omega) (lasts_at hm1 hm2) ?_
    refine ev_mod (by omega) ?_
    repeat' kqd_in
    have q1 := Int.emod_nonneg (c - 1) (show dim ((a - 1) % 9999 + 1) ((b - 1) % 12 + 1) ≠ 0 by omega)
    have q2 := Int.emod_lt_of_pos (c - 1) (show 0 < dim ((a - 1) % 9999 + 1) ((b - 1) % 12 + 1) by omega)
    exact ⟨rfl, _, _, _, by omega, by omega, ⟨hm1, hm2, by omega, by omega⟩, _, _, rfl, rfl, rfl, rfl, rfl, rfl⟩
  rintro _ ⟨y, m, d, y1, y2, hv, env, ls, n1, n2, n3, n4, n5, rfl⟩
  dsimp only [List.drop]
  obtain ⟨Y, w1Y, w2Y⟩ := week_exists (ordn y m d)
  have hr := valid_range hv
  have b0 : dby 1 = 0 := by decide
  have b1 : dby 1 ≤ dby y := by
    rcases Int.lt_or_eq_of_le y1 with q | rfl
    · have := dby_lt q
      have := lpI_range 1
      omega
    · exact Int.le_refl _
  have b2 : dby y + 365 + lpI y ≤ dby 10000 := dby_lt (by omega)
  have hT : ordn y m d = dby y + dbm y m + d := rfl
  obtain ⟨hY1, hY2⟩ := week_range w1Y w2Y (by omega) (by omega)
  have nx := w1_next Y
  have hP := ordP_at w1Y w2Y
  have ho := fun p => ordP_lt (p := p) w1Y w2Y
  generalize hp : (Y - 1) * 371 + (ordn y m d - w1 Y) = p at hP ho
  have hp1 : 0 ≤ p := by omega
  have hp2 : p < 9999 * 371 := by omega
  refine as_cut 1 (fun st₁ => ∃ env ls tn, env.lookup (Str.ofString "year") = some (.int y) ∧ env.lookup (Str.ofString "month") = some (.int m) ∧ env.lookup (Str.ofString "day") = some (.int d) ∧ env.lookup (Str.ofString "low") = some (.int p) ∧ st₁ = ⟨env, ls, tn⟩) ?_ ?_
  · dsimp only [List.take]
    kqd_in
    refine as_while (fun n st₁ => ∃ lo hi, n = (hi - lo).toNat ∧ 0 ≤ lo ∧ lo ≤ p ∧ p ≤ hi ∧ hi ≤ 9999 * 371 - 1 ∧ ∃ env ls tn, env.lookup (Str.ofString "year") = some (.int y) ∧ env.lookup (Str.ofString "month") = some (.int m) ∧ env.lookup (Str.ofString "day") = some (.int d) ∧ env.lookup (Str.ofString "low") = some (.int lo) ∧ env.lookup (Str.ofString "high") = some (.int hi) ∧ st₁ = ⟨env, ls, tn⟩) ?_ _ ⟨0, 9999 * 371 - 1, rfl, by omega, by omega, by omega, by omega, env, ls, false, n1, n2, n3, n4, n5, rfl⟩
    clear n1 n2 n3 n4 n5
    rintro n _ ⟨lo, hi, rfl, l1, l2, l3, l4, env, ls, tn, n1, n2, n3, n4, n5, rfl⟩
    refine AW.less (env := [(Str.ofString "year", .int y), (Str.ofString "month", .int m), (Str.ofString "day", .int d), (Str.ofString "low", .int lo), (Str.ofString "high", .int hi)]) ?_ (fun z q h => ?_)
    · clear n1 n2 n3 n4 n5
      repeat' kqd_in
      · rename_i hc
        obtain ⟨y', m', d', hv', hn'⟩ := date_exists (ordP ((lo + hi) / 2))
        refine c_line _ y' m' d' (by omega) (by omega) hv' hn' hA (Nat.le_of_ble_eq_true rfl) (fun tn' => ?_)
        repeat' kqd_in
        refine ev_ltT3 ?_
        rw [lex_ord hv' hv, hn']
        have hx := ho ((lo + hi) / 2)
        repeat' kqd_in
        · exact ⟨_, by omega, (lo + hi) / 2 + 1, hi, rfl, by omega, by omega, by omega, by omega, _, _, _, rfl, rfl, rfl, rfl, rfl, rfl⟩
        · exact ⟨_, by omega, lo, (lo + hi) / 2, rfl, by omega, by omega, by omega, by omega, _, _, _, rfl, rfl, rfl, rfl, rfl, rfl⟩
      · obtain rfl : lo = p := by omega
        exact ⟨rfl, _, _, _, rfl, rfl, rfl, rfl, rfl⟩
    · rcases lk_cons h with ⟨rfl, rfl⟩ | h
      · exact n1
      rcases lk_cons h with ⟨rfl, rfl⟩ | h
      · exact n2
      rcases lk_cons h with ⟨rfl, rfl⟩ | h
      · exact n3
      rcases lk_cons h with ⟨rfl, rfl⟩ | h
      · exact n4
      rcases lk_cons h with ⟨rfl, rfl⟩ | h
      · exact n5
      cases h
  clear n1 n2 n3 n4 n5
  rintro _ ⟨env, ls, tn, n1, n2, n3, n4, rfl⟩
  dsimp only [List.drop]
  refine AW.less (env := [(Str.ofString "year", .int y), (Str.ofString "month", .int m), (Str.ofString "day", .int d), (Str.ofString "low", .int p)]) ?_ (fun z q h => ?_)
  · clear n1 n2 n3 n4
    repeat' kqd_in
    refine c_line p y m d hp1 hp2 hv hP hA (Nat.le_of_ble_eq_true rfl) (fun tn' => ?_)
    repeat' kqd_in
    refine c_name y m d Y hv w1Y w2Y hA (Nat.le_of_ble_eq_true rfl) (fun l => ?_)
    have sY := w1_spec Y
    rw [show (ordn y m d - w1 Y) / 7 + 1 = p % 371 / 7 + 1 by omega, show (ordn y m d - 1) % 7 + 1 = p % 7 + 1 by omega, show Y = p / 371 + 1 by omega]
    refine ev_neD (p := .tuple [.int (p / 371 + 1), .int (p % 371 / 7 + 1), .int (p % 7 + 1)]) (q := .tuple [.int (p / 371 + 1), .int (p % 371 / 7 + 1), .int (p % 7 + 1)]) (.tup (.cons (.int _) (.cons (.int _) (.cons (.int _) .nil)))) (.tup (.cons (.int _) (.cons (.int _) (.cons (.int _) .nil)))) rfl rfl ?_
    rw [eqv_t3]
    repeat' kqd_in
    refine ev_eqD (p := .tuple [.int y, .int m, .int d]) (q := .tuple [.int y, .int m, .int d]) (.tup (.cons (.int _) (.cons (.int _) (.cons (.int _) .nil)))) (.tup (.cons (.int _) (.cons (.int _) (.cons (.int _) .nil)))) rfl rfl ?_
    rw [eqv_t3]
    repeat' kqd_in
    refine ae_comp (fun _ => true) (fun _ => .val (.type "int")) hA rfl (by decide) (by decide) rfl (by decide) rfl ?_ (by intro _; rfl)
    repeat' kqd_in
    refine ⟨[.int y, .int m, .int d], rfl, Nat.le_of_ble_eq_true rfl, ?_, ?_, ?_⟩
    · intro C d acc hd
      exact ab_test0 ⟨rfl, rfl⟩
    · intro C d acc hd _
      obtain ⟨n, rfl⟩ : ∃ n, d = .int n := by
        simp only [List.mem_cons, List.not_mem_nil, or_false] at hd
        rcases hd with rfl | rfl | rfl <;> exact ⟨_, rfl⟩
      repeat' kqd_in
      exact ⟨rfl, rfl⟩
    repeat' kqd_in
    refine ev_eqVals (vs := [.type "int", .type "int", .type "int"]) (ls_old ls_last) ls_last ?_
    repeat' kqd_in
    rfl
  · rcases lk_cons h with ⟨rfl, rfl⟩ | h
    · exact n1
    rcases lk_cons h with ⟨rfl, rfl⟩ | h
    · exact n2
    rcases lk_cons h with ⟨rfl, rfl⟩ | h
    · exact n3
    rcases lk_cons h with ⟨rfl, rfl⟩ | h
    · exact n4
    cases h
theorem t11 : PySem.Challenge.rw_dm0257_11.Holds := by
  refine Mine.hd11 ?_
  w_on
  k_go0
  refine law_entry (G := gl ⟨_, _, _, _, _, _⟩) (x := Str.ofString "script") rfl rfl (by assumption) (by assumption) (by assumption) (by assumption) rfl (by assumption) (by assumption) (by assumption) rfl ?_ ?_
  · exact law11 rfl (by omega)
  · intro s' m' F' g' o'
    exact goodW_bool F' g' (raisesW_false (fun _ hz => nomatch hz)) (postW_of rfl rfl (by decide +kernel)) o'

end Mine
theorem PySem.Challenge.cw_dm0257_11_holds : PySem.Challenge.rw_dm0257_11.Holds := by
  exact Mine.t11
