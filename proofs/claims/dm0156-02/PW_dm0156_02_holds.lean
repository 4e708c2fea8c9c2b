import PyProof.Rows.All
import Wide.All
import OpenK.AllK
import Wide.FinOn
import PyProof.IsiPairs
import PyProof.IsiHeapPairs
import PyProof.StrLawsReplace
import PySem.Challenge.RW_dm0156_02
set_option Elab.async false

section
open PySem PySem.W PyProof.Rows PySem.Calls
namespace Mine
set_option linter.all false

/-! abstract values -/
inductive PV where
  | dat (d : PyData)
  | own (i : Nat)
  | val (v : Value)
  | mt (x : Str) (sp : List Int)
  | rng (a b c : Int)
  | lam (params : Arguments) (body : Expr) (scope : Scope) (qual : Str)

def IsMatch (h : Heap) (v : Value) (x : Str) (sp : List Int) : Prop :=
  ∃ a o t pv p l li b, v = .ref a ∧ h.get? a = some o ∧ (o.cls = .type "re.Match" ∧ o.dict = none) ∧ o.data = .fields #[.str x t, pv, p, l, li, .ref b] ∧ h.IsTuple b (sp.map rawInt).toArray

/-! no dict within -/
mutual
def nod : PyData → Bool
  | .dict _ => false
  | .list xs => nodAll xs
  | .tuple xs => nodAll xs
  | _ => true
def nodAll : List PyData → Bool
  | [] => true
  | x :: r => nod x && nodAll r
end

def Rep (h : Heap) (ρ : List Addr) (O : Addr → Prop) (v : Value) : PV → Prop
  | .dat d => ∃ as, Reads h v d as ∧ (∀ a ∈ as, ¬ O a) ∧ nod d = true
  | .own i => ∃ a, ρ[i]? = some a ∧ v = .ref a
  | .val u => v = u
  | .mt x sp => IsMatch h v x sp
  | .rng a b c => ∃ r t u q, v = .ref r ∧ IsRange h r a b c t u q
  | .lam params body scope qual => ∃ a c nm pm ct oc vs t, v = .ref a ∧ h.get? a = some { cls := .type "function", data := .func (kla_fn nm qual params body scope [] pm (.ref c) ct) } ∧ h.get? c = some oc ∧ oc.cls = .type "code" ∧ oc.data = .fields vs ∧ vs[1]? = some (.str qual t)

def RepAll (h : Heap) (ρ : List Addr) (O : Addr → Prop) : List Value → List PV → Prop
  | [], [] => True
  | v :: vs, d :: ds => Rep h ρ O v d ∧ RepAll h ρ O vs ds
  | _, _ => False

/-- what may be written: a frame's names, a cell, a list -/
def Soft (o : Obj) : Prop := (∃ es n, o.data = .dict es n) ∨ (∃ v, o.data = .cell v) ∨ (o.cls = .type "list" ∧ ∃ vs n, o.data = .seq vs n) ∨ (o.cls = .none ∧ ∃ vs, o.data = .fields vs)

/-- what no step of a frame writes -/
def Firm (o : Obj) : Prop := (o.cls = .none ∨ o.cls = .type "code") ∧ ∃ vs, o.data = .fields vs
/-- the tables of code that grow when a function is made -/
structure Tabs where
  T : List Addr
  ok : Heap → Prop
  has : ∀ h, ok h → ∀ a ∈ T, ∃ vs, h.get? a = some (tabObj vs)
  stab : ∀ h h', ok h → (∀ a o, h.get? a = some o → Firm o → h'.get? a = some o) → ok h'
def orT (X : Addr → Prop) (T : List Addr) : Addr → Prop := fun a => X a ∨ a ∈ T
structure Ctx where
  prog : Program
  w : World
  A : Around
  env : Env
  s₀ : Shared
  X : Addr → Prop
  tb : Tabs

structure St where
  m : List (Str × PV)
  σ : List (Option (List PV))

def Mut (C : Ctx) (σ : List (Option (List PV))) (ρ : List Addr) (a : Addr) : Prop :=
  a = C.env.locals ∨ (∃ x, C.env.cells.lookup x = some a) ∨ orT C.X C.tb.T a ∨ ∃ (i : Nat) (l : List PV), σ[i]? = some (some l) ∧ ρ[i]? = some a

structure Inv (C : Ctx) (st : St) (ρ : List Addr) (s : Shared) : Prop where
  same : ∃ h tk, s = { C.s₀ with heap := h, toks := tk }
  keep : ∀ b o, C.s₀.heap.get? b = some o → s.heap.get? b = some o
  tok : C.s₀.toks ≤ s.toks
  ns : ∃ m, s.heap.Ns C.env.locals m ∧ ∀ x d, st.m.lookup x = some d → C.env.kindOf x = some .local → ∃ v, m x = some v ∧ Rep s.heap ρ (Mut C st.σ ρ) v d
  cell : ∀ x c, C.env.cells.lookup x = some c → ∃ u, s.heap.IsCell c u ∧ ∀ d, st.m.lookup x = some d → C.env.kindOf x = some .cell → ∃ v, u = some v ∧ Rep s.heap ρ (Mut C st.σ ρ) v d
  own : ∀ (i : Nat) (l : List PV), st.σ[i]? = some (some l) → ∃ (a : Addr) (vs : List Value), ρ[i]? = some a ∧ s.heap.PlainList a vs.toArray ∧ RepAll s.heap ρ (Mut C st.σ ρ) vs l ∧ C.s₀.heap.get? a = none
  inj : ∀ (i j : Nat) (a : Addr) (l l' : List PV), st.σ[i]? = some (some l) → st.σ[j]? = some (some l') → ρ[i]? = some a → ρ[j]? = some a → i = j
  len : ρ.length = st.σ.length
  tab : C.tb.ok s.heap

/-- what a context brings along, once for all -/
structure Ok (C : Ctx) : Prop where
  kind : C.env.scope.kind = .function
  globals : C.env.globals = mainGlobals
  builtins : C.env.builtins = builtinsNs
  fresh : C.s₀.heap.get? C.env.locals = none
  soft : ∀ a, C.X a → ∃ o, C.s₀.heap.get? a = some o ∧ Soft o
  handled : C.A.handled = none
  tok : 0 < C.s₀.toks
  capart : ∀ x y c, C.env.cells.lookup x = some c → C.env.cells.lookup y = some c → x = y
  tabs : ∀ a ∈ C.tb.T, C.s₀.heap.get? a = none

structure Le (C : Ctx) (st : St) (ρ : List Addr) (s : Shared) (st' : St) (ρ' : List Addr) (s' : Shared) : Prop where
  keep : ∀ a o, s.heap.get? a = some o → ¬ Mut C st.σ ρ a → s'.heap.get? a = some o ∧ ¬ Mut C st'.σ ρ' a
  rho : ∀ (i : Nat) (a : Addr), ρ[i]? = some a → ρ'[i]? = some a
  ex : ∀ a o, s.heap.get? a = some o → ∃ o', s'.heap.get? a = some o'

theorem Le.refl {C : Ctx} {st : St} {ρ : List Addr} {s : Shared} : Le C st ρ s st ρ s := ⟨fun _ _ h n => ⟨h, n⟩, fun _ _ h => h, fun _ o h => ⟨o, h⟩⟩
theorem Le.trans {C : Ctx} {st st' st'' : St} {ρ ρ' ρ'' : List Addr} {s s' s'' : Shared} (x : Le C st ρ s st' ρ' s') (y : Le C st' ρ' s' st'' ρ'' s'') : Le C st ρ s st'' ρ'' s'' :=
  ⟨fun a o h n => y.keep a o (x.keep a o h n).1 (x.keep a o h n).2, fun i a h => y.rho i a (x.rho i a h), fun a o h => let ⟨o', h'⟩ := x.ex a o h; y.ex a o' h'⟩

theorem Soft.tup {o : Obj} (s : Soft o) (hc : o.cls = .type "tuple") {vs : Array Value} {n : Nat} (hd : o.data = .seq vs n) : False := by
  rcases s with ⟨_, _, e⟩ | ⟨_, e⟩ | ⟨e, _⟩ | ⟨e, _⟩
  · rw [hd] at e; cases e
  · rw [hd] at e; cases e
  · rw [hc] at e; exact absurd e (by decide)
  · rw [hc] at e; cases e
theorem reads_stepG {h h' : Heap} {O : Addr → Prop} (hO : ∀ a o vs n, O a → h.get? a = some o → o.cls = .type "tuple" → o.data = .seq vs n → False) (hk : ∀ a o, h.get? a = some o → ¬ O a → h'.get? a = some o)
    {v : Value} {d : PyData} {as : List Addr} (r : Reads h v d as) (n : ∀ a ∈ as, ¬ O a) : Reads h' v d as := by
  revert n
  refine Reads.rec (motive_1 := fun v d as _ => (∀ a ∈ as, ¬ O a) → Reads h' v d as) (motive_2 := fun vs ds as _ => (∀ a ∈ as, ¬ O a) → ReadsAll h' vs ds as) ?_ ?_ ?_ ?_ ?_ ?_ ?_ ?_ ?_ r
  · exact fun _ => .none
  · exact fun b _ => .bool b
  · exact fun i t _ => .int i t
  · exact fun x t _ => .str x t
  · intro a o vs k xs as h1 h2 h3 _ ih n
    exact .list (hk _ _ h1 (n _ List.mem_cons_self)) h2 h3 (ih fun a ha => n a (List.mem_cons_of_mem _ ha))
  · intro a o vs k xs as h1 h2 h3 _ ih n
    exact .tuple (hk _ _ h1 fun q => hO _ _ _ _ q h1 h2 h3) h2 h3 (ih n)
  · intro a o es k kvs as bs h1 h2 h3 _ _ ih ih' n
    exact .dict (hk _ _ h1 (n _ (List.mem_append_left _ List.mem_cons_self))) h2 h3 (ih fun a ha => n a (List.mem_append_left _ (List.mem_cons_of_mem _ ha))) (ih' fun a ha => n a (List.mem_append_right _ ha))
  · exact fun _ => .nil
  · intro v vs d ds as bs _ _ ih ih' n
    exact .cons (ih fun a ha => n a (List.mem_append_left _ ha)) (ih' fun a ha => n a (List.mem_append_right _ ha))
theorem reads_step {h h' : Heap} {O : Addr → Prop} (hO : ∀ a o, O a → h.get? a = some o → Soft o) (hk : ∀ a o, h.get? a = some o → ¬ O a → h'.get? a = some o)
    {v : Value} {d : PyData} {as : List Addr} (r : Reads h v d as) (n : ∀ a ∈ as, ¬ O a) : Reads h' v d as :=
  reads_stepG (fun a o _ _ q e hc hd => (hO a o q e).tup hc hd) hk r n
theorem reads_kind {h : Heap} {v : Value} {d : PyData} {as : List Addr} (r : Reads h v d as) : ∀ a ∈ as, ∃ o, h.get? a = some o ∧ ∀ vs, o.data ≠ .fields vs := by
  refine Reads.rec (motive_1 := fun _ _ as _ => ∀ a ∈ as, ∃ o, h.get? a = some o ∧ ∀ vs, o.data ≠ .fields vs) (motive_2 := fun _ _ as _ => ∀ a ∈ as, ∃ o, h.get? a = some o ∧ ∀ vs, o.data ≠ .fields vs)
    (fun _ h => nomatch h) (fun _ _ h => nomatch h) (fun _ _ _ h => nomatch h) (fun _ _ _ h => nomatch h) ?_ ?_ ?_ (fun _ h => nomatch h) ?_ r
  · intro a o vs n xs as h1 h2 h3 _ ih b hb
    rcases List.mem_cons.mp hb with e | hb
    · exact ⟨o, e ▸ h1, fun vs q => nomatch h3.symm.trans q⟩
    · exact ih b hb
  · intro a o vs n xs as h1 h2 h3 _ ih
    exact ih
  · intro a o es n kvs as bs h1 h2 h3 _ _ ih ih' b hb
    rcases List.mem_append.mp hb with hb | hb
    · rcases List.mem_cons.mp hb with e | hb
      · exact ⟨o, e ▸ h1, fun vs q => nomatch h3.symm.trans q⟩
      · exact ih b hb
    · exact ih' b hb
  · intro v vs d ds as bs _ _ ih1 ih2 b hb
    exact (List.mem_append.mp hb).elim (ih1 b) (ih2 b)
theorem reads_has {h : Heap} {v : Value} {d : PyData} {as : List Addr} (r : Reads h v d as) (a : Addr) (ha : a ∈ as) : ∃ o, h.get? a = some o := (reads_kind r a ha).elim fun o h => ⟨o, h.1⟩
/-- from one world to a later one -/
structure Grow (h : Heap) (ρ : List Addr) (O : Addr → Prop) (h' : Heap) (ρ' : List Addr) (O' : Addr → Prop) : Prop where
  soft : ∀ a o, O a → h.get? a = some o → Soft o
  keep : ∀ a o, h.get? a = some o → ¬ O a → h'.get? a = some o ∧ ¬ O' a
  rho : ∀ (i : Nat) (a : Addr), ρ[i]? = some a → ρ'[i]? = some a

theorem Grow.firm {h h' : Heap} {ρ ρ' : List Addr} {O O' : Addr → Prop} (g : Grow h ρ O h' ρ' O') {a : Addr} {o : Obj} (ho : h.get? a = some o) (h1 : ∀ es n, o.data ≠ .dict es n) (h2 : ∀ v, o.data ≠ .cell v) (h3 : o.cls ≠ .type "list") (h4 : o.cls ≠ .none) : h'.get? a = some o :=
  (g.keep a o ho fun q => by
    rcases g.soft _ _ q ho with ⟨_, _, e⟩ | ⟨_, e⟩ | ⟨e, _⟩ | ⟨e, _⟩
    · exact h1 _ _ e
    · exact h2 _ e
    · exact h3 e
    · exact h4 e).1
theorem Rep.grow {h h' : Heap} {ρ ρ' : List Addr} {O O' : Addr → Prop} (g : Grow h ρ O h' ρ' O') {v : Value} {d : PV} (r : Rep h ρ O v d) : Rep h' ρ' O' v d := by
  cases d with
  | dat d =>
    obtain ⟨as, r, n, hd⟩ := r
    refine ⟨as, reads_step g.soft (fun a o e q => (g.keep a o e q).1) r n, fun a ha => ?_, hd⟩
    obtain ⟨o, ho⟩ := reads_has r a ha
    exact (g.keep a o ho (n a ha)).2
  | own i =>
    obtain ⟨a, e, q⟩ := r
    exact ⟨a, g.rho _ _ e, q⟩
  | val u => exact r
  | mt x sp =>
    obtain ⟨a, o, t, pv, p, l, li, b, e, ho, hc, hd, ob, hb, hbc, n, hbd⟩ := r
    refine ⟨a, o, t, pv, p, l, li, b, e, g.firm ho (fun _ _ e => ?_) (fun _ e => ?_) (fun e => ?_) (fun e => ?_), hc, hd, ob, g.firm hb (fun _ _ e => ?_) (fun _ e => ?_) (fun e => ?_) (fun e => ?_), hbc, n, hbd⟩
    · rw [hd] at e; cases e
    · rw [hd] at e; cases e
    · rw [hc.1] at e; exact absurd e (by decide)
    · rw [hc.1] at e; cases e
    · rw [hbd] at e; cases e
    · rw [hbd] at e; cases e
    · rw [hbc] at e; exact absurd e (by decide)
    · rw [hbc] at e; cases e
  | rng a b c =>
    obtain ⟨r, t, u, q, e, ho⟩ := r
    exact ⟨r, t, u, q, e, g.firm ho (fun _ _ e => nomatch e) (fun _ e => nomatch e) (fun e => absurd (show Value.type "range" = Value.type "list" from e) (by decide)) (fun e => nomatch (show Value.type "range" = Value.none from e))⟩
  | lam params body scope qual =>
    obtain ⟨a, c, nm, pm, ct, oc, vs, t, e, ho, hoc, h1, h2, h3⟩ := r
    refine ⟨a, c, nm, pm, ct, oc, vs, t, e, g.firm ho (fun _ _ e => nomatch e) (fun _ e => nomatch e) (fun e => absurd (show Value.type "function" = Value.type "list" from e) (by decide)) (fun e => nomatch (show Value.type "function" = Value.none from e)), g.firm hoc (fun _ _ e => ?_) (fun _ e => ?_) (fun e => ?_) (fun e => ?_), h1, h2, h3⟩
    · rw [h2] at e; cases e
    · rw [h2] at e; cases e
    · rw [h1] at e; exact absurd e (by decide)
    · rw [h1] at e; cases e

theorem RepAll.grow {h h' : Heap} {ρ ρ' : List Addr} {O O' : Addr → Prop} (g : Grow h ρ O h' ρ' O') : ∀ {vs : List Value} {ds : List PV}, RepAll h ρ O vs ds → RepAll h' ρ' O' vs ds
  | [], [], _ => trivial
  | _ :: _, _ :: _, ⟨a, b⟩ => ⟨a.grow g, b.grow g⟩
  | [], _ :: _, h => h.elim
  | _ :: _, [], h => h.elim

theorem Inv.soft {C : Ctx} {st : St} {ρ : List Addr} {s : Shared} (hC : Ok C) (I : Inv C st ρ s) : ∀ a o, Mut C st.σ ρ a → s.heap.get? a = some o → Soft o := by
  intro a o hm ho
  rcases hm with rfl | ⟨x, hx⟩ | hx | ⟨i, l, h1, h2⟩
  · obtain ⟨m, ⟨o', es, ep, h1, h2, _⟩, _⟩ := I.ns
    rw [h1] at ho; cases ho
    exact .inl ⟨_, _, h2⟩
  · obtain ⟨u, ⟨o', h1, h2⟩, _⟩ := I.cell x a hx
    rw [h1] at ho; cases ho
    exact .inr (.inl ⟨_, h2⟩)
  · rcases hx with hx | hx
    · obtain ⟨o', h1, h2⟩ := hC.soft a hx
      rw [I.keep _ _ h1] at ho; cases ho
      exact h2
    · obtain ⟨vs, h1⟩ := C.tb.has _ I.tab a hx
      rw [h1] at ho; cases ho
      exact .inr (.inr (.inr ⟨rfl, _, rfl⟩))
  · obtain ⟨a', vs, e1, ⟨n, g1⟩, _⟩ := I.own i l h1
    rw [h2] at e1; cases e1
    rw [g1] at ho; cases ho
    exact .inr (.inr (.inl ⟨rfl, _, _, rfl⟩))

theorem Inv.grow {C : Ctx} {st st' : St} {ρ ρ' : List Addr} {s s' : Shared} (hC : Ok C) (I : Inv C st ρ s) (L : Le C st ρ s st' ρ' s') : Grow s.heap ρ (Mut C st.σ ρ) s'.heap ρ' (Mut C st'.σ ρ') :=
  ⟨I.soft hC, L.keep, L.rho⟩

/-- a change that keeps all that was, the tables aside -/
theorem Inv.keepsT {C : Ctx} {st : St} {ρ : List Addr} {s : Shared} (hC : Ok C) (I : Inv C st ρ s) {h' : Heap} {tk : Nat} (hk : ∀ b o, s.heap.get? b = some o → b ∉ C.tb.T → h'.get? b = some o) (hok : C.tb.ok h') (htk : s.toks ≤ tk) :
    Inv C st ρ { s with heap := h', toks := tk } ∧ Le C st ρ s st ρ { s with heap := h', toks := tk } := by
  have L : Le C st ρ s st ρ { s with heap := h', toks := tk } := ⟨fun a o e n => ⟨hk a o e (fun q => n (.inr (.inr (.inl (.inr q))))), n⟩, fun _ _ e => e, fun a o e => by
    by_cases q : a ∈ C.tb.T
    · obtain ⟨vs, h1⟩ := C.tb.has _ hok a q; exact ⟨_, h1⟩
    · exact ⟨o, hk a o e q⟩⟩
  have g := I.grow hC L
  have nt : ∀ a o, s.heap.get? a = some o → (o.cls ≠ .none ∨ ∀ vs, o.data ≠ .fields vs) → h'.get? a = some o := fun a o e q => hk a o e fun m => by
    obtain ⟨vs, h1⟩ := C.tb.has _ I.tab a m
    rw [h1] at e; cases e
    rcases q with q | q
    · exact q rfl
    · exact q _ rfl
  refine ⟨⟨?_, fun b o e => hk _ _ (I.keep b o e) (fun q => by rw [hC.tabs b q] at e; cases e), Nat.le_trans I.tok htk, ?_, ?_, ?_, I.inj, I.len, hok⟩, L⟩
  · obtain ⟨h, tk', e⟩ := I.same; exact ⟨h', tk, by rw [e]⟩
  · obtain ⟨m, ⟨o, es, ep, g1, g2, g3⟩, h2⟩ := I.ns
    exact ⟨m, ⟨o, es, ep, nt _ _ g1 (.inr fun vs q => by rw [g2] at q; cases q), g2, g3⟩, fun x d e k => let ⟨v, e1, e2⟩ := h2 x d e k; ⟨v, e1, e2.grow g⟩⟩
  · intro x c hx
    obtain ⟨u, ⟨o, g1, g2⟩, h2⟩ := I.cell x c hx
    exact ⟨u, ⟨o, nt _ _ g1 (.inr fun vs q => by rw [g2] at q; cases q), g2⟩, fun d e k => let ⟨v, e1, e2⟩ := h2 d e k; ⟨v, e1, e2.grow g⟩⟩
  · intro i l hi
    obtain ⟨a, vs, e1, ⟨n, g1⟩, e3, e4⟩ := I.own i l hi
    exact ⟨a, vs, e1, ⟨n, nt _ _ g1 (.inl (by simp))⟩, e3.grow g, e4⟩
/-- a change that keeps all that was -/
theorem Inv.keeps {C : Ctx} {st : St} {ρ : List Addr} {s : Shared} (hC : Ok C) (I : Inv C st ρ s) {h' : Heap} {tk : Nat} (hk : ∀ b o, s.heap.get? b = some o → h'.get? b = some o) (htk : s.toks ≤ tk) :
    Inv C st ρ { s with heap := h', toks := tk } ∧ Le C st ρ s st ρ { s with heap := h', toks := tk } :=
  I.keepsT hC (fun b o e _ => hk b o e) (C.tb.stab _ _ I.tab fun a o e _ => hk a o e) htk

/-! judgements -/
abbrev RelT (α β : Type) := Heap → List Addr → (Addr → Prop) → α → β → Prop

def Post {α β : Type} (R : RelT α β) (C : Ctx) (st : St) (ρ : List Addr) (s : Shared) (Q : β → St → Prop) (v : α) (s' : Shared) : Prop :=
  ∃ d st' ρ', Inv C st' ρ' s' ∧ Le C st ρ s st' ρ' s' ∧ R s'.heap ρ' (Mut C st'.σ ρ') v d ∧ Q d st'

def NoE : Value → Shared → Prop := fun _ _ => False

def AG {α β : Type} (R : RelT α β) (C : Ctx) (t : Sem α) (st : St) (Q : β → St → Prop) : Prop :=
  ∀ s ρ, Inv C st ρ s → wpAny (model C.prog C.w) C.A t (Post R C st ρ s Q) NoE s

def BoolR : RelT Bool Bool := fun _ _ _ a b => a = b
inductive Fl where
  | next | brk | cont
  | ret (d : PV)
def FlR : RelT Flow Fl := fun h ρ O f g => match f, g with
  | .next, .next => True
  | .brk, .brk => True
  | .cont, .cont => True
  | .ret v, .ret d => Rep h ρ O v d
  | _, _ => False

abbrev AE (C : Ctx) (e : Expr) (st : St) (Q : PV → St → Prop) : Prop := AG Rep C (eval e C.env) st Q
abbrev AT (C : Ctx) (e : Expr) (st : St) (Q : Bool → St → Prop) : Prop := AG BoolR C (isTrue e C.env (eval e C.env)) st Q
abbrev AS (C : Ctx) (b : List Stmt) (st : St) (Q : Fl → St → Prop) : Prop := AG FlR C (execs b C.env) st Q
abbrev AX (C : Ctx) (b : Stmt) (st : St) (Q : Fl → St → Prop) : Prop := AG FlR C (exec b C.env) st Q

theorem Post.le {α β : Type} {R : RelT α β} {C : Ctx} {st st₁ : St} {ρ ρ₁ : List Addr} {s s₁ : Shared} {Q : β → St → Prop} (L : Le C st ρ s st₁ ρ₁ s₁) {v : α} {s' : Shared} (h : Post R C st₁ ρ₁ s₁ Q v s') : Post R C st ρ s Q v s' :=
  let ⟨d, st', ρ', h1, h2, h3, h4⟩ := h; ⟨d, st', ρ', h1, L.trans h2, h3, h4⟩

theorem AG.mono {α β : Type} {R : RelT α β} {C : Ctx} {t : Sem α} {st : St} {Q Q' : β → St → Prop} (h : AG R C t st Q) (hq : ∀ b st', Q b st' → Q' b st') : AG R C t st Q' :=
  fun s ρ I => wpAny_mono (h s ρ I) (fun _ _ ⟨d, st', ρ', h1, h2, h3, h4⟩ => ⟨d, st', ρ', h1, h2, h3, hq _ _ h4⟩) fun _ _ x => x

/-- to use a judgement inside a wpAny walk -/
theorem AG.use {α β : Type} {R : RelT α β} {C : Ctx} {t : Sem α} {st : St} {Q : β → St → Prop} {s : Shared} {ρ : List Addr} (h : AG R C t st Q) (I : Inv C st ρ s) {P : α → Shared → Prop}
    (k : ∀ a s' d st' ρ', Inv C st' ρ' s' → Le C st ρ s st' ρ' s' → R s'.heap ρ' (Mut C st'.σ ρ') a d → Q d st' → P a s') : wpAny (model C.prog C.w) C.A t P NoE s :=
  wpAny_mono (h s ρ I) (fun a s' ⟨d, st', ρ', h1, h2, h3, h4⟩ => k a s' d st' ρ' h1 h2 h3 h4) fun _ _ x => x

end Mine

end
section
open PySem PySem.W PyProof.Rows PySem.Calls
namespace Mine
set_option linter.all false

section
variable {C : Ctx} {st : St} {Q : PV → St → Prop}

/-- a global's value, told at the base -/
def GlobIs (h : Heap) (x : Str) (v : Value) : Prop :=
  ∃ mg mb, h.Ns mainGlobals mg ∧ h.Ns builtinsNs mb ∧ (mg x = some v ∨ (mg x = none ∧ mb x = some v))
theorem GlobIs.keeps {h h' : Heap} {x : Str} {v : Value} (g : GlobIs h x v) (hk : ∀ b o, h.get? b = some o → h'.get? b = some o) : GlobIs h' x v :=
  let ⟨mg, mb, a, b, c⟩ := g; ⟨mg, mb, a.keeps hk, b.keeps hk, c⟩

theorem AE_local (hC : Ok C) {x : Str} {pos : Pos} {d : PV} (hk : C.env.kindOf x = some .local) (hv : st.m.lookup x = some d) (h : Q d st)
    (hd : (x == ("__debug__" : Str)) = false := by decide) : AE C (.Name x pos) st Q := fun s ρ I => by
  obtain ⟨m, h1, h2⟩ := I.ns
  obtain ⟨v, e1, e2⟩ := h2 x d hv hk
  exact wpAny_Name (wpAny_loadName_local hC.kind hk h1 e1 ⟨d, st, ρ, I, .refl, e2, h⟩) hd

theorem AE_cell (hC : Ok C) {x : Str} {pos : Pos} {d : PV} {c : Addr} (hk : C.env.kindOf x = some .cell) (hc : C.env.cells.lookup x = some c) (hv : st.m.lookup x = some d) (h : Q d st)
    (hd : (x == ("__debug__" : Str)) = false := by decide) : AE C (.Name x pos) st Q := fun s ρ I => by
  obtain ⟨u, h1, h2⟩ := I.cell x c hc
  obtain ⟨v, e1, e2⟩ := h2 d hv hk
  subst e1
  exact wpAny_Name (wpAny_loadName_cell hC.kind hk hc h1 ⟨d, st, ρ, I, .refl, e2, h⟩) hd

theorem AE_global (hC : Ok C) {x : Str} {pos : Pos} {v : Value} (hk : C.env.kindOf x = some .globalImplicit) (hg : GlobIs C.s₀.heap x v) (h : Q (.val v) st)
    (hd : (x == ("__debug__" : Str)) = false := by decide) : AE C (.Name x pos) st Q := fun s ρ I => by
  obtain ⟨mg, mb, h1, h2, h3⟩ := hg.keeps I.keep
  refine Name_function_global hC.kind hk ?_ hd
  rcases h3 with h3 | ⟨h3, h4⟩
  · exact loadGlobal_global (by rw [hC.globals]; exact h1) h3 ⟨.val v, st, ρ, I, .refl, rfl, h⟩
  · exact loadGlobal_builtin (by rw [hC.globals]; exact h1) h3 (by rw [hC.builtins]; exact h2) h4 ⟨.val v, st, ρ, I, .refl, rfl, h⟩

theorem Inv.toks (hC : Ok C) {ρ : List Addr} {s : Shared} (I : Inv C st ρ s) {k : Nat} (hk : s.toks ≤ k) : Inv C st ρ { s with toks := k } ∧ Le C st ρ s st ρ { s with toks := k } :=
  I.keeps hC (h' := s.heap) (fun _ _ e => e) hk

theorem Inv.push (hC : Ok C) {ρ : List Addr} {s : Shared} (I : Inv C st ρ s) (o : Obj) : Inv C st ρ { s with heap := s.heap.push o } ∧ Le C st ρ s st ρ { s with heap := s.heap.push o } :=
  I.keeps hC (h' := s.heap.push o) (fun _ _ e => Heap.get?_push_of_some o e) (Nat.le_refl _)

/-- a value without an address -/
theorem Post.plain (hC : Ok C) {ρ : List Addr} {s : Shared} (I : Inv C st ρ s) {k : Nat} (hk : s.toks ≤ k) {v : Value} {d : PyData} (hr : Reads s.heap v d []) (h : Q (.dat d) st) (hd : nod d = true := by rfl) : Post Rep C st ρ s Q v { s with toks := k } :=
  ⟨.dat d, st, ρ, (I.toks hC hk).1, (I.toks hC hk).2, ⟨[], hr, (fun _ ha => nomatch ha), hd⟩, h⟩

theorem AE_int (hC : Ok C) {i : Int} {k : Nat} {pos : Pos} (h : Q (.dat (.int i)) st) : AE C (.Constant (.int i) k pos) st Q := fun s ρ I =>
  wpAny_Constant_int (I.toks hC (Nat.le_succ _) |> fun _ => Post.plain hC I (Nat.le_succ _) (.int i _) h)
theorem AE_str (hC : Ok C) {x : Str} {k : Nat} {pos : Pos} (h : Q (.dat (.str x)) st) : AE C (.Constant (.str x) k pos) st Q := fun s ρ I =>
  Constant_str (Post.plain hC I (Nat.le_succ _) (.str x _) h)
theorem AE_bool (hC : Ok C) {b : Bool} {k : Nat} {pos : Pos} (h : Q (.dat (.bool b)) st) : AE C (.Constant (.bool b) k pos) st Q := fun s ρ I =>
  wpAny_pure (Post.plain hC I (k := s.toks) (Nat.le_refl _) (.bool b) h)

def ABin (C : Ctx) (op : Operator) (da db : PV) (st : St) (Q : PV → St → Prop) : Prop :=
  ∀ a b s ρ, Inv C st ρ s → Rep s.heap ρ (Mut C st.σ ρ) a da → Rep s.heap ρ (Mut C st.σ ρ) b db → wpAny (model C.prog C.w) C.A (binaryOp op a b) (Post Rep C st ρ s Q) NoE s
def ACmp (C : Ctx) (op : CmpOp) (da db : PV) (st : St) (Q : PV → St → Prop) : Prop :=
  ∀ a b s ρ, Inv C st ρ s → Rep s.heap ρ (Mut C st.σ ρ) a da → Rep s.heap ρ (Mut C st.σ ρ) b db → wpAny (model C.prog C.w) C.A (compareOp op a b) (Post Rep C st ρ s Q) NoE s
def ATru (C : Ctx) (da : PV) (st : St) (Q : Bool → St → Prop) : Prop :=
  ∀ a s ρ, Inv C st ρ s → Rep s.heap ρ (Mut C st.σ ρ) a da → wpAny (model C.prog C.w) C.A (truthy a) (Post BoolR C st ρ s Q) NoE s
def AUn (C : Ctx) (op : UnaryOp) (da : PV) (st : St) (Q : PV → St → Prop) : Prop :=
  ∀ a s ρ, Inv C st ρ s → Rep s.heap ρ (Mut C st.σ ρ) a da → wpAny (model C.prog C.w) C.A (unaryOp op a) (Post Rep C st ρ s Q) NoE s

theorem AE_BinOp (hC : Ok C) {l r : Expr} {op : Operator} {pos : Pos} (h : AE C l st fun da st₁ => AE C r st₁ fun db st₂ => ABin C op da db st₂ Q) : AE C (.BinOp l op r pos) st Q := fun s ρ I =>
  wpAny_BinOp (h.use I fun a s₁ da st₁ ρ₁ I₁ L₁ r₁ h₁ => h₁.use I₁ fun b s₂ db st₂ ρ₂ I₂ L₂ r₂ h₂ =>
    wpAny_mono (h₂ a b s₂ ρ₂ I₂ (r₁.grow (I₁.grow hC L₂)) r₂) (fun _ _ p => (p.le L₂).le L₁) fun _ _ x => x)

theorem AE_Compare (hC : Ok C) {l r : Expr} {op : CmpOp} {pos : Pos} (h : AE C l st fun da st₁ => AE C r st₁ fun db st₂ => ACmp C op da db st₂ Q)
    (hm : behindInMarks op r = false := by with_unfolding_all rfl) : AE C (.Compare l [op] [r] pos) st Q := fun s ρ I =>
  wpAny_Compare1 (h.use I fun a s₁ da st₁ ρ₁ I₁ L₁ r₁ h₁ => h₁.use I₁ fun b s₂ db st₂ ρ₂ I₂ L₂ r₂ h₂ =>
    wpAny_mono (h₂ a b s₂ ρ₂ I₂ (r₁.grow (I₁.grow hC L₂)) r₂) (fun _ _ p => (p.le L₂).le L₁) fun _ _ x => x) hm

theorem AT_Compare (hC : Ok C) {Q : Bool → St → Prop} {l r : Expr} {op : CmpOp} {pos : Pos} (h : AE C l st fun da st₁ => AE C r st₁ fun db st₂ => ACmp C op da db st₂ fun dc st₃ => ATru C dc st₃ Q)
    (hm : behindInMarks op r = false := by with_unfolding_all rfl) : AT C (.Compare l [op] [r] pos) st Q := fun s ρ I =>
  wpAny_isTrue_Compare1 (h.use I fun a s₁ da st₁ ρ₁ I₁ L₁ r₁ h₁ => h₁.use I₁ fun b s₂ db st₂ ρ₂ I₂ L₂ r₂ h₂ =>
    wpAny_mono (h₂ a b s₂ ρ₂ I₂ (r₁.grow (I₁.grow hC L₂)) r₂) (fun c s₃ ⟨dc, st₃, ρ₃, I₃, L₃, r₃, h₃⟩ =>
      wpAny_mono (h₃ c s₃ ρ₃ I₃ r₃) (fun _ _ p => ((p.le L₃).le L₂).le L₁) fun _ _ x => x) fun _ _ x => x) hm

theorem ATru_bool {Q : Bool → St → Prop} {b : Bool} (h : Q b st) : ATru C (.dat (.bool b)) st Q := fun a s ρ I r => by
  obtain ⟨as, r, _⟩ := r
  cases r
  exact wpAny_truthy_bool ⟨b, st, ρ, I, .refl, rfl, h⟩
theorem ATru_none {Q : Bool → St → Prop} (h : Q false st) : ATru C (.dat .none) st Q := fun a s ρ I r => by
  obtain ⟨as, r, _⟩ := r
  cases r
  exact wpAny_pure ⟨false, st, ρ, I, .refl, rfl, h⟩

theorem AT_not {Q : Bool → St → Prop} {x : Expr} {pos : Pos} (h : AT C x st fun b st₁ => Q (!b) st₁) : AT C (.UnaryOp .Not x pos) st Q := fun s ρ I => by
  show wpAny _ _ (isTrue x C.env (eval x C.env) >>= fun b => pure !b) _ _ s
  exact wpAny_bind (h.use I fun a s₁ b st₁ ρ₁ I₁ L₁ r₁ h₁ => wpAny_pure ⟨_, st₁, ρ₁, I₁, L₁, congrArg not r₁, h₁⟩)

def AAll (C : Ctx) (op : BoolOp) (es : List Expr) (st : St) (Q : Bool → St → Prop) : Prop := AG BoolR C (allTrue op es C.env) st Q
theorem AT_BoolOp {Q : Bool → St → Prop} {op : BoolOp} {es : List Expr} {pos : Pos} (h : AAll C op es st Q) : AT C (.BoolOp op es pos) st Q := h
theorem AAll_nil {Q : Bool → St → Prop} {op : BoolOp} (h : Q (op == .And) st) : AAll C op [] st Q := fun s ρ I => wpAny_pure ⟨_, st, ρ, I, .refl, rfl, h⟩
theorem AAll_or {Q : Bool → St → Prop} {e : Expr} {es : List Expr} (h : AT C e st fun b st₁ => if b then Q true st₁ else AAll C .Or es st₁ Q) : AAll C .Or (e :: es) st Q := fun s ρ I => by
  show wpAny _ _ (isTrue e C.env (eval e C.env) >>= fun b => match BoolOp.Or, b with | .And, false => pure false | .Or, true => pure true | _, _ => allTrue .Or es C.env) _ _ s
  refine wpAny_bind (h.use I fun a s₁ b st₁ ρ₁ I₁ L₁ r₁ h₁ => ?_)
  have e : a = b := r₁
  subst e
  cases a with
  | true => exact wpAny_pure ⟨true, st₁, ρ₁, I₁, L₁, rfl, h₁⟩
  | false => exact wpAny_mono (h₁ s₁ ρ₁ I₁) (fun _ _ p => p.le L₁) fun _ _ x => x

/-- a test that is a plain value -/
theorem AT_plain {Q : Bool → St → Prop} {e : Expr} (h : AE C e st fun d st₁ => ATru C d st₁ Q)
    (he : ∀ whole, isTrue e C.env whole = (do let v ← whole; standAt e.pos; holding [v] (truthy v)) := by intro _; rfl) : AT C e st Q := fun s ρ I => by
  rw [he]
  exact wpAny_bind (h.use I fun a s₁ d st₁ ρ₁ I₁ L₁ r₁ h₁ => wpAny_bind (wpAny_standAt (wpAny_holding (wpAny_mono (h₁ a s₁ ρ₁ I₁ r₁) (fun _ _ p => p.le L₁) fun _ _ x => x))))

def ABo (C : Ctx) (op : BoolOp) (pos : Pos) (es : List Expr) (st : St) (Q : PV → St → Prop) : Prop := AG Rep C (boolOp pos op (evalEach es C.env)) st Q
theorem AE_BoolOp {op : BoolOp} {es : List Expr} {pos : Pos} (h : ABo C op pos es st Q) : AE C (.BoolOp op es pos) st Q := h
theorem ABo_last {op : BoolOp} {pos : Pos} {e : Expr} (h : AE C e st Q) : ABo C op pos [e] st Q := h
theorem ABo_and (hC : Ok C) {pos : Pos} {e e' : Expr} {es : List Expr} (h : AE C e st fun d st₁ => ATru C d st₁ fun b st₂ => if b then ABo C .And pos (e' :: es) st₂ Q else Q d st₂) : ABo C .And pos (e :: e' :: es) st Q := fun s ρ I => by
  show wpAny _ _ (eval e C.env >>= fun v => standAt pos >>= fun _ => holding [v] (truthy v) >>= fun t => match BoolOp.And, t with | .And, false => pure v | .Or, true => pure v | _, _ => boolOp pos .And (evalEach (e' :: es) C.env)) _ _ s
  refine wpAny_bind (h.use I fun a s₁ d st₁ ρ₁ I₁ L₁ r₁ h₁ => wpAny_bind (wpAny_standAt (wpAny_bind (wpAny_holding (wpAny_mono (h₁ a s₁ ρ₁ I₁ r₁) (fun t s₂ ⟨b, st₂, ρ₂, I₂, L₂, r₂, h₂⟩ => ?_) fun _ _ x => x)))))
  have e : t = b := r₂
  subst e
  cases t with
  | false => exact wpAny_pure ⟨d, st₂, ρ₂, I₂, L₁.trans L₂, r₁.grow (I₁.grow hC L₂), h₂⟩
  | true => exact wpAny_mono (h₂ s₂ ρ₂ I₂) (fun _ _ p => (p.le L₂).le L₁) fun _ _ x => x
theorem AE_Unary (hC : Ok C) {op : UnaryOp} {x : Expr} {pos : Pos} (h : AE C x st fun d st₁ => AUn C op d st₁ Q) : AE C (.UnaryOp op x pos) st Q := fun s ρ I => by
  show wpAny _ _ (eval x C.env >>= fun v => standAt pos >>= fun _ => holding [v] (unaryOp op v)) _ _ s
  exact wpAny_bind (h.use I fun a s₁ d st₁ ρ₁ I₁ L₁ r₁ h₁ => wpAny_bind (wpAny_standAt (wpAny_holding (wpAny_mono (h₁ a s₁ ρ₁ I₁ r₁) (fun _ _ p => p.le L₁) fun _ _ x => x))))
end

/-! statements -/
section
variable {C : Ctx} {st : St} {Q : Fl → St → Prop}

theorem AS_nil (h : Q .next st) : AS C [] st Q := fun s ρ I => wpAny_execs_nil ⟨.next, st, ρ, I, .refl, trivial, h⟩

def SeqQ (C : Ctx) (rest : List Stmt) (Q : Fl → St → Prop) (f : Fl) (st₁ : St) : Prop := match f with | .next => AS C rest st₁ Q | f => Q f st₁
theorem SeqQ.next {rest : List Stmt} (h : AS C rest st Q) : SeqQ C rest Q .next st := h
theorem SeqQ.ret {rest : List Stmt} {d : PV} (h : Q (.ret d) st) : SeqQ C rest Q (.ret d) st := h
theorem AS_cons {x : Stmt} {rest : List Stmt} (h : AX C x st (SeqQ C rest Q)) : AS C (x :: rest) st Q := fun s ρ I =>
  wpAny_execs_cons (h.use I fun f s₁ g st₁ ρ₁ I₁ L₁ r₁ h₁ => by
    cases f <;> cases g <;> first
      | exact r₁.elim
      | exact wpAny_mono (h₁ s₁ ρ₁ I₁) (fun _ _ p => p.le L₁) fun _ _ x => x
      | exact ⟨_, st₁, ρ₁, I₁, L₁, r₁, h₁⟩)

theorem AX_If {t : Expr} {b o : List Stmt} {pos : Pos} (h : AT C t st fun c st₁ => if c then AS C b st₁ Q else AS C o st₁ Q) : AX C (.If t b o pos) st Q := fun s ρ I =>
  wpAny_If (h.use I fun a s₁ c st₁ ρ₁ I₁ L₁ r₁ h₁ => by
    have e : a = c := r₁
    subst e
    cases a with
    | false => exact wpAny_mono (h₁ s₁ ρ₁ I₁) (fun _ _ p => p.le L₁) fun _ _ x => x
    | true => exact wpAny_mono (h₁ s₁ ρ₁ I₁) (fun _ _ p => p.le L₁) fun _ _ x => x)

theorem AX_Return {e : Expr} {pos : Pos} (h : AE C e st fun d st₁ => Q (.ret d) st₁) : AX C (.Return (some e) pos) st Q := fun s ρ I =>
  wpAny_Return_some (h.use I fun _ _ d st₁ ρ₁ I₁ L₁ r₁ h₁ => ⟨.ret d, st₁, ρ₁, I₁, L₁, r₁, h₁⟩)

def St.set (st : St) (x : Str) (d : PV) : St := { st with m := (x, d) :: st.m }

def ASt (C : Ctx) (x : Str) (d : PV) (st : St) (Q : St → Prop) : Prop :=
  ∀ v s ρ, Inv C st ρ s → Rep s.heap ρ (Mut C st.σ ρ) v d → wpAny (model C.prog C.w) C.A (storeName C.env x v) (fun _ s' => ∃ st' ρ', Inv C st' ρ' s' ∧ Le C st ρ s st' ρ' s' ∧ Q st') NoE s

theorem lookup_set {m : List (Str × PV)} {x y : Str} {d : PV} : List.lookup y ((x, d) :: m) = if y = x then some d else m.lookup y := by
  rw [List.lookup_cons]
  by_cases h : y = x
  · subst h; simp
  · have : (y == x) = false := by simpa using h
    rw [this, if_neg h]

theorem ASt_local (hC : Ok C) {x : Str} {d : PV} {Q : St → Prop} (hk : C.env.kindOf x = some .local) (h : Q (st.set x d)) : ASt C x d st Q := fun v s ρ I r => by
  obtain ⟨m, hn, hm⟩ := I.ns
  refine wpAny_storeName_local hk hn (fun h' hn' hs' => ?_) (by rw [hC.kind]; rfl)
  have hLe : Le C st ρ s (st.set x d) ρ { s with heap := h', toks := s.toks + 1 } :=
    ⟨fun a o e n => ⟨(hs'.2 a (fun q => n (.inl q))).trans e, n⟩, fun _ _ e => e, fun a o e => by
      by_cases q : a = C.env.locals
      · obtain ⟨o', _, _, h1, _⟩ := hn'; exact ⟨o', q ▸ h1⟩
      · exact ⟨o, (hs'.2 a q).trans e⟩⟩
  have g := I.grow hC hLe
  have htab : C.tb.ok h' := C.tb.stab _ _ I.tab fun a o e hf => (hs'.2 a (fun q => by
    obtain ⟨o2, es, ep, g4, g5, _⟩ := hn
    obtain ⟨_, vs, g6⟩ := hf
    rw [q, g4] at e; cases e
    rw [g5] at g6; cases g6)).trans e
  refine ⟨st.set x d, ρ, ⟨?_, ?_, Nat.le_succ_of_le I.tok, ?_, ?_, ?_, I.inj, I.len, htab⟩, hLe, h⟩
  · obtain ⟨h₁, tk, e⟩ := I.same; exact ⟨h', _, by rw [e]⟩
  · intro b o e
    exact (hs'.2 b (fun q => by rw [q, hC.fresh] at e; cases e)).trans (I.keep b o e)
  · refine ⟨_, hn', fun y dy e ky => ?_⟩
    rw [St.set, lookup_set] at e
    by_cases hy : y = x
    · rw [if_pos hy] at e; cases e
      exact ⟨v, if_pos hy, r.grow g⟩
    · rw [if_neg hy] at e
      obtain ⟨v', e1, e2⟩ := hm y dy e ky
      exact ⟨v', by rw [if_neg hy]; exact e1, e2.grow g⟩
  · intro y c hc
    obtain ⟨u, hu, hd⟩ := I.cell y c hc
    refine ⟨u, hu.sameBut hs' (fun q => ?_), fun dy e ky => ?_⟩
    · obtain ⟨o1, g1, g2⟩ := hu
      obtain ⟨o2, es, ep, g3, g4, _⟩ := hn
      rw [q, g3] at g1; cases g1
      rw [g4] at g2; cases g2
    · rw [St.set, lookup_set] at e
      by_cases hy : y = x
      · rw [hy, hk] at ky; cases ky
      · rw [if_neg hy] at e
        obtain ⟨v', e1, e2⟩ := hd dy e ky
        exact ⟨v', e1, e2.grow g⟩
  · intro i l hi
    obtain ⟨a, vs, e1, ⟨n, g1⟩, e3, e4⟩ := I.own i l hi
    refine ⟨a, vs, e1, ⟨n, (hs'.2 a (fun q => ?_)).trans g1⟩, e3.grow g, e4⟩
    obtain ⟨o2, es, ep, g4, g5, _⟩ := hn
    rw [q, g4] at g1; cases g1
    cases g5

theorem ASt_cell (hC : Ok C) {x : Str} {d : PV} {c : Addr} {Q : St → Prop} (hk : C.env.kindOf x = some .cell) (hc : C.env.cells.lookup x = some c) (hf : C.s₀.heap.get? c = none) (h : Q (st.set x d)) : ASt C x d st Q := fun v s ρ I r => by
  obtain ⟨u, hu, hd⟩ := I.cell x c hc
  refine wpAny_storeName_cell hC.kind hk hc hu fun h' hu' hs' => ?_
  have hLe : Le C st ρ s (st.set x d) ρ { s with heap := h' } :=
    ⟨fun a o e n => ⟨(hs'.2 a (fun q => n (.inr (.inl ⟨x, q ▸ hc⟩)))).trans e, n⟩, fun _ _ e => e, fun a o e => by
      by_cases q : a = c
      · obtain ⟨o', h1, _⟩ := hu'; exact ⟨o', q ▸ h1⟩
      · exact ⟨o, (hs'.2 a q).trans e⟩⟩
  have g := I.grow hC hLe
  have htab : C.tb.ok h' := C.tb.stab _ _ I.tab fun a o e hf => (hs'.2 a (fun q => by
    obtain ⟨o2, g4, g5⟩ := hu
    obtain ⟨_, vs, g6⟩ := hf
    rw [q, g4] at e; cases e
    rw [g5] at g6; cases g6)).trans e
  refine ⟨st.set x d, ρ, ⟨?_, ?_, I.tok, ?_, ?_, ?_, I.inj, I.len, htab⟩, hLe, h⟩
  · obtain ⟨h₁, tk, e⟩ := I.same; exact ⟨h', tk, by rw [e]⟩
  · intro b o e
    exact (hs'.2 b (fun q => by rw [q, hf] at e; cases e)).trans (I.keep b o e)
  · obtain ⟨m, hn, hm⟩ := I.ns
    refine ⟨m, hn.sameBut hs' (fun q => ?_), fun y dy e ky => ?_⟩
    · obtain ⟨o1, g1, g2⟩ := hu
      obtain ⟨o2, es, ep, g3, g4, _⟩ := hn
      rw [q, g1] at g3; cases g3
      rw [g4] at g2; cases g2
    · rw [St.set, lookup_set] at e
      by_cases hy : y = x
      · rw [hy, hk] at ky; cases ky
      · rw [if_neg hy] at e
        obtain ⟨v', e1, e2⟩ := hm y dy e ky
        exact ⟨v', e1, e2.grow g⟩
  · intro y cy hcy
    by_cases hy : y = x
    · subst hy
      rw [hc] at hcy; cases hcy
      refine ⟨some v, hu', fun dy e ky => ?_⟩
      rw [St.set, lookup_set, if_pos rfl] at e; cases e
      exact ⟨v, rfl, r.grow g⟩
    · obtain ⟨u', h1, h2⟩ := I.cell y cy hcy
      refine ⟨u', h1.sameBut hs' (fun q => hy (hC.capart _ _ _ hcy (q ▸ hc))), fun dy e ky => ?_⟩
      rw [St.set, lookup_set, if_neg hy] at e
      obtain ⟨v', e1, e2⟩ := h2 dy e ky
      exact ⟨v', e1, e2.grow g⟩
  · intro i l hi
    obtain ⟨a, vs, e1, ⟨n, g1⟩, e3, e4⟩ := I.own i l hi
    refine ⟨a, vs, e1, ⟨n, (hs'.2 a (fun q => ?_)).trans g1⟩, e3.grow g, e4⟩
    obtain ⟨o1, g4, g5⟩ := hu
    rw [q, g4] at g1; cases g1
    cases g5

theorem AX_Assign {x : Str} {pos' pos : Pos} {e : Expr} (h : AE C e st fun d st₁ => ASt C x d st₁ fun st₂ => Q .next st₂)
    (hs : swapsWith e (some (.Name x pos')) pos.line C.env = pure false := by rfl) : AX C (.Assign [.Name x pos'] e pos) st Q := fun s ρ I =>
  wpAny_Assign_Name (h.use I fun v s₁ d st₁ ρ₁ I₁ L₁ r₁ h₁ => wpAny_mono (h₁ v s₁ ρ₁ I₁ r₁) (fun _ s₂ ⟨st₂, ρ₂, I₂, L₂, h₂⟩ => ⟨.next, st₂, ρ₂, I₂, L₁.trans L₂, trivial, h₂⟩) fun _ _ x => x) hs

/-- what is known less of -/
def Wk (st st' : St) : Prop := st'.σ = st.σ ∧ ∀ x d, st'.m.lookup x = some d → st.m.lookup x = some d
theorem Inv.weak {st' : St} {ρ : List Addr} {s : Shared} (I : Inv C st ρ s) (h : Wk st st') : Inv C st' ρ s := by
  obtain ⟨m, σ⟩ := st
  obtain ⟨m', σ'⟩ := st'
  obtain ⟨e, hw⟩ := h
  dsimp only at e hw
  subst e
  exact ⟨I.same, I.keep, I.tok, let ⟨n, a, b⟩ := I.ns; ⟨n, a, fun x d e k => b x d (hw x d e) k⟩, fun x c hc => let ⟨u, a, b⟩ := I.cell x c hc; ⟨u, a, fun d e k => b d (hw x d e) k⟩, I.own, I.inj, I.len, I.tab⟩
theorem Le.weak {st' st₁ : St} {ρ ρ₁ : List Addr} {s s₁ : Shared} (L : Le C st₁ ρ₁ s₁ st ρ s) (h : Wk st st') : Le C st₁ ρ₁ s₁ st' ρ s := by
  obtain ⟨m, σ⟩ := st
  obtain ⟨m', σ'⟩ := st'
  obtain ⟨e, hw⟩ := h
  dsimp only at e hw
  subst e
  exact ⟨L.keep, L.rho, L.ex⟩
theorem AG.weak {α β : Type} {R : RelT α β} {t : Sem α} {st' : St} {Q : β → St → Prop} (hw : Wk st st') (h : AG R C t st' Q) : AG R C t st Q := fun s ρ I =>
  wpAny_mono (h s ρ (I.weak hw)) (fun _ _ p => p.le (Le.weak .refl hw)) fun _ _ x => x

theorem Wk.of {m m' : List (Str × PV)} {σ : List (Option (List PV))} (h : ∀ x d, m'.lookup x = some d → m.lookup x = some d) : Wk ⟨m, σ⟩ ⟨m', σ⟩ := ⟨rfl, h⟩
theorem lk_nil {m : List (Str × PV)} : ∀ x d, ([] : List (Str × PV)).lookup x = some d → m.lookup x = some d := fun _ _ h => nomatch h
theorem lk_cons {m m' : List (Str × PV)} {x : Str} {d : PV} (h : m.lookup x = some d) (hr : ∀ x d, m'.lookup x = some d → m.lookup x = some d) : ∀ y e, ((x, d) :: m').lookup y = some e → m.lookup y = some e := fun y e hy => by
  rw [lookup_set] at hy
  by_cases q : y = x
  · rw [if_pos q] at hy; cases hy; rw [q]; exact h
  · rw [if_neg q] at hy; exact hr y e hy

theorem noE_noted {M : Model} {A : Around} {env : Env} {E : Value → Shared → Prop} : ∀ e s, NoE e s → notedBy M A env E e s := fun _ _ x => x.elim

end
end Mine

end
section
open PySem PySem.W PyProof.Rows PySem.Calls
namespace Mine
set_option linter.all false

/-! one object changed that no datum reads -/
def Odd (o : Obj) : Prop := (∃ es n, o.data = .dict es n) ∨ ∃ vs ty, o.data = .fields vs ∧ o.cls = .type ty ∧ ty ≠ "re.Match" ∧ ty ≠ "range" ∧ ty ≠ "code"
theorem Odd.firm {o : Obj} (h : Odd o) (hf : Firm o) : False := by
  obtain ⟨h1, vs, h2⟩ := hf
  rcases h with ⟨_, _, q⟩ | ⟨_, ty, q, e, _, _, ne⟩
  · rw [h2] at q; cases q
  · rcases h1 with h1 | h1
    · rw [h1] at e; cases e
    · rw [h1] at e; cases e; exact ne rfl
theorem Odd.seq {o : Obj} (h : Odd o) {vs : Array Value} {n : Nat} (e : o.data = .seq vs n) : False := by
  rcases h with ⟨_, _, q⟩ | ⟨_, _, q, _⟩ <;> (rw [e] at q; cases q)

theorem reads_but {h h' : Heap} {I : Addr} {oI : Obj} (hI : h.get? I = some oI) (hodd : Odd oI) (hk : ∀ a o, a ≠ I → h.get? a = some o → h'.get? a = some o)
    {v : Value} {d : PyData} {as : List Addr} (r : Reads h v d as) : nod d = true → Reads h' v d as := by
  have key : ∀ {a : Addr} {o : Obj} {vs : Array Value} {n : Nat}, h.get? a = some o → o.data = .seq vs n → h'.get? a = some o := fun h1 h3 => hk _ _ (fun e => by rw [e, hI] at h1; cases h1; exact hodd.seq h3) h1
  refine Reads.rec (motive_1 := fun v d as _ => nod d = true → Reads h' v d as) (motive_2 := fun vs ds as _ => nodAll ds = true → ReadsAll h' vs ds as)
    (fun _ => .none) (fun b _ => .bool b) (fun i t _ => .int i t) (fun x t _ => .str x t) (fun h1 h2 h3 _ ih hd => .list (key h1 h3) h2 h3 (ih hd)) (fun h1 h2 h3 _ ih hd => .tuple (key h1 h3) h2 h3 (ih hd)) (fun _ _ _ _ _ _ _ hd => nomatch hd) (fun _ => .nil)
    (fun _ _ ih ih' hd => .cons (ih (Bool.and_eq_true_iff.mp hd).1) (ih' (Bool.and_eq_true_iff.mp hd).2)) r
theorem Rep.but {h h' : Heap} {ρ : List Addr} {O : Addr → Prop} {I : Addr} {oI : Obj} (hI : h.get? I = some oI) (hodd : Odd oI) (hk : ∀ a o, a ≠ I → h.get? a = some o → h'.get? a = some o) {v : Value} {d : PV} (r : Rep h ρ O v d) : Rep h' ρ O v d := by
  have key : ∀ {a : Addr} {o : Obj}, h.get? a = some o → ¬ Odd o → h'.get? a = some o := fun h1 n => hk _ _ (fun e => by rw [e, hI] at h1; cases h1; exact n hodd) h1
  cases d with
  | dat d =>
    obtain ⟨as, r, n, hd⟩ := r
    exact ⟨as, reads_but hI hodd hk r hd, n, hd⟩
  | own i => exact r
  | val u => exact r
  | mt x sp =>
    obtain ⟨a, o, t, pv, p, l, li, b, e, ho, hc, hd, ob, hb, hbc, n, hbd⟩ := r
    refine ⟨a, o, t, pv, p, l, li, b, e, key ho ?_, hc, hd, ob, key hb fun q => q.seq hbd, hbc, n, hbd⟩
    rintro (⟨_, _, q⟩ | ⟨_, _, _, e, ne, _⟩)
    · rw [hd] at q; cases q
    · rw [hc.1] at e; cases e; exact ne rfl
  | rng a b c =>
    obtain ⟨r, t, u, q, e, ho⟩ := r
    refine ⟨r, t, u, q, e, key ho ?_⟩
    rintro (⟨_, _, q⟩ | ⟨_, _, _, e, _, ne, _⟩)
    · cases q
    · cases e; exact ne rfl
  | lam params body scope qual =>
    obtain ⟨a, c, nm, pm, ct, oc, vs, t, e, ho, hoc, h1, h2, h3⟩ := r
    refine ⟨a, c, nm, pm, ct, oc, vs, t, e, key ho ?_, key hoc ?_, h1, h2, h3⟩
    · rintro (⟨_, _, q⟩ | ⟨_, _, q, _⟩) <;> cases q
    · rintro (⟨_, _, q⟩ | ⟨_, _, _, e, _, _, ne⟩)
      · rw [h2] at q; cases q
      · rw [h1] at e; cases e; exact ne rfl
theorem RepAll.but {h h' : Heap} {ρ : List Addr} {O : Addr → Prop} {I : Addr} {oI : Obj} (hI : h.get? I = some oI) (hodd : Odd oI) (hk : ∀ a o, a ≠ I → h.get? a = some o → h'.get? a = some o) :
    ∀ {vs : List Value} {ds : List PV}, RepAll h ρ O vs ds → RepAll h' ρ O vs ds
  | [], [], _ => trivial
  | _ :: _, _ :: _, ⟨a, b⟩ => ⟨a.but hI hodd hk, b.but hI hodd hk⟩
  | [], _ :: _, h => h.elim
  | _ :: _, [], h => h.elim

theorem Inv.but {C : Ctx} {st : St} {ρ : List Addr} {s : Shared} (J : Inv C st ρ s) {I : Addr} {oI : Obj} (hI : s.heap.get? I = some oI) (hodd : Odd oI) (hm : ¬ Mut C st.σ ρ I) (hb : C.s₀.heap.get? I = none)
    {h' : Heap} {tk : Nat} (hk : ∀ a o, a ≠ I → s.heap.get? a = some o → h'.get? a = some o) (htk : s.toks ≤ tk) : Inv C st ρ { s with heap := h', toks := tk } := by
  refine ⟨?_, fun b o e => hk b o (by rintro rfl; rw [hb] at e; cases e) (J.keep b o e), Nat.le_trans J.tok htk, ?_, ?_, ?_, J.inj, J.len, C.tb.stab _ _ J.tab fun a o e hf => hk a o (fun q => by rw [q, hI] at e; cases e; exact hodd.firm hf) e⟩
  · obtain ⟨h, tk', e⟩ := J.same; exact ⟨h', tk, by rw [e]⟩
  · obtain ⟨m, h1, h2⟩ := J.ns
    refine ⟨m, ?_, fun x d e k => let ⟨v, e1, e2⟩ := h2 x d e k; ⟨v, e1, e2.but hI hodd hk⟩⟩
    obtain ⟨o, es, ep, g1, g2⟩ := h1
    exact ⟨o, es, ep, hk _ _ (fun q => hm (.inl q.symm)) g1, g2⟩
  · intro x c hx
    obtain ⟨u, ⟨o, g1, g2⟩, h2⟩ := J.cell x c hx
    exact ⟨u, ⟨o, hk _ _ (fun q => hm (.inr (.inl ⟨x, q ▸ hx⟩))) g1, g2⟩, fun d e k => let ⟨v, e1, e2⟩ := h2 d e k; ⟨v, e1, e2.but hI hodd hk⟩⟩
  · intro i l hi
    obtain ⟨a, vs, e1, ⟨n, g1⟩, e3, e4⟩ := J.own i l hi
    exact ⟨a, vs, e1, ⟨n, hk _ _ (fun q => hm (.inr (.inr (.inr ⟨i, l, hi, q ▸ e1⟩)))) g1⟩, e3.but hI hodd hk, e4⟩

/-! items of a read list -/
theorem readsAll_len {h : Heap} : ∀ {vs : List Value} {ds : List PyData} {as : List Addr}, ReadsAll h vs ds as → vs.length = ds.length
  | _, _, _, .nil => rfl
  | _, _, _, .cons _ h2 => by rw [List.length_cons, List.length_cons, readsAll_len h2]
theorem readsAll_get {h : Heap} : ∀ {vs : List Value} {ds : List PyData} {as : List Addr}, ReadsAll h vs ds as → ∀ (i : Nat) (v : Value), vs[i]? = some v → ∃ d bs, ds[i]? = some d ∧ Reads h v d bs ∧ ∀ a ∈ bs, a ∈ as
  | _, _, _, .nil, i, v, e => by simp at e
  | _, _, _, .cons h1 h2, 0, v, e => by
    simp at e; subst e
    exact ⟨_, _, rfl, h1, fun a ha => List.mem_append_left _ ha⟩
  | _, _, _, .cons h1 h2, i + 1, v, e => by
    simp at e
    obtain ⟨d, bs, e1, e2, e3⟩ := readsAll_get h2 i v e
    exact ⟨d, bs, by simpa using e1, e2, fun a ha => List.mem_append_right _ (e3 a ha)⟩
theorem readsAll_getD {h : Heap} {vs : List Value} {ds : List PyData} {as : List Addr} (r : ReadsAll h vs ds as) (i : Nat) (d : PyData) (e : ds[i]? = some d) : ∃ v bs, vs[i]? = some v ∧ Reads h v d bs ∧ ∀ a ∈ bs, a ∈ as := by
  have hl := readsAll_len r
  have hi : i < vs.length := by rw [hl]; exact (List.getElem?_eq_some_iff.mp e).1
  obtain ⟨d', bs, e1, e2, e3⟩ := readsAll_get r i vs[i] (by simp [hi])
  rw [e] at e1; cases e1
  exact ⟨_, bs, by simp [hi], e2, e3⟩

theorem nodAll_get : ∀ {ds : List PyData}, nodAll ds = true → ∀ (i : Nat) (d : PyData), ds[i]? = some d → nod d = true
  | [], _, i, d, e => by simp at e
  | x :: r, h, 0, d, e => by simp at e; subst e; exact (Bool.and_eq_true_iff.mp h).1
  | x :: r, h, i + 1, d, e => by simp at e; exact nodAll_get (Bool.and_eq_true_iff.mp h).2 i d e
/-! iterators -/
def strItems (x : Str) : List PyData := x.cps.toList.map fun c => .str ⟨#[c]⟩
def rngItems (a b c : Int) : List PyData := (List.range (Builtin.Range.rangeSize a b c).toNat).map fun k : Nat => .int (a + k * c)

inductive ItAt (O : Addr → Prop) (h : Heap) (I : Addr) : List PyData → Prop
  | list {l i xs as rest} : h.IsListIter I l i → Reads h (.ref l) (.list xs) as → ((∀ a ∈ as, ¬ O a) ∧ nodAll xs = true) → rest = xs.drop i → ItAt O h I rest
  | tuple {l i xs as rest} : h.IsTupleIter I l i → Reads h (.ref l) (.tuple xs) as → ((∀ a ∈ as, ¬ O a) ∧ nodAll xs = true) → rest = xs.drop i → ItAt O h I rest
  | strA {x t i rest} : h.IsStrIter I "str_ascii_iterator" x t i → rest = (x.cps.toList.drop i).map (fun c => PyData.str ⟨#[c]⟩) → ItAt O h I rest
  | strW {x t i rest} : h.IsStrIter I "str_iterator" x t i → rest = (x.cps.toList.drop i).map (fun c => PyData.str ⟨#[c]⟩) → ItAt O h I rest
  | range {x left step rest} : IsRangeIter h I x left step → rest = (List.range left.toNat).map (fun k : Nat => PyData.int (x + k * step)) → ItAt O h I rest

def loose : List String := ["list_iterator", "tuple_iterator", "str_ascii_iterator", "str_iterator", "range_iterator"]
theorem ItAt.obj {O : Addr → Prop} {h : Heap} {I : Addr} {r : List PyData} (x : ItAt O h I r) : ∃ o vs ty, h.get? I = some o ∧ o.data = .fields vs ∧ o.cls = .type ty ∧ ty ∈ loose := by
  cases x with
  | list a _ _ _ => obtain ⟨o, a, b, c⟩ := a; exact ⟨o, _, _, a, c, b, by decide⟩
  | tuple a _ _ _ => obtain ⟨o, a, b, c⟩ := a; exact ⟨o, _, _, a, c, b, by decide⟩
  | strA a _ => obtain ⟨o, a, b, c⟩ := a; exact ⟨o, _, _, a, c, b, by decide⟩
  | strW a _ => obtain ⟨o, a, b, c⟩ := a; exact ⟨o, _, _, a, c, b, by decide⟩
  | range a _ => exact ⟨_, _, "range_iterator", a, rfl, rfl, by decide⟩
theorem ItAt.odd {O : Addr → Prop} {h : Heap} {I : Addr} {r : List PyData} (x : ItAt O h I r) : ∃ o, h.get? I = some o ∧ Odd o := by
  obtain ⟨o, vs, ty, a, b, c, d⟩ := x.obj
  refine ⟨o, a, .inr ⟨vs, ty, b, c, ?_, ?_, ?_⟩⟩
  · rintro rfl; exact absurd d (by decide)
  · rintro rfl; exact absurd d (by decide)
  · rintro rfl; exact absurd d (by decide)

theorem ItAt.grow {h h' : Heap} {ρ ρ' : List Addr} {O O' : Addr → Prop} (g : Grow h ρ O h' ρ' O') {I : Addr} (hI : ¬ O I) {r : List PyData} (x : ItAt O h I r) : ItAt O' h' I r := by
  have up : ∀ {d : PyData} {v : Value} {as : List Addr}, Reads h v d as → (∀ a ∈ as, ¬ O a) → Reads h' v d as ∧ ∀ a ∈ as, ¬ O' a := fun r n =>
    ⟨reads_step g.soft (fun a o e q => (g.keep a o e q).1) r n, fun a ha => by obtain ⟨o, ho⟩ := reads_has r a ha; exact (g.keep a o ho (n a ha)).2⟩
  cases x with
  | list a b c d => obtain ⟨o, a1, a2⟩ := a; exact .list ⟨o, (g.keep _ _ a1 hI).1, a2⟩ (up b c.1).1 ⟨(up b c.1).2, c.2⟩ d
  | tuple a b c d => obtain ⟨o, a1, a2⟩ := a; exact .tuple ⟨o, (g.keep _ _ a1 hI).1, a2⟩ (up b c.1).1 ⟨(up b c.1).2, c.2⟩ d
  | strA a d => obtain ⟨o, a1, a2⟩ := a; exact .strA ⟨o, (g.keep _ _ a1 hI).1, a2⟩ d
  | strW a d => obtain ⟨o, a1, a2⟩ := a; exact .strW ⟨o, (g.keep _ _ a1 hI).1, a2⟩ d
  | range a d => exact .range (g.keep _ _ a hI).1 d

section
variable {prog : Program} {w : World} {A : Around} {E : Value → Shared → Prop} {s : Shared} {O : Addr → Prop} {ρ : List Addr} {I : Addr}

theorem drop_cons {α : Type} {xs : List α} {i : Nat} {x : α} {r : List α} (e : x :: r = xs.drop i) : xs[i]? = some x ∧ r = xs.drop (i + 1) := by
  have h1 : (xs.drop i)[0]? = some x := by rw [← e]; rfl
  refine ⟨by simpa using h1, ?_⟩
  have := congrArg (List.drop 1) e
  simpa [List.drop_drop, Nat.add_comm] using this
theorem drop_nil {α : Type} {xs : List α} {i : Nat} (e : [] = xs.drop i) : xs[i]? = none := by
  have := congrArg List.length e
  simp at this
  simp; omega

theorem range_cons {n : Nat} {x step : Int} : (List.range (n + 1)).map (fun k : Nat => PyData.int (x + k * step)) = PyData.int x :: (List.range n).map (fun k : Nat => PyData.int (x + step + k * step)) := by
  rw [List.range_succ_eq_map, List.map_cons, List.map_map]
  congr 1
  · simp
  · apply List.map_congr_left
    intro k _
    simp only [Function.comp]
    congr 1
    push_cast
    rw [Int.add_mul, Int.one_mul]
    omega

theorem ItAt.next {x : PyData} {r : List PyData} (it : ItAt O s.heap I (x :: r)) {Q : Option Value → Shared → Prop}
    (hQ : ∀ v h' tk, Rep h' ρ O v (.dat x) → ItAt O h' I r → (∀ a o, a ≠ I → s.heap.get? a = some o → h'.get? a = some o) → s.toks ≤ tk → Q (some v) { s with heap := h', toks := tk }) :
    wpAny (model prog w) A (pyNext (.ref I)) Q E s := by
  obtain ⟨oI, hI, hodd⟩ := it.odd
  cases it with
  | @list l i xs as _ a b c d =>
    obtain ⟨e1, e2⟩ := drop_cons d
    cases b with
    | list h1 h2 h3 h4 =>
      obtain ⟨v, bs, f1, f2, f3⟩ := readsAll_getD h4 i x e1
      refine wpAny_pyNext_list_item a ⟨_, h1, h2, _, h3⟩ (by simpa using f1) fun h' a' hs' => ?_
      have hk : ∀ a o, a ≠ I → s.heap.get? a = some o → h'.get? a = some o := fun a o n e => (hs'.2 a n).trans e
      exact hQ v h' s.toks ⟨bs, reads_but hI hodd hk f2 (nodAll_get c.2 i x e1), fun q hq => c.1 q (List.mem_cons_of_mem _ (f3 q hq)), nodAll_get c.2 i x e1⟩ (.list a' (reads_but hI hodd hk (.list h1 h2 h3 h4) c.2) c e2) hk (Nat.le_refl _)
  | @tuple l i xs as _ a b c d =>
    obtain ⟨e1, e2⟩ := drop_cons d
    cases b with
    | tuple h1 h2 h3 h4 =>
      obtain ⟨v, bs, f1, f2, f3⟩ := readsAll_getD h4 i x e1
      refine wpAny_pyNext_tuple_item a ⟨_, h1, h2, _, h3⟩ (by simpa using f1) fun h' a' hs' => ?_
      have hk : ∀ a o, a ≠ I → s.heap.get? a = some o → h'.get? a = some o := fun a o n e => (hs'.2 a n).trans e
      exact hQ v h' s.toks ⟨bs, reads_but hI hodd hk f2 (nodAll_get c.2 i x e1), fun q hq => c.1 q (f3 q hq), nodAll_get c.2 i x e1⟩ (.tuple a' (reads_but hI hodd hk (.tuple h1 h2 h3 h4) c.2) c e2) hk (Nat.le_refl _)
  | @strA y t i _ a d =>
    cases hd : y.cps.toList.drop i with
    | nil => rw [hd] at d; cases d
    | cons c cs =>
      rw [hd] at d
      simp only [List.map_cons, List.cons.injEq] at d
      obtain ⟨e1, e2⟩ := drop_cons hd.symm
      refine wpAny_pyNext_ascii_item a (c := c) (by simpa using e1) fun h' a' hs' => ?_
      have hk : ∀ a o, a ≠ I → s.heap.get? a = some o → h'.get? a = some o := fun a o n e => (hs'.2 a n).trans e
      exact hQ _ h' _ ⟨[], by rw [d.1]; exact .str _ _, (fun _ h => nomatch h), by rw [d.1]; rfl⟩ (.strA a' (by rw [d.2, e2])) hk (Nat.le_succ _)
  | @strW y t i _ a d =>
    cases hd : y.cps.toList.drop i with
    | nil => rw [hd] at d; cases d
    | cons c cs =>
      rw [hd] at d
      simp only [List.map_cons, List.cons.injEq] at d
      obtain ⟨e1, e2⟩ := drop_cons hd.symm
      refine wpAny_pyNext_wide_item a (c := c) (by simpa using e1) fun h' a' hs' => ?_
      have hk : ∀ a o, a ≠ I → s.heap.get? a = some o → h'.get? a = some o := fun a o n e => (hs'.2 a n).trans e
      exact hQ _ h' _ ⟨[], by rw [d.1]; exact .str _ _, (fun _ h => nomatch h), by rw [d.1]; rfl⟩ (.strW a' (by rw [d.2, e2])) hk (Nat.le_succ _)
  | @range y left step _ a d =>
    cases hn : left.toNat with
    | zero => rw [hn] at d; cases d
    | succ n =>
      rw [hn, range_cons] at d
      simp only [List.cons.injEq] at d
      refine wpAny_pyNext_range_item a (by omega) fun h' a' hs' => ?_
      have hk : ∀ a o, a ≠ I → s.heap.get? a = some o → h'.get? a = some o := fun a o n e => (hs'.2 a n).trans e
      exact hQ _ h' _ ⟨[], by rw [d.1]; exact .int _ _, (fun _ h => nomatch h), by rw [d.1]; rfl⟩ (.range a' (by rw [d.2, show (left - 1).toNat = n by omega])) hk (Nat.le_succ _)

theorem ItAt.stop (hh : A.handled = none) (it : ItAt O s.heap I []) {Q : Option Value → Shared → Prop}
    (hQ : ∀ h', (∀ a o, a ≠ I → s.heap.get? a = some o → h'.get? a = some o) → Q none { s with heap := h' }) : wpAny (model prog w) A (pyNext (.ref I)) Q E s := by
  have hQ' : ∀ h', Heap.ExtBut I s.heap h' → Q none { s with heap := h' } := fun h' x => hQ h' x
  cases it with
  | list a b c d =>
    have e := drop_nil d
    cases b with
    | list h1 h2 h3 h4 =>
      have hl := readsAll_len h4
      exact wpAny_pyNext_list_end hh a ⟨_, h1, h2, _, h3⟩ (by simp at e hl ⊢; omega) hQ'
  | tuple a b c d =>
    have e := drop_nil d
    cases b with
    | tuple h1 h2 h3 h4 =>
      have hl := readsAll_len h4
      exact wpAny_pyNext_tuple_end hh a ⟨_, h1, h2, _, h3⟩ (by simp at e hl ⊢; omega) hQ'
  | @strA y t i _ a d =>
    have e : [] = y.cps.toList.drop i := (List.map_eq_nil_iff.mp d.symm).symm
    exact wpAny_pyNext_ascii_end hh a (by have := drop_nil e; simpa using this) hQ'
  | @strW y t i _ a d =>
    have e : [] = y.cps.toList.drop i := (List.map_eq_nil_iff.mp d.symm).symm
    exact wpAny_pyNext_wide_end hh a (by have := drop_nil e; simpa using this) hQ'
  | @range y left step _ a d =>
    have e := congrArg List.length d
    simp at e
    exact wpAny_pyNext_range_end hh a (by omega) hQ'

theorem ItAt.self {r : List PyData} (it : ItAt O s.heap I r) {Q : Value → Shared → Prop} (h : Q (.ref I) s) : wpAny (model prog w) A (pyIter (.ref I)) Q E s := by
  cases it with
  | list a _ _ _ => exact wpAny_pyIter_listiter a h
  | tuple a _ _ _ => exact wpAny_pyIter_tupleiter a h
  | strA a _ => exact wpAny_pyIter_striter_ascii a h
  | strW a _ => exact wpAny_pyIter_striter_wide a h
  | range a _ => exact wpAny_pyIter_rangeiter a h

theorem ItAt.lets {r : List PyData} (it : ItAt O s.heap I r) {t : Expr} {v : Value} {Q : Unit → Shared → Prop} (h : Q () s) : wpAny (model prog w) A (letOwnedTupleGo t (.ref I) v) Q E s := by
  obtain ⟨o, vs, ty, a, b, c, d⟩ := it.obj
  have key : wpAny (model prog w) A (do
      let (.ref r, .ref a) := (Value.ref I, v) | return
      let o ← load r
      match o.cls, o.data with
      | .type n, .fields vs =>
        if ["enumerate", "zip", "dict_itemiterator", "dict_reverseitemiterator", "odict_iterator", "itertools.zip_longest", "itertools.pairwise"].contains n && vs[0]? == some (rawInt a) then
          rule "for.unpacks-the-owned-tuple"
          updateField r 0 .none
      | _, _ => pure () : Sem Unit) Q E s := by
    cases v with
    | ref q =>
      refine wpAny_bind (wpAny_load a ?_)
      rw [b, c]
      have : (["enumerate", "zip", "dict_itemiterator", "dict_reverseitemiterator", "odict_iterator", "itertools.zip_longest", "itertools.pairwise"].contains ty) = false := by
        revert d; revert ty
        intro ty _ d
        simp only [loose, List.mem_cons, List.mem_singleton, List.not_mem_nil, or_false] at d
        rcases d with rfl | rfl | rfl | rfl | rfl <;> decide
      show wpAny _ _ (if (["enumerate", "zip", "dict_itemiterator", "dict_reverseitemiterator", "odict_iterator", "itertools.zip_longest", "itertools.pairwise"].contains ty && vs[0]? == some (rawInt q)) = true then _ else _) _ _ s
      rw [this, Bool.false_and, if_neg Bool.false_ne_true]
      exact wpAny_pure h
    | _ => exact wpAny_pure h
  cases t <;> first | exact wpAny_pure h | exact key
end

/-! what can be walked over -/
def AItr (C : Ctx) (d : PV) (xs : List PyData) (st : St) : Prop :=
  ∀ v s ρ, Inv C st ρ s → Rep s.heap ρ (Mut C st.σ ρ) v d → ∀ (Q : Value → Shared → Prop),
    (∀ I h' tk, s.heap.get? I = none → (∀ a o, s.heap.get? a = some o → h'.get? a = some o) → s.toks ≤ tk → ItAt (Mut C st.σ ρ) h' I xs → Q (.ref I) { s with heap := h', toks := tk }) → wpAny (model C.prog C.w) C.A (pyIter v) Q NoE s

theorem get?_size (h : Heap) : h.get? h.objs.size = none := by
  cases e : h.get? h.objs.size with
  | none => rfl
  | some o => exact absurd (Heap.lt_size e) (Nat.lt_irrefl _)

section
variable {C : Ctx} {st : St}
theorem AItr_list {xs : List PyData} : AItr C (.dat (.list xs)) xs st := fun v s ρ I ⟨as, r, n, hd⟩ Q hQ => by
  cases r with
  | list h1 h2 h3 h4 =>
    refine wpAny_pyIter_list ⟨_, h1, h2, _, h3⟩ (hQ _ _ s.toks (get?_size _) (fun a o e => Heap.get?_push_of_some _ e) (Nat.le_refl _) ?_)
    exact .list ⟨_, Heap.get?_push_size _ rfl, rfl, rfl⟩ (Reads.keeps (fun a o e => Heap.get?_push_of_some _ e) (.list h1 h2 h3 h4)) ⟨n, hd⟩ rfl
theorem AItr_str {x : Str} : AItr C (.dat (.str x)) (strItems x) st := fun v s ρ I ⟨as, r, n, hd⟩ Q hQ => by
  cases r with
  | str _ t =>
    cases ha : x.cps.all (· < 128)
    · exact wpAny_pyIter_wide ha (hQ _ _ s.toks (get?_size _) (fun a o e => Heap.get?_push_of_some _ e) (Nat.le_refl _) (.strW (i := 0) ⟨_, Heap.get?_push_size _ rfl, rfl, rfl⟩ rfl))
    · exact wpAny_pyIter_ascii ha (hQ _ _ s.toks (get?_size _) (fun a o e => Heap.get?_push_of_some _ e) (Nat.le_refl _) (.strA (i := 0) ⟨_, Heap.get?_push_size _ rfl, rfl, rfl⟩ rfl))
theorem AItr_rng {a b c : Int} (hs : Builtin.Range.small a b c = true) : AItr C (.rng a b c) (rngItems a b c) st := fun v s ρ I ⟨r, t, u, q, e, hr⟩ Q hQ => by
  subst e
  exact wpAny_pyIter_range hr hs (hQ _ _ s.toks (get?_size _) (fun a o e => Heap.get?_push_of_some _ e) (Nat.le_refl _) (.range (Heap.get?_push_size _ rfl) rfl))

/-! assignment to a target -/
def AAsg (C : Ctx) (t : Expr) (d : PV) (st : St) (Q : St → Prop) : Prop :=
  ∀ v s ρ, Inv C st ρ s → Rep s.heap ρ (Mut C st.σ ρ) v d → wpAny (model C.prog C.w) C.A (assign t C.env v) (fun _ s' => ∃ st' ρ', Inv C st' ρ' s' ∧ Le C st ρ s st' ρ' s' ∧ Q st') NoE s
theorem AAsg_name {x : Str} {pos : Pos} {d : PV} {Q : St → Prop} (h : ASt C x d st Q) : AAsg C (.Name x pos) d st Q := fun v s ρ I r => PySem.wpAny_assign_Name (h v s ρ I r)

/-- names in a row, values in a row -/
def AAsgs (C : Ctx) : List Expr → List PV → St → (St → Prop) → Prop
  | t :: ts, d :: ds, st, Q => AAsg C t d st fun st' => AAsgs C ts ds st' Q
  | [], [], st, Q => Q st
  | _, _, _, _ => False

theorem AAsgs_wp (hC : Ok C) {Q : St → Prop} : ∀ (ts : List Expr) (ds : List PV) (vs : List Value) (st : St) (s : Shared) (ρ : List Addr), AAsgs C ts ds st Q → RepAll s.heap ρ (Mut C st.σ ρ) vs ds → Inv C st ρ s →
    (∀ t ∈ ts, ∀ e p, t ≠ .Starred e p) → wpAny (model C.prog C.w) C.A (assignInOrder ((assignEach ts C.env).map (·.2)) vs) (fun _ s' => ∃ st' ρ', Inv C st' ρ' s' ∧ Le C st ρ s st' ρ' s' ∧ Q st') NoE s
  | [], [], [], st, s, ρ, h, r, I, _ => wpAny_pure ⟨st, ρ, I, .refl, h⟩
  | t :: ts, d :: ds, v :: vs, st, s, ρ, h, r, I, hn => by
    have e : assignEach (t :: ts) C.env = (false, assign t C.env) :: assignEach ts C.env := by
      cases t <;> first | rfl | exact absurd rfl (hn _ List.mem_cons_self _ _)
    rw [e]
    show wpAny _ _ (holding vs (assign t C.env v) >>= fun _ => assignInOrder ((assignEach ts C.env).map (·.2)) vs) _ _ s
    refine wpAny_bind (wpAny_holding (wpAny_mono (h v s ρ I r.1) (fun _ s₁ ⟨st₁, ρ₁, I₁, L₁, h₁⟩ => ?_) fun _ _ x => x))
    exact wpAny_mono (AAsgs_wp hC ts ds vs st₁ s₁ ρ₁ h₁ (r.2.grow (I.grow hC L₁)) I₁ fun t ht => hn t (List.mem_cons_of_mem _ ht)) (fun _ _ ⟨st₂, ρ₂, I₂, L₂, h₂⟩ => ⟨st₂, ρ₂, I₂, L₁.trans L₂, h₂⟩) fun _ _ x => x
  | [], _ :: _, _, _, _, _, h, _, _, _ => h.elim
  | _ :: _, [], _, _, _, _, h, _, _, _ => h.elim
  | [], [], _ :: _, _, _, _, _, r, _, _ => r.elim
  | _ :: _, _ :: _, [], _, _, _, _, r, _, _ => r.elim

theorem repAll_dat {h : Heap} {ρ : List Addr} {O : Addr → Prop} : ∀ {vs : List Value} {ds : List PyData} {as : List Addr}, ReadsAll h vs ds as → (∀ a ∈ as, ¬ O a) → nodAll ds = true → RepAll h ρ O vs (ds.map .dat)
  | _, _, _, .nil, _, _ => trivial
  | _, _, _, .cons h1 h2, n, hd => ⟨⟨_, h1, fun a ha => n a (List.mem_append_left _ ha), (Bool.and_eq_true_iff.mp hd).1⟩, repAll_dat h2 (fun a ha => n a (List.mem_append_right _ ha)) (Bool.and_eq_true_iff.mp hd).2⟩

def plainTargets : List Expr → Bool
  | [] => true
  | .Starred .. :: _ => false
  | _ :: r => plainTargets r
theorem plainTargets_of : ∀ {ts : List Expr}, plainTargets ts = true → ∀ t ∈ ts, ∀ e p, t ≠ .Starred e p
  | t :: r, h, t', ht, e, p => by
    rcases List.mem_cons.mp ht with rfl | ht
    · rintro rfl; cases h
    · exact plainTargets_of (ts := r) (by cases t <;> first | exact h | cases h) t' ht e p
theorem assignEach_len {env : Env} : ∀ ts : List Expr, (assignEach ts env).length = ts.length
  | [] => rfl
  | t :: r => by cases t <;> (show (assignEach r env).length + 1 = _; rw [assignEach_len r]; rfl)
theorem assignEach_star {env : Env} : ∀ {ts : List Expr}, plainTargets ts = true → (assignEach ts env).findIdx? (·.1) = none
  | [], _ => rfl
  | t :: r, h => by
    have e : assignEach (t :: r) env = (false, assign t env) :: assignEach r env := by cases t <;> first | rfl | cases h
    have hr : plainTargets r = true := by cases t <;> first | exact h | cases h
    rw [e, List.findIdx?_cons]
    simp [assignEach_star (env := env) hr]

theorem AAsg_tuple (hC : Ok C) {ts : List Expr} {k : Nat} {pos : Pos} {xs : List PyData} {Q : St → Prop} (h : AAsgs C ts (xs.map .dat) st Q) (hlen : ts.length = xs.length) (hp : plainTargets ts = true := by rfl) : AAsg C (.Tuple ts k pos) (.dat (.tuple xs)) st Q := fun v s ρ I ⟨as, r, n, hd⟩ => by
  cases r with
  | @tuple a o items _ _ _ h1 h2 h3 h4 =>
    have hl := readsAll_len h4
    refine wpAny_assign_Tuple hC.handled ⟨_, h1, h2, _, h3⟩ (by rw [assignEach_len]; simp at hl; omega) (assignEach_star hp) fun h' hx => ?_
    have hk : ∀ b o, s.heap.get? b = some o → h'.get? b = some o := fun b o e => hx b o (Nat.ne_of_lt (Heap.lt_size e)) e
    have J := I.keeps hC (h' := h') (tk := s.toks) hk (Nat.le_refl _)
    exact wpAny_mono (AAsgs_wp hC ts _ _ st _ ρ h (repAll_dat (ReadsAll.keeps hk h4) n hd) J.1 (plainTargets_of hp)) (fun _ _ ⟨st₂, ρ₂, I₂, L₂, h₂⟩ => ⟨st₂, ρ₂, I₂, J.2.trans L₂, h₂⟩) fun _ _ x => x
end

/-! for -/
section
variable {C : Ctx} {st : St} {Q : Fl → St → Prop}

def ForQ (J : List PyData → St → Prop) (r : List PyData) (Q : Fl → St → Prop) (f : Fl) (st₂ : St) : Prop := match f with
  | .next | .cont => ∃ st₃, Wk st₂ st₃ ∧ J r st₃
  | .brk => Q .next st₂
  | .ret d => Q (.ret d) st₂
theorem ForQ.next {I J : List PyData → St → Prop} {r : List PyData} (hJ : J = I) (h : ∃ st₃, Wk st st₃ ∧ I r st₃) : ForQ J r Q .next st := hJ ▸ h
def ForBody (C : Ctx) (t : Expr) (b : List Stmt) (xs : List PyData) (st : St) (Q : Fl → St → Prop) : Prop :=
  ∃ I : List PyData → St → Prop, (∃ st', Wk st st' ∧ I xs st') ∧
    (∀ x r st, I (x :: r) st → ∀ J, J = I → AAsg C t (.dat x) st fun st₁ => AS C b st₁ (ForQ J r Q)) ∧
    ∀ st, I [] st → Q .next st

theorem AX_For (hC : Ok C) {t it : Expr} {b : List Stmt} {pos : Pos} (h : AE C it st fun d st₁ => ∃ xs, AItr C d xs st₁ ∧ ForBody C t b xs st₁ Q)
    (hs : ∀ x, foldedSetIterable it C.env x = pure x := by intro _; rfl) : AX C (.For t it b [] pos) st Q := fun s ρ Iv => by
  refine wpAny_For (h.use Iv fun v s₁ d st₁ ρ₁ I₁ L₁ r₁ ⟨xs, hit, J, ⟨st', hw, hJ⟩, turn, fin⟩ => ?_) hs
  refine hit v s₁ ρ₁ I₁ r₁ _ fun I h₂ tk₂ hfr hk₂ htk₂ it₂ => ?_
  have K₂ := I₁.keeps hC (h' := h₂) (tk := tk₂) hk₂ htk₂
  have hbase : C.s₀.heap.get? I = none := by
    cases e : C.s₀.heap.get? I with
    | none => rfl
    | some o => rw [I₁.keep _ _ e] at hfr; cases hfr
  have hnm : ¬ Mut C st₁.σ ρ₁ I := fun hm => by
    obtain ⟨o, ho⟩ : ∃ o, s₁.heap.get? I = some o := by
      rcases hm with rfl | ⟨x, hx⟩ | hx | ⟨i, l, h1, h2⟩
      · obtain ⟨m, ⟨o, _, _, h1, _⟩, _⟩ := I₁.ns; exact ⟨o, h1⟩
      · obtain ⟨u, ⟨o, h1, _⟩, _⟩ := I₁.cell x I hx; exact ⟨o, h1⟩
      · rcases hx with hx | hx
        · obtain ⟨o, h1, _⟩ := hC.soft I hx; exact ⟨o, I₁.keep _ _ h1⟩
        · obtain ⟨vs, h1⟩ := C.tb.has _ I₁.tab I hx; exact ⟨_, h1⟩
      · obtain ⟨a, vs, e1, ⟨n, g1⟩, _⟩ := I₁.own i l h1
        rw [h2] at e1; cases e1; exact ⟨_, g1⟩
    rw [hfr] at ho; cases ho
  refine codeAny_forLoop_any (fun n s₃ => ∃ st₃ ρ₃ r, n = List.length r ∧ Inv C st₃ ρ₃ s₃ ∧ Le C st ρ s st₃ ρ₃ s₃ ∧ ItAt (Mut C st₃.σ ρ₃) s₃.heap I r ∧ ¬ Mut C st₃.σ ρ₃ I ∧ J r st₃ ∧ (∀ a o, s.heap.get? a = some o → a ≠ I)) ?_ xs.length
    ⟨st', ρ₁, xs, rfl, K₂.1.weak hw, (L₁.trans K₂.2).weak hw, ?_, ?_, hJ, ?_⟩
  · rintro n s₃ ⟨st₃, ρ₃, r, rfl, I₃, L₃, it₃, hn₃, hJ₃, hne⟩
    obtain ⟨oI, hI, hodd⟩ := it₃.odd
    cases r with
    | nil =>
      refine it₃.stop hC.handled fun h₄ hk₄ => ?_
      have I₄ := I₃.but hI hodd hn₃ hbase (h' := h₄) (tk := s₃.toks) hk₄ (Nat.le_refl _)
      refine wpAny_execs_nil ⟨.next, st₃, ρ₃, I₄, ⟨fun a o e q => ?_, L₃.rho, fun a o e => let ⟨o', h'⟩ := L₃.ex a o e; ⟨o', hk₄ a o' (hne a o e) h'⟩⟩, trivial, fin _ hJ₃⟩
      have := L₃.keep a o e q
      exact ⟨hk₄ a o (hne a o e) this.1, this.2⟩
    | cons x r =>
      refine it₃.next (ρ := ρ₃) fun v h₄ tk₄ rv it₄ hk₄ htk₄ => ?_
      have I₄ := I₃.but hI hodd hn₃ hbase (h' := h₄) (tk := tk₄) hk₄ htk₄
      refine it₄.lets ?_
      refine wpAny_mono (turn x r st₃ hJ₃ J rfl v _ ρ₃ I₄ rv) (fun _ s₅ ⟨st₅, ρ₅, I₅, L₅, h₅⟩ => ?_) noE_noted
      refine wpAny_mono (h₅ s₅ ρ₅ I₅) (fun f s₆ ⟨g, st₆, ρ₆, I₆, L₆, r₆, h₆⟩ => ?_) noE_noted
      have L₄₆ := L₅.trans L₆
      have Lall : Le C st ρ s st₆ ρ₆ s₆ := ⟨fun a o e q => by
        have h1 := L₃.keep a o e q
        exact L₄₆.keep a o (hk₄ a o (hne a o e) h1.1) h1.2, fun i a e => L₄₆.rho i a (L₃.rho i a e), fun a o e => let ⟨o', h'⟩ := L₃.ex a o e; L₄₆.ex a o' (hk₄ a o' (hne a o e) h')⟩
      obtain ⟨oI₄, hI₄, hodd₄⟩ := it₄.odd
      cases f <;> cases g <;> first
        | exact r₆.elim
        | (obtain ⟨st₇, hw₇, hJ₇⟩ := h₆
           refine ⟨r.length, Nat.lt_succ_self _, st₇, ρ₆, r, rfl, I₆.weak hw₇, Lall.weak hw₇, ?_, ?_, hJ₇, hne⟩
           · have := it₄.grow (I₄.grow hC L₄₆) hn₃
             rw [← hw₇.1] at this; exact this
           · have := (L₄₆.keep I oI₄ hI₄ hn₃).2
             rw [← hw₇.1] at this; exact this)
        | exact ⟨.next, st₆, ρ₆, I₆, Lall, trivial, h₆⟩
        | exact ⟨_, st₆, ρ₆, I₆, Lall, r₆, h₆⟩
  · rw [hw.1]; exact it₂
  · rw [hw.1]; exact hnm
  · rintro a o e rfl
    obtain ⟨o', h'⟩ := L₁.ex a o e
    rw [hfr] at h'; cases h'
end
end Mine

end
section
open PySem PySem.W PyProof.Rows PySem.Calls
namespace Mine
set_option linter.all false

section
variable {C : Ctx} {st : St} {Q : PV → St → Prop}

/-! expressions in a row -/
def AEs (C : Ctx) (pos : Pos) (es : List Expr) (st : St) (Q : List PV → St → Prop) : Prop := AG RepAll C (spliced (backTo pos (starEach es C.env))) st Q
theorem AEs_nil {pos : Pos} {Q : List PV → St → Prop} (h : Q [] st) : AEs C pos [] st Q := fun s ρ I => wpAny_pure ⟨[], st, ρ, I, .refl, trivial, h⟩
theorem AEs_cons (hC : Ok C) {pos : Pos} {e : Expr} {es : List Expr} {Q : List PV → St → Prop} (h : AE C e st fun d st₁ => AEs C pos es st₁ fun ds st₂ => Q (d :: ds) st₂)
    (he : starEach (e :: es) C.env = (false, eval e C.env) :: starEach es C.env := by rfl) : AEs C pos (e :: es) st Q := fun s ρ I => by
  rw [he]
  show wpAny _ _ (spliced ((false, eval e C.env) :: backTo pos (starEach es C.env))) _ _ s
  exact spliced_cons (h.use I fun a s₁ d st₁ ρ₁ I₁ L₁ r₁ h₁ => AG.use h₁ I₁ fun b s₂ ds st₂ ρ₂ I₂ L₂ r₂ h₂ =>
    ⟨d :: ds, st₂, ρ₂, I₂, L₁.trans L₂, ⟨r₁.grow (I₁.grow hC L₂), r₂⟩, h₂⟩)

theorem repAll_reads {h : Heap} {ρ : List Addr} {O : Addr → Prop} : ∀ {vs : List Value} {xs : List PyData}, RepAll h ρ O vs (xs.map .dat) → ∃ as, ReadsAll h vs xs as ∧ (∀ a ∈ as, ¬ O a) ∧ nodAll xs = true
  | [], [], _ => ⟨[], .nil, (fun _ h => nomatch h), rfl⟩
  | _ :: _, _ :: _, ⟨⟨as, r, n, hd⟩, b⟩ => by
    obtain ⟨bs, r', n', hd'⟩ := repAll_reads b
    exact ⟨as ++ bs, .cons r r', fun a ha => (List.mem_append.mp ha).elim (n a) (n' a), Bool.and_eq_true_iff.mpr ⟨hd, hd'⟩⟩
  | [], _ :: _, h => h.elim
  | _ :: _, [], h => h.elim
theorem repAll_len {h : Heap} {ρ : List Addr} {O : Addr → Prop} : ∀ {vs : List Value} {ds : List PV}, RepAll h ρ O vs ds → vs.length = ds.length
  | [], [], _ => rfl
  | _ :: _, _ :: _, ⟨_, b⟩ => by rw [List.length_cons, List.length_cons, repAll_len b]
  | [], _ :: _, h => h.elim
  | _ :: _, [], h => h.elim
theorem repAll_get {h : Heap} {ρ : List Addr} {O : Addr → Prop} : ∀ {vs : List Value} {ds : List PV}, RepAll h ρ O vs ds → ∀ (i : Nat) (d : PV), ds[i]? = some d → ∃ v, vs[i]? = some v ∧ Rep h ρ O v d
  | [], [], _, i, d, e => by simp at e
  | v :: _, _ :: _, ⟨a, b⟩, 0, d, e => by simp at e; subst e; exact ⟨v, rfl, a⟩
  | _ :: _, _ :: _, ⟨a, b⟩, i + 1, d, e => by simp at e ⊢; exact repAll_get b i d e
  | [], _ :: _, h, _, _, _ => h.elim
  | _ :: _, [], h, _, _, _ => h.elim
theorem repAll_append {h : Heap} {ρ : List Addr} {O : Addr → Prop} : ∀ {vs : List Value} {ds : List PV} {ws : List Value} {es : List PV}, RepAll h ρ O vs ds → RepAll h ρ O ws es → RepAll h ρ O (vs ++ ws) (ds ++ es)
  | [], [], _, _, _, r => r
  | _ :: _, _ :: _, _, _, ⟨a, b⟩, r => ⟨a, repAll_append b r⟩
  | [], _ :: _, _, _, h, _ => h.elim
  | _ :: _, [], _, _, h, _ => h.elim
theorem repAll_take {h : Heap} {ρ : List Addr} {O : Addr → Prop} : ∀ {vs : List Value} {ds : List PV} (i : Nat), RepAll h ρ O vs ds → RepAll h ρ O (vs.take i) (ds.take i)
  | [], [], i, _ => by simp; trivial
  | _ :: _, _ :: _, 0, _ => trivial
  | _ :: _, _ :: _, i + 1, ⟨a, b⟩ => ⟨a, repAll_take i b⟩
  | [], _ :: _, _, h => h.elim
  | _ :: _, [], _, h => h.elim

theorem mut_has (hC : Ok C) {ρ : List Addr} {s : Shared} (I : Inv C st ρ s) {a : Addr} (h : Mut C st.σ ρ a) : ∃ o, s.heap.get? a = some o := by
  rcases h with rfl | ⟨x, hx⟩ | hx | ⟨i, l, h1, h2⟩
  · obtain ⟨m, ⟨o, _, _, h1, _⟩, _⟩ := I.ns; exact ⟨o, h1⟩
  · obtain ⟨u, ⟨o, h1, _⟩, _⟩ := I.cell x a hx; exact ⟨o, h1⟩
  · rcases hx with hx | hx
    · obtain ⟨o, h1, _⟩ := hC.soft a hx; exact ⟨o, I.keep _ _ h1⟩
    · obtain ⟨vs, h1⟩ := C.tb.has _ I.tab a hx; exact ⟨_, h1⟩
  · obtain ⟨a', vs, e1, ⟨n, g1⟩, _⟩ := I.own i l h1
    rw [h2] at e1; cases e1; exact ⟨_, g1⟩

/-- a new list that nobody will write -/
theorem Post.list (hC : Ok C) {ρ : List Addr} {s : Shared} (I : Inv C st ρ s) {vs : List Value} {xs : List PyData} (hr : RepAll s.heap ρ (Mut C st.σ ρ) vs (xs.map .dat)) {n : Nat} (h : Q (.dat (.list xs)) st) :
    Post Rep C st ρ s Q (.ref s.heap.objs.size) { s with heap := s.heap.push { cls := .type "list", data := .seq vs.toArray n } } := by
  obtain ⟨as, r, na, hd⟩ := repAll_reads hr
  have J := I.push hC { cls := .type "list", data := .seq vs.toArray n }
  refine ⟨.dat (.list xs), st, ρ, J.1, J.2, ⟨s.heap.objs.size :: as, .list (Heap.get?_push_size _ rfl) rfl rfl (ReadsAll.keeps (fun _ _ e => Heap.get?_push_of_some _ e) r), fun a ha => ?_, hd⟩, h⟩
  rcases List.mem_cons.mp ha with rfl | ha
  · intro hm
    obtain ⟨o, ho⟩ := mut_has hC I hm
    exact absurd (Heap.lt_size ho) (Nat.lt_irrefl _)
  · exact na a ha
theorem Post.tuple (hC : Ok C) {ρ : List Addr} {s : Shared} (I : Inv C st ρ s) {vs : List Value} {xs : List PyData} (hr : RepAll s.heap ρ (Mut C st.σ ρ) vs (xs.map .dat)) {n : Nat} (h : Q (.dat (.tuple xs)) st) :
    Post Rep C st ρ s Q (.ref s.heap.objs.size) { s with heap := s.heap.push { cls := .type "tuple", data := .seq vs.toArray n } } := by
  obtain ⟨as, r, na, hd⟩ := repAll_reads hr
  have J := I.push hC { cls := .type "tuple", data := .seq vs.toArray n }
  exact ⟨.dat (.tuple xs), st, ρ, J.1, J.2, ⟨as, .tuple (Heap.get?_push_size _ rfl) rfl rfl (ReadsAll.keeps (fun _ _ e => Heap.get?_push_of_some _ e) r), na, hd⟩, h⟩

def St.new (st : St) (l : List PV) : St := { st with σ := st.σ ++ [some l] }
theorem newList_step {M : Model} {A : Around} {E : Value → Shared → Prop} {s : Shared} {vs : List Value} {Q : Value → Shared → Prop} (h : Q (.ref s.heap.objs.size) { s with heap := s.heap.push { cls := .type "list", data := .seq vs.toArray } }) (hsz : vs.length ≤ sizeLine) : wpAny M A (newList vs) Q E s :=
  wpAny_newObj_type h (by show vs.toArray.size ≤ sizeLine; rw [List.size_toArray]; exact hsz)
theorem newTuple_step {M : Model} {A : Around} {E : Value → Shared → Prop} {s : Shared} {vs : List Value} {Q : Value → Shared → Prop} (h : Q (.ref s.heap.objs.size) { s with heap := s.heap.push { cls := .type "tuple", data := .seq vs.toArray } }) (hsz : vs.length ≤ sizeLine) : wpAny M A (newTuple vs) Q E s :=
  wpAny_newObj_type h (by show vs.toArray.size ≤ sizeLine; rw [List.size_toArray]; exact hsz)

theorem AE_List (hC : Ok C) {es : List Expr} {pos : Pos} (h : AEs C pos es st fun ds st₁ => ds.length ≤ sizeLine ∧ ∃ xs, ds = xs.map .dat ∧ Q (.dat (.list xs)) st₁) : AE C (.List es pos) st Q := fun s ρ I =>
  List_ (h.use I fun vs s₁ ds st₁ ρ₁ I₁ L₁ r₁ ⟨hsz, xs, e, h₁⟩ => newList_step (by subst e; exact (Post.list hC I₁ r₁ h₁).le L₁) (by rw [repAll_len r₁]; exact hsz))
theorem AE_Tuple (hC : Ok C) {es : List Expr} {k : Nat} {pos : Pos} (h : AEs C pos es st fun ds st₁ => ds.length ≤ sizeLine ∧ ∃ xs, ds = xs.map .dat ∧ Q (.dat (.tuple xs)) st₁) : AE C (.Tuple es k pos) st Q := fun s ρ I =>
  Tuple_ (h.use I fun vs s₁ ds st₁ ρ₁ I₁ L₁ r₁ ⟨hsz, xs, e, h₁⟩ => newTuple_step (by subst e; exact (Post.tuple hC I₁ r₁ h₁).le L₁) (by rw [repAll_len r₁]; exact hsz))

/-! an own list written -/
def St.upd (st : St) (i : Nat) (l : List PV) : St := { st with σ := st.σ.set i (some l) }

theorem Inv.upd (hC : Ok C) {ρ : List Addr} {s : Shared} (I : Inv C st ρ s) {i : Nat} {l l' : List PV} {a : Addr} {vs' : List Value} {h' : Heap} {tk : Nat} (hi : st.σ[i]? = some (some l)) (ha : ρ[i]? = some a)
    (hl' : h'.PlainList a vs'.toArray) (hs' : Heap.SameBut a s.heap h') (hr : RepAll s.heap ρ (Mut C st.σ ρ) vs' l') (htk : s.toks ≤ tk) :
    Inv C (st.upd i l') ρ { s with heap := h', toks := tk } ∧ Le C st ρ s (st.upd i l') ρ { s with heap := h', toks := tk } := by
  have hlt := (List.getElem?_eq_some_iff.mp hi).1
  have hset : ∀ (j : Nat) (m : List PV), (st.σ.set i (some l'))[j]? = some (some m) → (j = i ∧ m = l') ∨ (j ≠ i ∧ st.σ[j]? = some (some m)) := by
    intro j m h
    rw [List.getElem?_set] at h
    by_cases q : i = j
    · rw [if_pos q] at h
      subst q
      rw [if_pos hlt] at h
      cases h
      exact .inl ⟨rfl, rfl⟩
    · rw [if_neg q] at h
      exact .inr ⟨fun e => q e.symm, h⟩
  have hmut : ∀ b, Mut C (st.σ.set i (some l')) ρ b ↔ Mut C st.σ ρ b := by
    intro b
    constructor
    · rintro (h | h | h | ⟨j, m, h1, h2⟩)
      · exact .inl h
      · exact .inr (.inl h)
      · exact .inr (.inr (.inl h))
      · rcases hset j m h1 with ⟨rfl, _⟩ | ⟨_, h⟩
        · exact .inr (.inr (.inr ⟨_, l, hi, h2⟩))
        · exact .inr (.inr (.inr ⟨j, m, h, h2⟩))
    · rintro (h | h | h | ⟨j, m, h1, h2⟩)
      · exact .inl h
      · exact .inr (.inl h)
      · exact .inr (.inr (.inl h))
      · by_cases q : j = i
        · subst q
          exact .inr (.inr (.inr ⟨j, l', by rw [List.getElem?_set_self hlt], h2⟩))
        · exact .inr (.inr (.inr ⟨j, m, by rw [List.getElem?_set_ne (fun e => q e.symm)]; exact h1, h2⟩))
  have hma : Mut C st.σ ρ a := .inr (.inr (.inr ⟨i, l, hi, ha⟩))
  obtain ⟨a', vs, e1, hpl, _, hbase⟩ := I.own i l hi
  rw [ha] at e1; cases e1
  have hk : ∀ b o, b ≠ a → s.heap.get? b = some o → h'.get? b = some o := fun b o n e => (hs'.2 b n).trans e
  have L : Le C st ρ s (st.upd i l') ρ { s with heap := h', toks := tk } :=
    ⟨fun b o e q => ⟨hk b o (fun z => q (z ▸ hma)) e, fun z => q ((hmut b).mp z)⟩, fun _ _ e => e, fun b o e => by
      by_cases z : b = a
      · obtain ⟨n, hn⟩ := hl'; exact ⟨_, z ▸ hn⟩
      · exact ⟨o, hk b o z e⟩⟩
  have g := I.grow hC L
  obtain ⟨np, hpl⟩ := hpl
  refine ⟨⟨?_, fun b o e => hk b o (by rintro rfl; rw [hbase] at e; cases e) (I.keep b o e), Nat.le_trans I.tok htk, ?_, ?_, ?_, ?_, ?_, C.tb.stab _ _ I.tab fun b o e hf => hk b o (fun q => by
    obtain ⟨_, vs, g⟩ := hf
    rw [q, hpl] at e; cases e; cases g) e⟩, L⟩
  · obtain ⟨h, tk', e⟩ := I.same; exact ⟨h', tk, by rw [e]⟩
  · obtain ⟨m, h1, h2⟩ := I.ns
    refine ⟨m, h1.sameBut hs' (fun z => ?_), fun x d e k => let ⟨v, e1, e2⟩ := h2 x d e k; ⟨v, e1, e2.grow g⟩⟩
    obtain ⟨o, es, ep, g1, g2, _⟩ := h1
    rw [z, hpl] at g1; cases g1; cases g2
  · intro x c hx
    obtain ⟨u, h1, h2⟩ := I.cell x c hx
    refine ⟨u, h1.sameBut hs' (fun z => ?_), fun d e k => let ⟨v, e1, e2⟩ := h2 d e k; ⟨v, e1, e2.grow g⟩⟩
    obtain ⟨o, g1, g2⟩ := h1
    rw [z, hpl] at g1; cases g1; cases g2
  · intro j m hj
    rcases hset j m hj with ⟨rfl, rfl⟩ | ⟨hne, h⟩
    · exact ⟨a, vs', ha, hl', hr.grow g, hbase⟩
    · obtain ⟨b, ws, f1, ⟨n', f2⟩, f3, f4⟩ := I.own j m h
      exact ⟨b, ws, f1, ⟨n', hk b _ (fun z => hne (I.inj j i b m l h hi f1 (z ▸ ha))) f2⟩, f3.grow g, f4⟩
  · intro j k b m m' hj hk' ej ek
    have up : ∀ (j : Nat) (m : List PV), (st.upd i l').σ[j]? = some (some m) → ∃ m, st.σ[j]? = some (some m) := fun j m h => by
      rcases hset j m h with ⟨rfl, _⟩ | ⟨_, h⟩
      · exact ⟨l, hi⟩
      · exact ⟨m, h⟩
    obtain ⟨m1, h1⟩ := up j m hj
    obtain ⟨m2, h2⟩ := up k m' hk'
    exact I.inj j k b m1 m2 h1 h2 ej ek
  · show ρ.length = (st.σ.set i (some l')).length
    rw [List.length_set]; exact I.len

/-! calls of built-ins -/
def ACallB (C : Ctx) (id : String) (ds : List PV) (st : St) (Q : PV → St → Prop) : Prop :=
  ∀ vs s ρ, Inv C st ρ s → RepAll s.heap ρ (Mut C st.σ ρ) vs ds → wpAny (model C.prog C.w) C.A (call (.builtin id) vs) (Post Rep C st ρ s Q) NoE s
def ACallT (C : Ctx) (T : String) (ds : List PV) (st : St) (Q : PV → St → Prop) : Prop :=
  ∀ vs s ρ, Inv C st ρ s → RepAll s.heap ρ (Mut C st.σ ρ) vs ds → wpAny (model C.prog C.w) C.A (call (.type T) vs) (Post Rep C st ρ s Q) NoE s
def AGm (C : Ctx) (d : PV) (name : Str) (id : String) (st : St) : Prop :=
  ∀ v s ρ, Inv C st ρ s → Rep s.heap ρ (Mut C st.σ ρ) v d → ∀ (pl : Sem Bool) (Q : Value × List Value → Shared → Prop), Q (.builtin id, [v]) s → wpAny (model C.prog C.w) C.A (getMethod v name pl) Q NoE s

theorem starEach_plain {env : Env} {pos : Pos} : ∀ {es : List Expr}, plainTargets es = true → (backTo pos (starEach es env)).any (·.1) = false
  | [], _ => rfl
  | e :: r, h => by
    have e1 : starEach (e :: r) env = (false, eval e env) :: starEach r env := by cases e <;> first | rfl | cases h
    have hr : plainTargets r = true := by cases e <;> first | exact h | cases h
    rw [e1]
    show (false || (backTo pos (starEach r env)).any (·.1)) = false
    rw [starEach_plain (env := env) (pos := pos) hr]; rfl
theorem starEach_cons {env : Env} {e : Expr} {r : List Expr} (h : plainTargets (e :: r) = true) : starEach (e :: r) env = (false, eval e env) :: starEach r env := by cases e <;> first | rfl | cases h

theorem evalArgs_nil' {M : Model} {A : Around} {E : Value → Shared → Prop} {s : Shared} {f : Value} {Q : Args → Shared → Prop} (h : wpAny M A (spliced []) (fun vs s' => Q ⟨vs, []⟩ s') E s) : wpAny M A (evalArgs f true [] []) Q E s := by
  unfold evalArgs
  show wpAny M A (spliced [] >>= _) Q E s
  refine wpAny_bind (wpAny_mono h (fun vs s' h' => ?_) fun _ _ x => x)
  refine wpAny_holding ?_
  exact wpAny_bind (wpAny_pure (wpAny_bind (wpAny_pure (wpAny_pure h'))))
theorem evalArgs_es {f : Value} {pos : Pos} {es : List Expr} {s : Shared} {M : Model} {A : Around} {E : Value → Shared → Prop} {env : Env} {Q : Args → Shared → Prop} (hp : plainTargets es = true)
    (h : wpAny M A (spliced (backTo pos (starEach es env))) (fun vs s' => Q ⟨vs, []⟩ s') E s) : wpAny M A (evalArgs f true (backTo pos (starEach es env)) []) Q E s := by
  cases es with
  | nil => exact evalArgs_nil' h
  | cons e r =>
    rw [starEach_cons hp] at h ⊢
    exact evalArgs_plain h

theorem callWith_B (hC : Ok C) {pos : Pos} {id : String} {first : List Value} {fs : List PV} {es : List Expr} {s : Shared} {ρ : List Addr} (I : Inv C st ρ s) (hf : RepAll s.heap ρ (Mut C st.σ ρ) first fs) (hp : plainTargets es = true)
    (h : AEs C pos es st fun ds st₁ => ACallB C id (fs ++ ds) st₁ Q) : wpAny (model C.prog C.w) C.A (callWith pos (.builtin id) first (backTo pos (starEach es C.env)) []) (Post Rep C st ρ s Q) NoE s :=
  callWith_builtin (starEach_plain hp) (evalArgs_es hp (AG.use h I fun vs s₁ ds st₁ ρ₁ I₁ L₁ r₁ h₁ =>
    wpAny_mono (h₁ _ s₁ ρ₁ I₁ (repAll_append (hf.grow (I.grow hC L₁)) r₁)) (fun _ _ p => p.le L₁) fun _ _ x => x))

/-- a call of a built-in function by its name -/
theorem AE_callB (hC : Ok C) {f : Expr} {es : List Expr} {pos : Pos} {id : String} (h : AE C f st fun d st₁ => d = .val (.builtin id) ∧ AEs C pos es st₁ fun ds st₂ => ACallB C id ds st₂ Q)
    (hp : plainTargets es = true := by rfl)
    (he : eval (.Call f es [] pos) C.env = (do callWith pos (← eval f C.env) [] (backTo pos (starEach es C.env)) []) := by rfl) : AE C (.Call f es [] pos) st Q := fun s ρ I => by
  rw [he]
  refine wpAny_bind (h.use I fun v s₁ d st₁ ρ₁ I₁ L₁ r₁ ⟨e, h₁⟩ => ?_)
  subst e
  have e : v = .builtin id := r₁
  subst e
  exact wpAny_mono (callWith_B hC I₁ (fs := []) trivial hp h₁) (fun _ _ p => p.le L₁) fun _ _ x => x

/-- a method of a value -/
theorem AE_meth (hC : Ok C) {o : Expr} {name : Str} {es : List Expr} {apos pos : Pos} {id : String} (h : AE C o st fun d st₁ => AGm C d name id st₁ ∧ AEs C pos es st₁ fun ds st₂ => ACallB C id (d :: ds) st₂ Q)
    (hp : plainTargets es = true := by rfl)
    (he : ∃ pl, eval (.Call (.Attribute o name apos) es [] pos) C.env = (do
      let ov ← eval o C.env
      standAt apos.atName
      let (f, first) ← holding [ov] (getMethod ov name pl)
      callWith pos f first (backTo pos (starEach es C.env)) []) := by exact ⟨_, rfl⟩) : AE C (.Call (.Attribute o name apos) es [] pos) st Q := fun s ρ I => by
  obtain ⟨pl, he⟩ := he
  rw [he]
  refine wpAny_bind (h.use I fun v s₁ d st₁ ρ₁ I₁ L₁ r₁ ⟨hg, h₁⟩ => wpAny_bind (wpAny_standAt (wpAny_bind (wpAny_holding (hg v s₁ ρ₁ I₁ r₁ pl _ ?_)))))
  exact wpAny_mono (callWith_B hC I₁ (fs := [d]) ⟨r₁, trivial⟩ hp h₁) (fun _ _ p => p.le L₁) fun _ _ x => x
end
end Mine

end
section
open PySem PySem.W PyProof.Rows PySem.Calls
namespace Mine
set_option linter.all false

/-! an own list is written no more -/
def PV.sub (i : Nat) (xs : List PyData) : PV → PV
  | .own j => if j = i then .dat (.list xs) else .own j
  | .dat d => .dat d
  | .val v => .val v
  | .mt x sp => .mt x sp
  | .rng a b c => .rng a b c
  | .lam p b s q => .lam p b s q
def St.freeze (st : St) (i : Nat) (xs : List PyData) : St :=
  { m := st.m.map fun p => (p.1, p.2.sub i xs), σ := (st.σ.set i none).map fun o => o.map fun l => l.map (PV.sub i xs) }

theorem lookup_map_sub {i : Nat} {xs : List PyData} {x : Str} : ∀ m : List (Str × PV), (m.map fun p => (p.1, p.2.sub i xs)).lookup x = (m.lookup x).map (PV.sub i xs)
  | [] => rfl
  | (y, d) :: r => by
    rw [List.map_cons, List.lookup_cons, List.lookup_cons]
    cases x == y with
    | true => rfl
    | false => exact lookup_map_sub r

section
variable {C : Ctx} {st : St}

theorem Inv.freeze (hC : Ok C) {ρ : List Addr} {s : Shared} (I : Inv C st ρ s) {i : Nat} {xs : List PyData} (hi : st.σ[i]? = some (some (xs.map .dat))) :
    Inv C (st.freeze i xs) ρ s ∧ Le C st ρ s (st.freeze i xs) ρ s := by
  have hlt := (List.getElem?_eq_some_iff.mp hi).1
  obtain ⟨a, vs, ha, ⟨n, hpl⟩, hr, hb⟩ := I.own i _ hi
  have hget : ∀ (j : Nat) (l : List PV), (st.freeze i xs).σ[j]? = some (some l) → j ≠ i ∧ ∃ l₀, st.σ[j]? = some (some l₀) ∧ l = l₀.map (PV.sub i xs) := by
    intro j l h
    have h' : ((st.σ.set i none).map fun o => o.map fun l => l.map (PV.sub i xs))[j]? = some (some l) := h
    rw [List.getElem?_map] at h'
    by_cases q : i = j
    · subst q
      rw [List.getElem?_set_self hlt] at h'; cases h'
    · rw [List.getElem?_set_ne q] at h'
      cases e : st.σ[j]? with
      | none => rw [e] at h'; cases h'
      | some o =>
        rw [e] at h'
        cases o with
        | none => cases h'
        | some l₀ => cases h'; exact ⟨fun z => q z.symm, l₀, rfl, rfl⟩
  have hput : ∀ (j : Nat) (l₀ : List PV), j ≠ i → st.σ[j]? = some (some l₀) → (st.freeze i xs).σ[j]? = some (some (l₀.map (PV.sub i xs))) := by
    intro j l₀ q h
    show ((st.σ.set i none).map fun o => o.map fun l => l.map (PV.sub i xs))[j]? = _
    rw [List.getElem?_map, List.getElem?_set_ne (fun z => q z.symm), h]; rfl
  have hmut : ∀ b, Mut C (st.freeze i xs).σ ρ b → Mut C st.σ ρ b ∧ b ≠ a := by
    intro b hm
    have hne : ∀ {o : Obj}, s.heap.get? b = some o → (∀ vs n, o.data ≠ .seq vs n) → b ≠ a := fun h q z => by rw [z, hpl] at h; cases h; exact q _ _ rfl
    rcases hm with h | ⟨x, h⟩ | h | ⟨j, l, h1, h2⟩
    · refine ⟨.inl h, ?_⟩
      obtain ⟨m, ⟨o, es, ep, g1, g2, _⟩, _⟩ := I.ns
      exact hne (h ▸ g1) (fun vs n e => by rw [g2] at e; cases e)
    · refine ⟨.inr (.inl ⟨x, h⟩), ?_⟩
      obtain ⟨u, ⟨o, g1, g2⟩, _⟩ := I.cell x b h
      exact hne g1 (fun vs n e => by rw [g2] at e; cases e)
    · refine ⟨.inr (.inr (.inl h)), ?_⟩
      rintro rfl
      rcases h with h | h
      · obtain ⟨o, g1, g2⟩ := hC.soft b h
        rw [hb] at g1; cases g1
      · obtain ⟨vs', g1⟩ := C.tb.has _ I.tab b h
        rw [hpl] at g1; cases g1
    · obtain ⟨q, l₀, e, _⟩ := hget j l h1
      exact ⟨.inr (.inr (.inr ⟨j, l₀, e, h2⟩)), fun z => q (I.inj j i a l₀ _ e hi (z ▸ h2) ha)⟩
  have L : Le C st ρ s (st.freeze i xs) ρ s := ⟨fun b o e q => ⟨e, fun z => q (hmut b z).1⟩, fun _ _ e => e, fun b o e => ⟨o, e⟩⟩
  have g := I.grow hC L
  obtain ⟨as, rr, nn, hdd⟩ := repAll_reads hr
  have hown : Rep s.heap ρ (Mut C (st.freeze i xs).σ ρ) (.ref a) (.dat (.list xs)) := by
    refine ⟨a :: as, .list hpl rfl rfl rr, fun b hb' hm => ?_, hdd⟩
    rcases List.mem_cons.mp hb' with rfl | hb'
    · exact (hmut b hm).2 rfl
    · exact nn b hb' (hmut b hm).1
  have hsub : ∀ {v : Value} {d : PV}, Rep s.heap ρ (Mut C st.σ ρ) v d → Rep s.heap ρ (Mut C (st.freeze i xs).σ ρ) v (d.sub i xs) := by
    intro v d r
    cases d with
    | own j =>
      show Rep s.heap ρ (Mut C (st.freeze i xs).σ ρ) v (if j = i then .dat (.list xs) else .own j)
      by_cases q : j = i
      · rw [if_pos q]
        obtain ⟨b, e1, e2⟩ := r
        rw [q, ha] at e1; cases e1
        rw [e2]; exact hown
      · rw [if_neg q]; exact r.grow g
    | dat d => exact Rep.grow g (d := .dat d) r
    | val u => exact Rep.grow g (d := .val u) r
    | mt x sp => exact Rep.grow g (d := .mt x sp) r
    | rng x y z => exact Rep.grow g (d := .rng x y z) r
    | lam p b s q => exact Rep.grow g (d := .lam p b s q) r
  have hsubs : ∀ {vs : List Value} {ds : List PV}, RepAll s.heap ρ (Mut C st.σ ρ) vs ds → RepAll s.heap ρ (Mut C (st.freeze i xs).σ ρ) vs (ds.map (PV.sub i xs)) := by
    intro vs
    induction vs with
    | nil => intro ds r; cases ds with | nil => trivial | cons => exact r.elim
    | cons v vs ih => intro ds r; cases ds with | nil => exact r.elim | cons d ds => exact ⟨hsub r.1, ih r.2⟩
  refine ⟨⟨I.same, I.keep, I.tok, ?_, ?_, ?_, ?_, ?_, I.tab⟩, L⟩
  · obtain ⟨m, h1, h2⟩ := I.ns
    refine ⟨m, h1, fun x d e k => ?_⟩
    rw [St.freeze, lookup_map_sub] at e
    cases e0 : st.m.lookup x with
    | none => rw [e0] at e; cases e
    | some d₀ =>
      rw [e0] at e; cases e
      obtain ⟨v, e1, e2⟩ := h2 x d₀ e0 k
      exact ⟨v, e1, hsub e2⟩
  · intro x c hx
    obtain ⟨u, h1, h2⟩ := I.cell x c hx
    refine ⟨u, h1, fun d e k => ?_⟩
    rw [St.freeze, lookup_map_sub] at e
    cases e0 : st.m.lookup x with
    | none => rw [e0] at e; cases e
    | some d₀ =>
      rw [e0] at e; cases e
      obtain ⟨v, e1, e2⟩ := h2 d₀ e0 k
      exact ⟨v, e1, hsub e2⟩
  · intro j l hj
    obtain ⟨q, l₀, e, rfl⟩ := hget j l hj
    obtain ⟨b, ws, f1, f2, f3, f4⟩ := I.own j l₀ e
    exact ⟨b, ws, f1, f2, hsubs f3, f4⟩
  · intro j k b l l' hj hk ej ek
    obtain ⟨_, l₁, e1, _⟩ := hget j l hj
    obtain ⟨_, l₂, e2, _⟩ := hget k l' hk
    exact I.inj j k b l₁ l₂ e1 e2 ej ek
  · show ρ.length = ((st.σ.set i none).map _).length
    rw [List.length_map, List.length_set]; exact I.len

theorem AG.freeze {α β : Type} {R : RelT α β} (hC : Ok C) {t : Sem α} {Q : β → St → Prop} (i : Nat) {xs : List PyData} (hi : st.σ[i]? = some (some (xs.map .dat))) (h : AG R C t (st.freeze i xs) Q) : AG R C t st Q := fun s ρ I =>
  have J := I.freeze hC hi
  wpAny_mono (h s ρ J.1) (fun _ _ p => p.le J.2) fun _ _ x => x

end

/-! functions -/
structure Room (n : Nat) (A : Around) : Prop where
  handled : A.handled = none
  depth : A.depth + n ≤ 990
  units : A.units + 70 + 10 * n ≤ 9800

def PV.fz : PV → Bool
  | .own _ => false
  | _ => true

/-- what the heap of a law holds, and the tables that grow -/
structure Wd where
  ok : Heap → Prop
  tb : Tabs
  keeps : ∀ h h' : Heap, (∀ b o, h.get? b = some o → h'.get? b = some o) → ok h → ok h'
def Fn (prog : Program) (w : World) (B : Wd) (fa : Addr) (n : Nat) (args : List PV) (Q : PV → Prop) : Prop :=
  ∀ A s g X vs, Room n A → (∀ b o, g.get? b = some o → s.heap.get? b = some o) → B.ok g → (∀ a ∈ B.tb.T, g.get? a = none) → B.tb.ok s.heap → 0 < s.toks → (∀ a, X a → ∃ o, g.get? a = some o ∧ Soft o) → RepAll s.heap [] (orT X B.tb.T) vs args →
    codeAny (model prog w) A (.call (.ref fa) ⟨vs, []⟩) (fun r s' => ∃ v d h tk, r = .ok (.ret v) ∧ s' = { s with heap := h, toks := tk } ∧ (∀ b o, g.get? b = some o → h.get? b = some o) ∧ B.tb.ok h ∧ s.toks ≤ tk ∧ Rep h [] (orT X B.tb.T) v d ∧ Q d) s

theorem Fn.mono {prog : Program} {w : World} {B : Wd} {fa : Addr} {n : Nat} {args : List PV} {Q Q' : PV → Prop} (h : Fn prog w B fa n args Q) (hq : ∀ d, Q d → Q' d) : Fn prog w B fa n args Q' :=
  fun A s g X vs a b c d e f i j => codeAny_mono (h A s g X vs a b c d e f i j) fun _ _ ⟨v, d, h, tk, h1, h2, h3, h4, h5, h6, h7⟩ => ⟨v, d, h, tk, h1, h2, h3, h4, h5, h6, hq _ h7⟩

theorem Rep.fz {h : Heap} {ρ ρ' : List Addr} {O O' : Addr → Prop} (hO : ∀ a, O' a → O a) {v : Value} : ∀ {d : PV}, d.fz = true → Rep h ρ O v d → Rep h ρ' O' v d
  | .dat _, _, ⟨as, r, n, hd⟩ => ⟨as, r, fun a ha q => n a ha (hO a q), hd⟩
  | .own _, e, _ => nomatch e
  | .val _, _, e => e
  | .mt _ _, _, e => e
  | .rng _ _ _, _, e => e
  | .lam _ _ _ _, _, e => e
theorem RepAll.fz {h : Heap} {ρ ρ' : List Addr} {O O' : Addr → Prop} (hO : ∀ a, O' a → O a) : ∀ {vs : List Value} {ds : List PV}, ds.all PV.fz = true → RepAll h ρ O vs ds → RepAll h ρ' O' vs ds
  | [], [], _, _ => trivial
  | _ :: _, d :: ds, e, ⟨a, b⟩ => by
    rw [List.all_cons, Bool.and_eq_true] at e
    exact ⟨a.fz hO e.1, b.fz hO e.2⟩
  | [], _ :: _, _, h => h.elim
  | _ :: _, [], _, h => h.elim

section
variable {C : Ctx} {st : St} {Q : PV → St → Prop}

/-- the heap without the tables -/
theorem hide_all {C : Ctx} {st : St} {ρ : List Addr} {s : Shared} (hC : Ok C) (I : Inv C st ρ s) : (∀ b o, (hideAll s.heap C.tb.T).get? b = some o → s.heap.get? b = some o) ∧ (∀ b o, C.s₀.heap.get? b = some o → (hideAll s.heap C.tb.T).get? b = some o) ∧
    (∀ b o, s.heap.get? b = some o → b ∉ C.tb.T → (hideAll s.heap C.tb.T).get? b = some o) ∧ (∀ a ∈ C.tb.T, (hideAll s.heap C.tb.T).get? a = none) ∧
    (∀ a, (Mut C st.σ ρ a ∧ a ∉ C.tb.T) → ∃ o, (hideAll s.heap C.tb.T).get? a = some o ∧ Soft o) :=
  ⟨fun b o e => of_hideAll _ e, fun b o e => hideAll_get _ (I.keep b o e) (fun q => by rw [hC.tabs b q] at e; cases e), fun b o e q => hideAll_get _ e q, fun a ha => hideAll_none _ ha, fun a ⟨hm, hn⟩ => by
    obtain ⟨o, ho⟩ := mut_has hC I hm
    exact ⟨o, hideAll_get _ ho hn, I.soft hC a o hm ho⟩⟩
theorem mut_or {C : Ctx} {σ : List (Option (List PV))} {ρ : List Addr} {a : Addr} : Mut C σ ρ a ↔ orT (fun a => Mut C σ ρ a ∧ a ∉ C.tb.T) C.tb.T a := by
  constructor
  · intro h
    by_cases q : a ∈ C.tb.T
    · exact .inr q
    · exact .inl ⟨h, q⟩
  · rintro (h | h)
    · exact h.1
    · exact .inr (.inr (.inl (.inr h)))

/-- a call of a def of the text -/
theorem AE_callF (hC : Ok C) {f : Expr} {es : List Expr} {pos : Pos} {B : Wd} {n : Nat} (hB : B.ok C.s₀.heap) (htb : C.tb = B.tb) (hroom : Room n C.A)
    {fa : Addr} {o : Obj} {fd : FuncData} (ho : C.s₀.heap.get? fa = some o) (hd : o.data = .func fd)
    (h : AE C f st fun d st₁ => d = .val (.ref fa) ∧ AEs C pos es st₁ fun ds st₂ => ds.all PV.fz = true ∧ Fn C.prog C.w B fa n ds fun d => Q d st₂)
    (hp : plainTargets es = true := by rfl)
    (he : eval (.Call f es [] pos) C.env = (do callWith pos (← eval f C.env) [] (backTo pos (starEach es C.env)) []) := by rfl) : AE C (.Call f es [] pos) st Q := fun s ρ I => by
  rw [he]
  refine wpAny_bind (h.use I fun v s₁ d st₁ ρ₁ I₁ L₁ r₁ ⟨e, h₁⟩ => ?_)
  subst e
  have e : v = .ref fa := r₁
  subst e
  refine callWith_function (o := o) (fd := fd) (evalArgs_es hp (AG.use h₁ I₁ fun vs s₂ ds st₂ ρ₂ I₂ L₂ r₂ ⟨hz, h₂⟩ => ⟨⟨I₂.keep _ _ ho, hd⟩, ?_⟩))
  obtain ⟨g1, g2, g3, g4, g5⟩ := hide_all hC I₂
  have htok := I₂.tab
  rw [htb] at g1 g2 g3 g4 g5 htok
  refine wpAny_call (codeAny_mono (h₂ C.A s₂ (hideAll s₂.heap B.tb.T) (fun a => Mut C st₂.σ ρ₂ a ∧ a ∉ B.tb.T) vs hroom g1 (B.keeps _ _ g2 hB) g4 htok (Nat.lt_of_lt_of_le hC.tok I₂.tok) g5
    (r₂.fz (fun a q => by rw [← htb] at q; exact mut_or.mpr q) hz)) fun r s₃ ⟨v, d, h', tk, hr, hs, hk, hok, htk, hrep, hq⟩ => ?_)
  subst hr hs
  have J := I₂.keepsT hC (h' := h') (tk := tk) (fun b o e q => hk b o (g3 b o e (by rw [← htb]; exact q))) (by rw [htb]; exact hok) htk
  refine ⟨d, st₂, ρ₂, J.1, (L₁.trans L₂).trans J.2, ?_, hq⟩
  have hO : ∀ a, Mut C st₂.σ ρ₂ a → orT (fun a => Mut C st₂.σ ρ₂ a ∧ a ∉ B.tb.T) B.tb.T a := fun a q => by rw [← htb]; exact mut_or.mp q
  cases d with
  | own i => obtain ⟨a, e, _⟩ := hrep; simp at e
  | dat d => exact Rep.fz (d := .dat d) hO rfl hrep
  | val u => exact Rep.fz (d := .val u) hO rfl hrep
  | mt x sp => exact Rep.fz (d := .mt x sp) hO rfl hrep
  | rng x y z => exact Rep.fz (d := .rng x y z) hO rfl hrep
  | lam p b s q => exact Rep.fz (d := .lam p b s q) hO rfl hrep
end

theorem cells_lookup_from : ∀ (names : List (Str × NameKind)) (n : Nat) (acc : List (Str × Addr)) (x : Str), names.lookup x = some .cell → ∃ c, (cellsFrom n names acc).lookup x = some c := by
  have mono : ∀ (names : List (Str × NameKind)) (n : Nat) (acc : List (Str × Addr)) (x : Str) (c : Addr), acc.lookup x = some c → ∃ c, (cellsFrom n names acc).lookup x = some c := by
    intro names
    induction names with
    | nil => intro n acc x c h; exact ⟨c, h⟩
    | cons p r ih =>
      intro n acc x c h
      obtain ⟨y, k⟩ := p
      unfold cellsFrom
      split
      · by_cases q : x = y
        · subst q; exact ih (n + 1) ((x, n) :: acc) x n (by rw [List.lookup_cons]; simp)
        · exact ih (n + 1) ((y, n) :: acc) x c (by rw [List.lookup_cons]; have : (x == y) = false := by simpa using q
                                                   rw [this]; exact h)
      · exact ih n acc x c h
  intro names
  induction names with
  | nil => intro n acc x h; cases h
  | cons p r ih =>
    intro n acc x h
    obtain ⟨y, k⟩ := p
    rw [List.lookup_cons] at h
    unfold cellsFrom
    by_cases q : x = y
    · subst q
      simp at h
      subst h
      simp only [beq_self_eq_true, if_true]
      exact mono r (n + 1) ((x, n) :: acc) x n (by rw [List.lookup_cons]; simp)
    · have e : (x == y) = false := by simpa using q
      rw [e] at h
      split
      · exact ih (n + 1) ((y, n) :: acc) x h
      · exact ih n acc x h

/-- what a body is walked in -/
structure In (prog : Program) (w : World) (B : Wd) (ks : List (Str × NameKind)) (n : Nat) (wr : Bool) (C : Ctx) : Prop where
  ok : Ok C
  prog : C.prog = prog
  w : C.w = w
  base : B.ok C.s₀.heap
  tb : C.tb = B.tb
  kinds : ∀ x k, ks.lookup x = some k → C.env.kindOf x = some k
  room : Room n C.A
  cell : ∀ x, ks.lookup x = some .cell → ∃ c, C.env.cells.lookup x = some c
  free : wr = true → ∀ x c, C.env.cells.lookup x = some c → C.s₀.heap.get? c = none

theorem bindParams_tok {M : Model} {A : Around} {E : Value → Shared → Prop} {s₀ : Shared} {env : Env} (f : Str × Value → PUnit → Sem (ForInStep PUnit)) (hf : ∀ n v u, f (n, v) u = (do storeName env n v; pure (.yield ⟨⟩))) (hk : env.scope.kind = .function)
    {n : Str} {v : Value} {r : List (Str × Value)} {m cm : Str → Option Value} {s : Shared} {Q : PUnit → Shared → Prop} (x : InCallC s₀ env.locals m env.cells cm s) (hl : env.kindOf n = some .local)
    (hkind : ∀ x ∈ r, env.kindOf x.1 = some .local ∨ (env.kindOf x.1 = some .cell ∧ (env.cells.lookup x.1).isSome = true))
    (h : ∀ s', InCallC s₀ env.locals (bindL env.kindOf ((n, v) :: r) m) env.cells (bindC env.kindOf ((n, v) :: r) cm) s' → 0 < s'.toks → Q ⟨⟩ s') : wpAny M A (forIn ((n, v) :: r) ⟨⟩ f) Q E s := by
  rw [List.forIn_cons, hf]
  refine wpAny_bind (wpAny_bind (wpAny_storeName_local hl x.toInCall.ns (fun h' hn' hs' => wpAny_pure ?_) (by rw [hk]; rfl)))
  have x' : InCallC s₀ env.locals (fun y => if y = n then some v else m y) env.cells cm { s with heap := h', toks := s.toks + 1 } := by
    refine ⟨⟨?_, hn', fun b o e => ?_, x.toInCall.fresh⟩, fun k c hc => ?_, x.apart, x.above⟩
    · obtain ⟨h₁, tk, rfl⟩ := x.toInCall.same
      exact ⟨h', _, rfl⟩
    · exact hs'.extBut b o (Nat.ne_of_lt (Nat.lt_of_lt_of_le (Heap.lt_size e) x.toInCall.fresh)) (x.toInCall.keep b o e)
    · exact (x.cell k c hc).sameBut hs' (Nat.ne_of_gt (x.above k c (mem_of_lookup hc)))
  refine wpAny_mono (wpAny_with_toks (n := 1) (by show 1 ≤ s.toks + 1; omega) (wpAny_bindParams f hf hk r _ _ _ (fun _ s'' => 1 ≤ s''.toks → Q ⟨⟩ s'') x' hkind fun s'' x'' htk => h s'' ?_ htk)) (fun _ _ q => q) fun _ _ q => q
  unfold bindL bindC; rw [if_pos hl, if_pos hl]; exact x''

theorem newEnv_tok {M : Model} {A : Around} {E : Value → Shared → Prop} {s : Shared} {scope : Scope} {globals : Addr} {n : Str} {v : Value} {r : List (Str × Value)} {qual : Str} {func : Option Addr} {code : Value} {builtins : Addr} {Q : Env → Shared → Prop}
    (hk : scope.kind = .function) (hl : scope.names.lookup n = some .local)
    (hkind : ∀ x ∈ r, scope.names.lookup x.1 = some .local ∨ (scope.names.lookup x.1 = some .cell ∧ ((cellsFrom (s.heap.objs.size + 1) scope.names []).lookup x.1).isSome = true))
    (hQ : ∀ env, env = newEnv scope s.heap.objs.size globals (cellsFrom (s.heap.objs.size + 1) scope.names []) qual func code none builtins →
      ∀ s', InCallC s env.locals (bindL env.kindOf ((n, v) :: r) fun _ => none) env.cells (bindC env.kindOf ((n, v) :: r) fun _ => none) s' → 0 < s'.toks → Q env s') :
    wpAny M A (newFunctionEnv scope globals [] ((n, v) :: r) qual func code none builtins) Q E s := by
  simp only [newFunctionEnv, Option.isSome_none, Bool.false_eq_true, if_false]
  refine wpAny_bind (wpAny_alloc ?_)
  refine wpAny_bind (wpAny_layCells _ (fun name kind cells => by cases hkc : kind == NameKind.cell <;> simp [hkc]) _ _ _ _ ?_)
  have ok := cellsFrom_ok scope.names (s.heap.push { cls := .type "frame", data := .dict #[] }) (s.heap.objs.size + 1) [] ⟨fun _ _ hm => (nomatch hm), List.Pairwise.nil⟩ (by rw [Heap.size_push]; exact Nat.le_refl _)
  rw [Heap.size_push] at ok
  rw [show ({ s with heap := s.heap.push { cls := .type "frame", data := .dict #[] } } : Shared).heap.objs.size = s.heap.objs.size + 1 from Heap.size_push ..]
  refine wpAny_bind (bindParams_tok (s₀ := s) (env := newEnv scope s.heap.objs.size globals (cellsFrom (s.heap.objs.size + 1) scope.names []) qual func code none builtins)
    _ (fun _ _ _ => rfl) hk
    ⟨⟨⟨_, _, rfl⟩, (Heap.Ns.new s.heap (.type "frame")).keeps (pushCells_keeps _ _), fun b o e => pushCells_keeps _ _ b o (Heap.get?_push_of_some _ e), Nat.le_refl _⟩,
      fun n c hc => (ok.empty n c (mem_of_lookup hc)).1, ok.apart, fun n c hm => (ok.empty n c hm).2⟩ hl
    hkind fun s' x ht => wpAny_pure (hQ _ rfl s' x ht))

def RetQ (Q : PV → Prop) (f : Fl) (_ : St) : Prop := match f with
  | .ret d => d.fz = true ∧ Q d
  | .next => Q (.dat .none)
  | _ => False
theorem RetQ.ret {Q : PV → Prop} {d : PV} {st : St} (h : d.fz = true ∧ Q d) : RetQ Q (.ret d) st := h
theorem Fn.coreC {prog : Program} {w : World} {B : Wd} {fa : Addr} {n : Nat} {args : List PV} {Q : PV → Prop} {fd : FuncData} {body : List Stmt} {ps : List Str}
    (ho : ∀ h, B.ok h → ∃ o, h.get? fa = some o ∧ o.data = .func fd) (hlim : ∀ h, B.ok h → h.NoLimit) (hcd : ∀ h, B.ok h → h.CodeRec fd.code fd.qualname) (hbody : fd.body = .stmts body)
    (hbind : ∀ vs : List Value, vs.length = args.length → bindArgs fd ⟨vs, []⟩ = pure (ps.zip vs)) (hps : ps.length = args.length) (hnd : ps.Nodup)
    (hkind : ∀ x ∈ ps, fd.scope.names.lookup x = some .local ∨ fd.scope.names.lookup x = some .cell)
    (h : ∀ C, In prog w B fd.scope.names n true C → (C.env.code = fd.code ∧ C.env.qual = fd.qualname ++ ".<locals>.") → AS C body ⟨ps.zip args, []⟩ (RetQ Q))
    (hclo : fd.closure = [] := by rfl) (hglob : fd.globals = mainGlobals := by rfl) (hbi : fd.builtins = builtinsNs := by rfl)
    (hco : fd.scope.isCoroutine = false := by rfl) (hgen : fd.scope.isGenerator = false := by rfl) (hk : fd.scope.kind = .function := by rfl)  :
    ∀ A s g X vs, Room (n + 1) A → (∀ b o, g.get? b = some o → s.heap.get? b = some o) → B.ok g → (∀ a ∈ B.tb.T, g.get? a = none) → B.tb.ok s.heap → (0 < s.toks ∨ ∃ p r, ps = p :: r ∧ fd.scope.names.lookup p = some .local) → (∀ a, X a → ∃ o, g.get? a = some o ∧ Soft o) → RepAll s.heap [] (orT X B.tb.T) vs args →
    codeAny (model prog w) A (.call (.ref fa) ⟨vs, []⟩) (fun r s' => ∃ v d h tk, r = .ok (.ret v) ∧ s' = { s with heap := h, toks := tk } ∧ (∀ b o, g.get? b = some o → h.get? b = some o) ∧ B.tb.ok h ∧ s.toks ≤ tk ∧ Rep h [] (orT X B.tb.T) v d ∧ Q d) s := by
  intro A s g X vs hroom hgs hBg hgT hTok htok hX hr
  have hB := B.keeps _ _ hgs hBg
  obtain ⟨o, ho, hd⟩ := ho _ hB
  have hlen := repAll_len hr
  have hl : ps.length = vs.length := by rw [hps, hlen]
  have hfin : codeAny (model prog w) A (.call (.ref fa) ⟨vs, []⟩) (fun r s' => ∃ v d h tk, r = .ok (.ret v) ∧ s' = { s with heap := h, toks := tk } ∧ (∀ b o, g.get? b = some o → h.get? b = some o) ∧ B.tb.ok h ∧ Rep h [] (orT X B.tb.T) v d ∧ Q d) s → codeAny (model prog w) A (.call (.ref fa) ⟨vs, []⟩) (fun r s' => ∃ v d h tk, r = .ok (.ret v) ∧ s' = { s with heap := h, toks := tk } ∧ (∀ b o, g.get? b = some o → h.get? b = some o) ∧ B.tb.ok h ∧ s.toks ≤ tk ∧ Rep h [] (orT X B.tb.T) v d ∧ Q d) s := fun k =>
    codeAny_mono (codeAny_toks_of (n := s.toks) (Nat.le_refl _) k) fun r s' ⟨ht, v, d, h, tk, h1, h2, h3, h4, h5, h6⟩ => ⟨v, d, h, tk, h1, h2, h3, h4, by subst h2; exact ht, h5, h6⟩
  refine hfin (codeAny_call_function (by have := hroom.depth; show A.depth < 1000; omega) ho hd hco hgen hbody (hcd _ hB) ?_)
  rw [hbind vs hlen, hclo]
  have hks : ∀ x ∈ ps.zip vs, fd.scope.names.lookup x.1 = some .local ∨ (fd.scope.names.lookup x.1 = some .cell ∧ ((cellsFrom (s.heap.objs.size + 1) fd.scope.names []).lookup x.1).isSome = true) := by
    intro x hx
    obtain ⟨y, v⟩ := x
    have hy : y ∈ ps := (List.of_mem_zip hx).1
    rcases hkind y hy with q | q
    · exact .inl q
    · refine .inr ⟨q, ?_⟩
      obtain ⟨c, hc⟩ := cells_lookup_from fd.scope.names (s.heap.objs.size + 1) [] y q
      rw [hc]; rfl
  have enter : ∀ {M : Model} {A : Around} {E : Value → Shared → Prop} {qual : Str} {func : Option Addr} {code : Value} {builtins globals : Addr} {Q : Env → Shared → Prop}, (∀ env, env = newEnv fd.scope s.heap.objs.size globals (cellsFrom (s.heap.objs.size + 1) fd.scope.names []) qual func code none builtins →
      ∀ s', InCallC s env.locals (bindL env.kindOf (ps.zip vs) fun _ => none) env.cells (bindC env.kindOf (ps.zip vs) fun _ => none) s' → s.toks ≤ s'.toks → 0 < s'.toks → Q env s') → wpAny M A (newFunctionEnv fd.scope globals [] (ps.zip vs) qual func code none builtins) Q E s := by
    intro M A E qual func code builtins globals Q hQ
    rcases htok with htok | ⟨p, r, rfl, hp⟩
    · exact wpAny_mono (wpAny_with_toks (n := s.toks) (Nat.le_refl _) (wpAny_newFunctionEnv_cells (Q := fun env s' => s.toks ≤ s'.toks → Q env s') (E := fun e s' => s.toks ≤ s'.toks → E e s') hk hks fun env he s₁ J htk => hQ env he s₁ J htk (Nat.lt_of_lt_of_le htok htk))) (fun _ _ q => q) fun _ _ q => q
    · cases vs with
      | nil => exact absurd hl (by simp)
      | cons v vs =>
        rw [List.zip_cons_cons] at hQ hks ⊢
        exact wpAny_mono (wpAny_with_toks (n := s.toks) (Nat.le_refl _) (newEnv_tok (Q := fun env s' => s.toks ≤ s'.toks → Q env s') (E := fun e s' => s.toks ≤ s'.toks → E e s') hk hp (fun x hx => hks x (List.mem_cons_of_mem _ hx)) fun env he s₁ J h0 htk => hQ env he s₁ J htk h0)) (fun _ _ q => q) fun _ _ q => q
  refine wpAny_pure (enter fun env he s₁ J htk1 htk0 => ?_)
  · subst he
    refine ⟨(hlim _ hB).keeps J.toInCall.keep, codeAny_func ?_⟩
    have henvk : ∀ x, (callEnvC fd s.heap.objs.size fa).kindOf x = fd.scope.names.lookup x := fun _ => rfl
    have key : ∀ x, ((ps.zip vs).lookup x = none ∧ (ps.zip args).lookup x = none) ∨ ∃ v d, (ps.zip vs).lookup x = some v ∧ (ps.zip args).lookup x = some d ∧ Rep s.heap [] (orT X B.tb.T) v d := by
      intro x
      clear hbind hkind h hps J hnd hfin htk1 htk0 henvk hks enter htok
      induction ps generalizing vs args with
      | nil => exact .inl ⟨rfl, rfl⟩
      | cons p ps ih =>
        cases vs with
        | nil => exact absurd hl (by simp)
        | cons v vs =>
          cases args with
          | nil => exact hr.elim
          | cons d ds =>
            simp only [List.zip_cons_cons, List.lookup_cons]
            cases x == p with
            | true => exact .inr ⟨v, d, rfl, rfl, hr.1⟩
            | false => exact ih vs hr.2 (by simpa using hlen) (by simpa using hl)
    have hbl : ∀ x, (ps.zip vs).lookup x ≠ none → fd.scope.names.lookup x = some .local → bindL (callEnvC fd s.heap.objs.size fa).kindOf (ps.zip vs) (fun _ => none) x = (ps.zip vs).lookup x := by
      intro x hx hloc
      have gen : ∀ (bs : List (Str × Value)) (m : Str → Option Value), (bs.map (·.1)).Nodup → bindL (callEnvC fd s.heap.objs.size fa).kindOf bs m x = ((bs.lookup x).or (m x)) := by
        intro bs
        induction bs with
        | nil => intro m _; simp [bindL]
        | cons b bs ih =>
          intro m hn
          obtain ⟨y, v⟩ := b
          rw [List.map_cons, List.nodup_cons] at hn
          rw [bindL, ih _ hn.2, List.lookup_cons]
          by_cases q : x = y
          · subst q
            have : bs.lookup x = none := by
              cases e : bs.lookup x with
              | none => rfl
              | some v' => exact absurd (List.mem_map.mpr ⟨(x, v'), mem_of_lookup e, rfl⟩) hn.1
            simp [this, henvk, hloc]
          · have e : (x == y) = false := by simpa using q
            rw [e]
            by_cases z : fd.scope.names.lookup y = some .local
            · simp [henvk, z, q]
            · simp [henvk, z]
      rw [gen _ _ (by rw [List.map_fst_zip (by omega)]; exact hnd)]
      simp
    have hbc : ∀ x, (ps.zip vs).lookup x ≠ none → fd.scope.names.lookup x = some .cell → bindC (callEnvC fd s.heap.objs.size fa).kindOf (ps.zip vs) (fun _ => none) x = (ps.zip vs).lookup x := by
      intro x hx hloc
      have gen : ∀ (bs : List (Str × Value)) (m : Str → Option Value), (bs.map (·.1)).Nodup → bindC (callEnvC fd s.heap.objs.size fa).kindOf bs m x = ((bs.lookup x).or (m x)) := by
        intro bs
        induction bs with
        | nil => intro m _; simp [bindC]
        | cons b bs ih =>
          intro m hn
          obtain ⟨y, v⟩ := b
          rw [List.map_cons, List.nodup_cons] at hn
          rw [bindC, ih _ hn.2, List.lookup_cons]
          by_cases q : x = y
          · subst q
            have : bs.lookup x = none := by
              cases e : bs.lookup x with
              | none => rfl
              | some v' => exact absurd (List.mem_map.mpr ⟨(x, v'), mem_of_lookup e, rfl⟩) hn.1
            simp [this, henvk, hloc]
          · have e : (x == y) = false := by simpa using q
            rw [e]
            by_cases z : fd.scope.names.lookup y = some .local
            · simp [henvk, z]
            · simp [henvk, z, q]
      rw [gen _ _ (by rw [List.map_fst_zip (by omega)]; exact hnd)]
      simp
    let C : Ctx := ⟨prog, w, A.deeper (callEnvC fd s.heap.objs.size fa), callEnvC fd s.heap.objs.size fa, { s with heap := g, toks := s₁.toks }, X, B.tb⟩
    have hkeep := J.toInCall.keep
    have hcapart : ∀ x y c, C.env.cells.lookup x = some c → C.env.cells.lookup y = some c → x = y := fun x y c h1 h2 => name_of_addr J.apart (mem_of_lookup h1) (mem_of_lookup h2)
    have hgn : ∀ a, s.heap.get? a = none → g.get? a = none := fun a e => by
      cases q : g.get? a with
      | none => rfl
      | some o => rw [hgs _ _ q] at e; cases e
    have hOk : Ok C := ⟨hk, hglob, hbi, hgn _ (get?_size _), hX, hroom.handled, htk0, hcapart, hgT⟩
    have hIn : In prog w B fd.scope.names n true C := ⟨hOk, rfl, rfl, hBg, rfl, fun x k h => h, ⟨hroom.handled, by show A.depth + 1 + n ≤ 990; have := hroom.depth; omega, by show A.units + 3 + 70 + 10 * n ≤ 9800; have := hroom.units; omega⟩,
      fun x hx => cells_lookup_from fd.scope.names (s.heap.objs.size + 1) [] x hx, fun _ x c hc => by
      have := J.above x c (mem_of_lookup hc)
      refine hgn c ?_
      cases e : s.heap.get? c with
      | none => rfl
      | some o => exact absurd (Heap.lt_size e) (Nat.lt_asymm this)⟩
    have up : ∀ {v : Value} {d : PV}, Rep s.heap [] (orT X B.tb.T) v d → Rep s₁.heap [] (Mut C [] []) v d := by
      intro v d r
      refine r.grow ⟨fun a o ha ho => by
        rcases ha with ha | ha
        · obtain ⟨o', h1, h2⟩ := hX a ha; rw [hgs _ _ h1] at ho; cases ho; exact h2
        · obtain ⟨vs', h1⟩ := B.tb.has _ hTok a ha; rw [h1] at ho; cases ho; exact .inr (.inr (.inr ⟨rfl, _, rfl⟩)), fun a o e q => ⟨hkeep a o e, fun hm => ?_⟩, fun _ _ e => e⟩
      rcases hm with h | ⟨x, h⟩ | h | ⟨i, l, h1, _⟩
      · exact absurd (Heap.lt_size e) (by rw [h]; exact Nat.lt_irrefl _)
      · exact absurd (Heap.lt_size e) (Nat.lt_asymm (J.above x a (mem_of_lookup h)))
      · exact q h
      · simp at h1
    have I : Inv C ⟨ps.zip args, []⟩ [] s₁ := by
      refine ⟨let ⟨h1, t1, e1⟩ := J.toInCall.same; ⟨h1, t1, by rw [e1]⟩, fun b o e => hkeep b o (hgs b o e), Nat.le_refl _, ⟨_, J.toInCall.ns, fun x d e kx => ?_⟩, fun x c hc => ⟨_, J.cell x c hc, fun d e kx => ?_⟩, fun i l hi => by simp at hi, fun i j a l l' hi => by simp at hi, rfl, B.tb.stab _ _ hTok fun a o e _ => hkeep a o e⟩
      · rcases key x with hn | ⟨v, d', e1, e2, e3⟩
        · rw [hn.2] at e; cases e
        · rw [e] at e2; cases e2
          exact ⟨v, (hbl x (by rw [e1]; simp) kx).trans e1, up e3⟩
      · rcases key x with hn | ⟨v, d', e1, e2, e3⟩
        · rw [hn.2] at e; cases e
        · rw [e] at e2; cases e2
          exact ⟨v, (hbc x (by rw [e1]; simp) kx).trans e1, up e3⟩
    refine wpAny_mono (h C hIn ⟨rfl, rfl⟩ s₁ [] I) (fun f s₂ ⟨g, st₂, ρ₂, I₂, L₂, r₂, h₂⟩ => ?_) fun _ _ x => x.elim
    obtain ⟨h2, tk2, e2⟩ := I₂.same
    cases f <;> cases g <;> first
      | exact r₂.elim
      | exact h₂.elim
      | (subst e2; exact ⟨_, .dat .none, h2, tk2, rfl, rfl, I₂.keep, I₂.tab, ⟨[], .none, (fun _ h => nomatch h), rfl⟩, h₂⟩)
      | (subst e2; exact ⟨_, _, h2, tk2, rfl, rfl, I₂.keep, I₂.tab, Rep.fz (fun a q => .inr (.inr (.inl q))) h₂.1 r₂, h₂.2⟩)
theorem Fn.core {prog : Program} {w : World} {B : Wd} {fa : Addr} {n : Nat} {args : List PV} {Q : PV → Prop} {fd : FuncData} {body : List Stmt} {ps : List Str}
    (ho : ∀ h, B.ok h → ∃ o, h.get? fa = some o ∧ o.data = .func fd) (hlim : ∀ h, B.ok h → h.NoLimit) (hcd : ∀ h, B.ok h → h.CodeRec fd.code fd.qualname) (hbody : fd.body = .stmts body)
    (hbind : ∀ vs : List Value, vs.length = args.length → bindArgs fd ⟨vs, []⟩ = pure (ps.zip vs)) (hps : ps.length = args.length) (hnd : ps.Nodup)
    (hkind : ∀ x ∈ ps, fd.scope.names.lookup x = some .local ∨ fd.scope.names.lookup x = some .cell)
    (h : ∀ C, In prog w B fd.scope.names n true C → AS C body ⟨ps.zip args, []⟩ (RetQ Q))
    (hclo : fd.closure = [] := by rfl) (hglob : fd.globals = mainGlobals := by rfl) (hbi : fd.builtins = builtinsNs := by rfl)
    (hco : fd.scope.isCoroutine = false := by rfl) (hgen : fd.scope.isGenerator = false := by rfl) (hk : fd.scope.kind = .function := by rfl)  :
    ∀ A s g X vs, Room (n + 1) A → (∀ b o, g.get? b = some o → s.heap.get? b = some o) → B.ok g → (∀ a ∈ B.tb.T, g.get? a = none) → B.tb.ok s.heap → (0 < s.toks ∨ ∃ p r, ps = p :: r ∧ fd.scope.names.lookup p = some .local) → (∀ a, X a → ∃ o, g.get? a = some o ∧ Soft o) → RepAll s.heap [] (orT X B.tb.T) vs args →
    codeAny (model prog w) A (.call (.ref fa) ⟨vs, []⟩) (fun r s' => ∃ v d h tk, r = .ok (.ret v) ∧ s' = { s with heap := h, toks := tk } ∧ (∀ b o, g.get? b = some o → h.get? b = some o) ∧ B.tb.ok h ∧ s.toks ≤ tk ∧ Rep h [] (orT X B.tb.T) v d ∧ Q d) s :=
  Fn.coreC ho hlim hcd hbody hbind hps hnd hkind (fun C hI _ => h C hI) hclo hglob hbi hco hgen hk
theorem Fn.of {prog : Program} {w : World} {B : Wd} {fa : Addr} {n : Nat} {args : List PV} {Q : PV → Prop} {fd : FuncData} {body : List Stmt} {ps : List Str}
    (ho : ∀ h, B.ok h → ∃ o, h.get? fa = some o ∧ o.data = .func fd) (hlim : ∀ h, B.ok h → h.NoLimit) (hcd : ∀ h, B.ok h → h.CodeRec fd.code fd.qualname) (hbody : fd.body = .stmts body)
    (hbind : ∀ vs : List Value, vs.length = args.length → bindArgs fd ⟨vs, []⟩ = pure (ps.zip vs)) (hps : ps.length = args.length) (hnd : ps.Nodup)
    (hkind : ∀ x ∈ ps, fd.scope.names.lookup x = some .local ∨ fd.scope.names.lookup x = some .cell)
    (h : ∀ C, In prog w B fd.scope.names n true C → AS C body ⟨ps.zip args, []⟩ (RetQ Q))
    (hclo : fd.closure = [] := by rfl) (hglob : fd.globals = mainGlobals := by rfl) (hbi : fd.builtins = builtinsNs := by rfl)
    (hco : fd.scope.isCoroutine = false := by rfl) (hgen : fd.scope.isGenerator = false := by rfl) (hk : fd.scope.kind = .function := by rfl) : Fn prog w B fa (n + 1) args Q :=
  fun A s g X vs hroom h1 h2 h3 h4 htok hX hr => Fn.core ho hlim hcd hbody hbind hps hnd hkind h hclo hglob hbi hco hgen hk A s g X vs hroom h1 h2 h3 h4 (.inl htok) hX hr

end Mine

end
section
open PySem PySem.W PyProof.Rows PySem.Calls
namespace Mine
set_option linter.all false

/-! comprehensions -/
def closOf (cells : List (Str × Addr)) : List (Str × NameKind) → List (Str × Addr) → List (Str × Addr)
  | [], acc => acc
  | (n, k) :: r, acc => if k == .free then closOf cells r ((n, (cells.lookup n).getD 0) :: acc) else closOf cells r acc

theorem closureFor_of {scope : Scope} {env : Env} (h : ∀ x, (x, NameKind.free) ∈ scope.names → ∃ c, env.cells.lookup x = some c) : closureFor scope env = pure (closOf env.cells scope.names []) := by
  have gen : ∀ (names : List (Str × NameKind)) (acc : List (Str × Addr)), (∀ x, (x, NameKind.free) ∈ names → ∃ c, env.cells.lookup x = some c) →
      (forIn (m := Sem) names acc (fun x cs => match x with
        | (name, kind) => if (kind == NameKind.free) = true then (do let c ← cellOf env name; pure (ForInStep.yield ((name, c) :: cs))) else pure (ForInStep.yield cs))) = pure (closOf env.cells names acc) := by
    intro names
    induction names with
    | nil => intro acc _; rfl
    | cons p r ih =>
      intro acc h
      obtain ⟨n, k⟩ := p
      rw [List.forIn_cons, closOf]
      by_cases hk : (k == NameKind.free) = true
      · have hk' : k = .free := by simpa using hk
        subst hk'
        obtain ⟨c, hc⟩ := h n List.mem_cons_self
        simp only [hk, if_true, cellOf, hc, Option.getD_some, pure_bind]
        exact ih _ fun x hx => h x (List.mem_cons_of_mem _ hx)
      · simp only [hk, if_false, pure_bind, Bool.false_eq_true]
        exact ih _ fun x hx => h x (List.mem_cons_of_mem _ hx)
  unfold closureFor
  have := gen scope.names [] h
  simp only [bind_pure]
  exact this

theorem closOf_lookup {cells : List (Str × Addr)} : ∀ (names : List (Str × NameKind)) (acc : List (Str × Addr)) (x : Str) (c : Addr), (closOf cells names acc).lookup x = some c → acc.lookup x = some c ∨ ((x, NameKind.free) ∈ names ∧ c = (cells.lookup x).getD 0)
  | [], acc, x, c, h => .inl h
  | (n, k) :: r, acc, x, c, h => by
    rw [closOf] at h
    by_cases hk : (k == NameKind.free) = true
    · rw [if_pos hk] at h
      have hk' : k = .free := by simpa using hk
      subst hk'
      rcases closOf_lookup r _ x c h with q | ⟨q1, q2⟩
      · rw [List.lookup_cons] at q
        by_cases z : x = n
        · subst z; simp at q; exact .inr ⟨List.mem_cons_self, q.symm⟩
        · have : (x == n) = false := by simpa using z
          rw [this] at q; exact .inl q
      · exact .inr ⟨List.mem_cons_of_mem _ q1, q2⟩
    · rw [if_neg hk] at h
      rcases closOf_lookup r _ x c h with q | ⟨q1, q2⟩
      · exact .inl q
      · exact .inr ⟨List.mem_cons_of_mem _ q1, q2⟩
theorem closOf_has {cells : List (Str × Addr)} : ∀ (names : List (Str × NameKind)) (acc : List (Str × Addr)) (x : Str), ((x, NameKind.free) ∈ names ∨ ∃ c, acc.lookup x = some c) → ∃ c, (closOf cells names acc).lookup x = some c
  | [], acc, x, h => h.elim (fun q => nomatch q) id
  | (n, k) :: r, acc, x, h => by
    rw [closOf]
    by_cases hk : (k == NameKind.free) = true
    · rw [if_pos hk]
      refine closOf_has r _ x ?_
      have hk' : k = .free := by simpa using hk
      by_cases z : x = n
      · subst z; exact .inr ⟨(cells.lookup x).getD 0, by rw [List.lookup_cons]; simp⟩
      · rcases h with h | ⟨c, h⟩
        · rcases List.mem_cons.mp h with q | q
          · cases q; exact absurd rfl z
          · exact .inl q
        · refine .inr ⟨c, ?_⟩
          rw [List.lookup_cons]
          have : (x == n) = false := by simpa using z
          rw [this]; exact h
    · rw [if_neg hk]
      refine closOf_has r _ x ?_
      rcases h with h | h
      · rcases List.mem_cons.mp h with q | q
        · cases q; exact absurd rfl hk
        · exact .inl q
      · exact .inr h

/-- the kinds within -/
def compKinds (names : List (Str × NameKind)) : List (Str × NameKind) := names.map fun p => if p.2 == .free then (p.1, .cell) else p

theorem lookup_relabel {env : Env} (hf : env.scope.kind = .function) : ∀ (names : List (Str × NameKind)), (∀ x, (x, NameKind.free) ∈ names → env.kindOf x = some .cell) → ∀ (x : Str) (k : NameKind), (compKinds names).lookup x = some k →
    (names.map fun (n, k) => if (k == NameKind.free && env.scope.kind == .function && env.kindOf n == some .cell) then (n, NameKind.cell) else (n, k)).lookup x = some k
  | [], _, x, k, h => nomatch h
  | (n, kn) :: r, hfr, x, k, h => by
    have e : (if (kn == NameKind.free && env.scope.kind == .function && env.kindOf n == some .cell) = true then (n, NameKind.cell) else (n, kn)) = (if (kn == NameKind.free) = true then (n, NameKind.cell) else (n, kn)) := by
      by_cases hk : kn = .free
      · subst hk
        simp [hf, hfr n List.mem_cons_self]
      · have : (kn == NameKind.free) = false := by simpa using hk
        simp [this]
    have h' : List.lookup x ((if (kn == NameKind.free) = true then (n, NameKind.cell) else (n, kn)) :: compKinds r) = some k := h
    show List.lookup x ((if (kn == NameKind.free && env.scope.kind == .function && env.kindOf n == some .cell) = true then (n, NameKind.cell) else (n, kn)) :: _) = some k
    rw [e]
    have ih := lookup_relabel hf r (fun x hx => hfr x (List.mem_cons_of_mem _ hx)) x k
    by_cases hk : (kn == NameKind.free) = true
    · rw [if_pos hk] at h' ⊢
      rw [List.lookup_cons] at h' ⊢
      cases q : x == n with
      | true => rw [q] at h'; exact h'
      | false => rw [q] at h'; exact ih h'
    · rw [if_neg hk] at h' ⊢
      rw [List.lookup_cons] at h' ⊢
      cases q : x == n with
      | true => rw [q] at h'; exact h'
      | false => rw [q] at h'; exact ih h'

def AIfs (C : Ctx) (ifs : List Expr) (st : St) (Q : Bool → St → Prop) : Prop :=
  AG BoolR C (forIn ifs true fun c r => if r = true then do let ok ← isTrue c C.env (eval c C.env); pure (ForInStep.yield ok) else pure (ForInStep.yield r)) st Q
theorem AIfs_nil {C : Ctx} {st : St} {Q : Bool → St → Prop} (h : Q true st) : AIfs C [] st Q := fun s ρ I => wpAny_pure ⟨true, st, ρ, I, .refl, rfl, h⟩
theorem AIfs_one {C : Ctx} {st : St} {Q : Bool → St → Prop} {e : Expr} (h : AT C e st Q) : AIfs C [e] st Q := fun s ρ I => by
  rw [List.forIn_cons]
  refine wpAny_bind ?_
  rw [if_pos rfl]
  refine wpAny_bind (h.use I fun a s₁ b st₁ ρ₁ I₁ L₁ r₁ h₁ => wpAny_pure ?_)
  exact wpAny_pure ⟨b, st₁, ρ₁, I₁, L₁, r₁, h₁⟩

/-- one item through the tests and the element; the own list 0 is the one that is filled -/
def CompStep (C' : Ctx) (x : Str) (ifs : List Expr) (elt : Expr) (cap : List (Str × PV)) (y : PyData) (r : Option PyData) : Prop :=
  ∀ l, AIfs C' ifs ⟨(x, .dat y) :: cap, [some l]⟩ fun b st' => if b then AE C' elt st' (fun d st'' => st'' = ⟨(x, .dat y) :: cap, [some l]⟩ ∧ ∃ z, d = .dat z ∧ r = some z) else st' = ⟨(x, .dat y) :: cap, [some l]⟩ ∧ r = none

section
variable {prog : Program} {w : World} {B : Wd} {ks : List (Str × NameKind)} {n : Nat} {wr : Bool} {C : Ctx} {st : St}

theorem comp_core (hIn : In prog w B ks n wr C) {elt iter : Expr} {x : Str} {px pos : Pos} {ifs : List Expr} {scope : Scope} {cap : List (Str × PV)} {xs : List PyData} {f : PyData → Option PyData}
    {s : Shared} {ρ : List Addr} (I : Inv C st ρ s) {v : Value} {d : PV} (hv : Rep s.heap ρ (Mut C st.σ ρ) v d) (hit : AItr C d xs st)
    (hkind : scope.kind = .function) (hnc : ∀ y ∈ scope.names, y.2 ≠ .cell) (hfree : ∀ y, (y, NameKind.free) ∈ scope.names → ks.lookup y = some .cell) (hx : (compKinds scope.names).lookup x = some .local)
    (hcap : ∀ y dy, cap.lookup y = some dy → st.m.lookup y = some dy ∧ dy.fz = true ∧ (compKinds scope.names).lookup y = some .cell ∧ (y, NameKind.free) ∈ scope.names) (hsz : xs.length ≤ sizeLine)
    (hstep : ∀ C', In prog w B (compKinds scope.names) n false C' → ∀ y ∈ xs, CompStep C' x ifs elt cap y (f y))
    (RR : Value → Env → Result → Shared → Prop)
    (hR : ∀ D L h tk m as, s.heap.get? D = none → s.heap.get? L = none → (∀ b o, s.heap.get? b = some o → b ∉ C.tb.T → h.get? b = some o) → C.tb.ok h → s.toks ≤ tk → h.Ns L m → Reads h (.ref D) (.list (xs.filterMap f)) as → (∀ a ∈ as, ¬ Mut C st.σ ρ a ∧ a ≠ L) → nodAll (xs.filterMap f) = true → (∃ (vs : List Value) (bs : List Addr), h.PlainList D vs.toArray ∧ ReadsAll h vs (xs.filterMap f) bs ∧ ∀ a ∈ bs, ¬ Mut C st.σ ρ a ∧ a ≠ D) →
      ∀ cenv : Env, cenv.locals = L → RR (.ref D) cenv (.ok .next) { s with heap := h, toks := tk }) :
    wpAny (model C.prog C.w) C.A (pyIter v) (fun it s₂ => wpAny (model C.prog C.w) C.A (newList []) (fun acc s₃ =>
      wpAny (model C.prog C.w) C.A (newFunctionEnv scope C.env.globals (closOf C.env.cells scope.names []) [] C.env.qual none .none (some C.env)) (fun cenv s₄ =>
        codeAny (model C.prog C.w) C.A (.compStart (.ListComp elt [⟨.Name x px, iter, ifs, 0⟩] scope pos) 0 it acc { cenv with scope := relabel scope C.env }) (RR acc { cenv with scope := relabel scope C.env }) s₄) NoE s₃) NoE s₂) NoE s := by
  have hC := hIn.ok
  refine hit v s ρ I hv _ fun It h₂ tk₂ hfr hk₂ htk₂ it₂ => ?_
  refine newList_step ?_ (Nat.zero_le _)
  -- the list that is filled
  have hDn : h₂.get? h₂.objs.size = none := get?_size _
  have hD0 : s.heap.get? h₂.objs.size = none := by
    cases e : s.heap.get? h₂.objs.size with
    | none => rfl
    | some o => rw [hk₂ _ _ e] at hDn; cases hDn
  refine wpAny_newFunctionEnv hnc (fun _ h => nomatch h) (fun h₄ hns₄ hsb₄ => ?_) hkind
  show codeAny _ _ (.compStart _ 0 _ _ (compEnvC scope (closOf C.env.cells scope.names []) (h₂.push { cls := .type "list", data := .seq #[] }).objs.size C.env)) _ _
  generalize hLe : (h₂.push { cls := .type "list", data := .seq #[] }).objs.size = L at hns₄ hsb₄ ⊢
  generalize hDe : h₂.objs.size = D at hDn hD0 ⊢
  have hL0 : h₂.get? L = none ∧ L ≠ D := by
    rw [← hLe, ← hDe, Heap.size_push]
    refine ⟨?_, by omega⟩
    cases e : h₂.get? (h₂.objs.size + 1) with
    | none => rfl
    | some o => exact absurd (Heap.lt_size e) (Nat.not_lt_of_le (Nat.le_succ _))
  have hLs : s.heap.get? L = none := by
    cases e : s.heap.get? L with
    | none => rfl
    | some o => rw [hk₂ _ _ e] at hL0; exact nomatch hL0.1
  have up₄ : ∀ b o, h₂.get? b = some o → h₄.get? b = some o := fun b o e =>
    (hsb₄.2 b (fun q => by rw [q, hL0.1] at e; cases e)).trans (Heap.get?_push_of_some _ (Heap.get?_push_of_some _ e))
  have hDpl : h₄.get? D = some { cls := .type "list", data := .seq #[] } := by
    rw [← hDe] at hL0 ⊢
    exact (hsb₄.2 _ (Ne.symm hL0.2)).trans (Heap.get?_push_of_some _ (Heap.get?_push_size _ rfl))
  have hItD : It ≠ D := by
    obtain ⟨o, vs, ty, a, _⟩ := it₂.obj
    rintro rfl; rw [hDn] at a; cases a
  have hItL : It ≠ L := by
    obtain ⟨o, vs, ty, a, _⟩ := it₂.obj
    rintro rfl; rw [hL0.1] at a; cases a
  -- the context within
  let cl := closOf C.env.cells scope.names []
  obtain ⟨gg1, gg2, gg3, gg4, gg5⟩ := hide_all hC I
  have hgn : ∀ a, s.heap.get? a = none → (hideAll s.heap C.tb.T).get? a = none := fun a e => by
    cases q : (hideAll s.heap C.tb.T).get? a with
    | none => rfl
    | some o => rw [gg1 _ _ q] at e; cases e
  let C' : Ctx := ⟨C.prog, C.w, C.A, compEnvC scope cl L C.env, { s with heap := hideAll s.heap C.tb.T }, fun a => Mut C st.σ ρ a ∧ a ∉ C.tb.T, C.tb⟩
  have hcellC : ∀ y, (y, NameKind.free) ∈ scope.names → ∃ c, C.env.cells.lookup y = some c := fun y hy => hIn.cell y (hfree y hy)
  have hcl : ∀ y c, cl.lookup y = some c → C.env.cells.lookup y = some c := by
    intro y c h
    rcases closOf_lookup scope.names [] y c h with q | ⟨q1, q2⟩
    · cases q
    · obtain ⟨c', hc'⟩ := hcellC y q1
      rw [hc'] at q2; rw [hc', q2]; rfl
  have hkin : ∀ y k, (compKinds scope.names).lookup y = some k → C'.env.kindOf y = some k := lookup_relabel hC.kind scope.names fun y hy => hIn.kinds y _ (hfree y hy)
  have hOk : Ok C' := ⟨hkind, hC.globals, hC.builtins, hgn _ hLs, gg5, hC.handled, Nat.lt_of_lt_of_le hC.tok I.tok, fun y z c h1 h2 => hC.capart y z c (hcl y c h1) (hcl z c h2), gg4⟩
  have hIn' : In prog w B (compKinds scope.names) n false C' := ⟨hOk, hIn.prog, hIn.w, B.keeps _ _ gg2 hIn.base, hIn.tb, hkin, hIn.room, fun y hy => by
    refine closOf_has scope.names [] y (.inl ?_)
    have hm := mem_of_lookup hy
    obtain ⟨⟨n', k'⟩, hm1, hm2⟩ := List.mem_map.mp hm
    by_cases q : k' = .free
    · subst q; simp at hm2; subst hm2; exact hm1
    · have : (k' == NameKind.free) = false := by simpa using q
      simp [this] at hm2
      obtain ⟨rfl, rfl⟩ := hm2
      exact absurd rfl (hnc _ hm1), fun e => nomatch e⟩
  have hmutC' : ∀ (l : List PV) a, (∃ o, s.heap.get? a = some o) → ¬ Mut C st.σ ρ a → ¬ Mut C' [some l] [D] a := by
    rintro l a ⟨o, ho⟩ hn (h | ⟨y, h⟩ | h | ⟨i, l', h1, h2⟩)
    · rw [show a = L from h, hLs] at ho; cases ho
    · exact hn (.inr (.inl ⟨y, hcl y a h⟩))
    · exact hn (mut_or.mpr h)
    · cases i with
      | zero => simp at h2; rw [← h2, hD0] at ho; cases ho
      | succ i => simp at h2
  have keepS : ∀ b o, s.heap.get? b = some o → h₄.get? b = some o := fun b o e => up₄ b o (hk₂ b o e)
  have I₄ : Inv C' ⟨cap, [some []]⟩ [D] { s with heap := h₄, toks := tk₂ } := by
    refine ⟨⟨h₄, tk₂, rfl⟩, fun b o e => keepS b o (gg1 b o e), htk₂, ⟨_, hns₄, fun y dy e k => ?_⟩, fun y c hc => ?_, fun i l hi => ?_, fun i j a l l' hi hj ei ej => ?_, rfl, C.tb.stab _ _ I.tab fun a o e _ => keepS a o e⟩
    · have := hkin y _ (hcap y dy e).2.2.1
      rw [this] at k; cases k
    · obtain ⟨u, hu, hd⟩ := I.cell y c (hcl y c hc)
      refine ⟨u, hu.keeps keepS, fun dy e k => ?_⟩
      obtain ⟨c1, c2, c3, c4⟩ := hcap y dy e
      obtain ⟨v', e1, e2⟩ := hd dy c1 (hIn.kinds y _ (hfree y c4))
      refine ⟨v', e1, ?_⟩
      exact (e2.fz (ρ' := [D]) (O' := Mut C st.σ ρ) (fun _ q => q) c2).grow ⟨I.soft hC, fun a o h1 h2 => ⟨keepS a o h1, hmutC' [] a ⟨o, h1⟩ h2⟩, fun _ _ e => e⟩
    · cases i with
      | zero => simp at hi; subst hi; exact ⟨D, [], rfl, ⟨0, hDpl⟩, trivial, hgn _ hD0⟩
      | succ i => simp at hi
    · cases i with
      | zero => cases j with
        | zero => rfl
        | succ j => simp at ej
      | succ i => simp at ei
  have it₄ : ItAt (Mut C' [some []] [D]) h₄ It xs := by
    have hnm : ¬ Mut C st.σ ρ It := fun hm => by obtain ⟨o, ho⟩ := mut_has hC I hm; rw [hfr] at ho; cases ho
    have J₂ := I.keeps hC (h' := h₂) (tk := tk₂) hk₂ htk₂
    refine it₂.grow (ρ := []) (ρ' := []) ⟨fun a o ha ho => ?_, fun a o h1 h2 => ⟨up₄ a o h1, ?_⟩, fun _ _ e => e⟩ hnm
    · obtain ⟨o', ho'⟩ := mut_has hC I ha
      rw [hk₂ _ _ ho'] at ho; cases ho
      exact I.soft hC a o ha ho'
    · rintro (h | ⟨y, h⟩ | h | ⟨i, l', g1, g2⟩)
      · rw [show a = L from h, hL0.1] at h1; cases h1
      · exact h2 (.inr (.inl ⟨y, hcl y a h⟩))
      · exact h2 (mut_or.mpr h)
      · cases i with
        | zero => simp at g2; rw [← g2, hDn] at h1; cases h1
        | succ i => simp at g2
  have hnIt : ∀ (l : List PV), ¬ Mut C' [some l] [D] It := by
    rintro l (h | ⟨y, h⟩ | h | ⟨i, l', h1, h2⟩)
    · exact hItL h
    · obtain ⟨u, ⟨o, ho, _⟩, _⟩ := I.cell y It (hcl y It h); rw [hfr] at ho; cases ho
    · obtain ⟨o, ho⟩ := mut_has hC I (mut_or.mpr h); rw [hfr] at ho; cases ho
    · cases i with
      | zero => simp at h2; exact hItD h2.symm
      | succ i => simp at h2
  -- the loop
  have loop : codeAny (model C.prog C.w) C.A (.compLoop (.ListComp elt [⟨.Name x px, iter, ifs, 0⟩] scope pos) 0 (.ref It) (.ref D) C'.env) (RR (.ref D) C'.env) { s with heap := h₄, toks := tk₂ } := by
    refine codeAny_compLoop_tests (fun k s₅ => ∃ done rest m, xs = done ++ rest ∧ k = rest.length ∧ Inv C' ⟨m, [some ((done.filterMap f).map .dat)]⟩ [D] s₅ ∧ (∀ y dy, cap.lookup y = some dy → m.lookup y = some dy) ∧ ItAt (Mut C' [some ((done.filterMap f).map .dat)] [D]) s₅.heap It rest) ?_ xs.length
      ⟨[], xs, cap, rfl, rfl, I₄, fun _ _ e => e, it₄⟩
    rintro k s₅ ⟨done, rest, m, hxs, rfl, I₅, hm, it₅⟩
    obtain ⟨oI, hI, hodd⟩ := it₅.odd
    have hIt0 : C'.s₀.heap.get? It = none := hgn _ hfr
    cases rest with
    | nil =>
      refine it₅.stop hC.handled fun h₆ hk₆ => ?_
      have I₆ := I₅.but hI hodd (hnIt _) hIt0 (h' := h₆) (tk := s₅.toks) hk₆ (Nat.le_refl _)
      rw [List.append_nil] at hxs
      subst hxs
      obtain ⟨a, vs, e1, ⟨nn, hpl⟩, hr, _⟩ := I₆.own 0 _ rfl
      simp at e1; subst e1
      obtain ⟨as, rr, na, hd⟩ := repAll_reads hr
      obtain ⟨m', hns', _⟩ := I₆.ns
      obtain ⟨hh, tt, hsame⟩ := I₅.same
      have htk : s.toks ≤ s₅.toks := I₅.tok
      have := hR D L h₆ s₅.toks m' (D :: as) hD0 hLs (fun b o e q => I₆.keep b o (gg3 b o e q)) I₆.tab htk hns' (.list hpl rfl rfl rr) (fun a ha => ?_) hd ⟨vs, as, ⟨nn, hpl⟩, rr, fun a ha => ⟨fun hm' => na a ha (.inr (.inr (.inl (mut_or.mp hm')))), fun q => na a ha (.inr (.inr (.inr ⟨0, _, rfl, by rw [q]; rfl⟩)))⟩⟩ C'.env rfl
      · have e : ({ s₅ with heap := h₆ } : Shared) = { s with heap := h₆, toks := s₅.toks } := by rw [hsame]
        rw [e]; exact this
      · rcases List.mem_cons.mp ha with rfl | ha
        · refine ⟨fun hm' => ?_, Ne.symm hL0.2⟩
          obtain ⟨o, ho⟩ := mut_has hC I hm'
          rw [hD0] at ho; cases ho
        · exact ⟨fun hm' => na a ha (.inr (.inr (.inl (mut_or.mp hm')))), fun q => na a ha (.inl q)⟩
    | cons y rest =>
      refine it₅.next (ρ := [D]) fun vy h₆ tk₆ rv it₆ hk₆ htk₆ => ?_
      have I₆ := I₅.but hI hodd (hnIt _) hIt0 (h' := h₆) (tk := tk₆) hk₆ htk₆
      refine PySem.wpAny_assign_Name (wpAny_mono (ASt_local hOk (Q := fun st' => st' = St.set ⟨m, [some ((done.filterMap f).map .dat)]⟩ x (.dat y)) (hkin x _ hx) rfl vy _ [D] I₆ rv) (fun _ s₇ ⟨st₇, ρ₇, I₇, L₇, e₇⟩ => ?_) noE_noted)
      subst e₇
      have hρ : ρ₇ = [D] := by
        have h1 := I₇.len
        have h2 := L₇.rho 0 D rfl
        cases ρ₇ with
        | nil => simp at h2
        | cons a r => cases r with
          | nil => simp at h2; rw [h2]
          | cons b r => exact absurd h1 (by simp [St.set])
      subst hρ
      have Iw := I₇.weak (st' := ⟨(x, .dat y) :: cap, [some ((done.filterMap f).map .dat)]⟩) ⟨rfl, fun z dz e => by
        rw [lookup_set] at e
        show List.lookup z ((x, PV.dat y) :: m) = some dz
        rw [lookup_set]
        by_cases q : z = x
        · rw [if_pos q] at e ⊢; exact e
        · rw [if_neg q] at e ⊢; exact hm z dz e⟩
      have hy : y ∈ xs := by rw [hxs]; simp
      refine wpAny_mono (hstep C' hIn' y hy ((done.filterMap f).map .dat) s₇ [D] Iw) (fun ok s₈ ⟨b, st₈, ρ₈, I₈, L₈, r₈, h₈⟩ => ?_) noE_noted
      have e : ok = b := r₈
      subst e
      have hxs' : xs = (done ++ [y]) ++ rest := by rw [hxs]; simp
      have it₇ := it₆.grow (I₆.grow hOk L₇) (hnIt _)
      have itOf : ∀ {st₉ : St} {ρ₉ : List Addr} {s₉ : Shared}, Le C' ⟨(x, .dat y) :: cap, [some ((done.filterMap f).map .dat)]⟩ [D] s₇ st₉ ρ₉ s₉ → ItAt (Mut C' st₉.σ ρ₉) s₉.heap It rest := fun L₉ => it₇.grow (Iw.grow hOk L₉) (hnIt _)
      have rhoOf : ∀ {st₉ : St} {ρ₉ : List Addr} {s₉ : Shared} {l : List PV}, Inv C' st₉ ρ₉ s₉ → Le C' ⟨(x, .dat y) :: cap, [some ((done.filterMap f).map .dat)]⟩ [D] s₇ st₉ ρ₉ s₉ → st₉.σ = [some l] → ρ₉ = [D] := by
        intro st₉ ρ₉ s₉ l I₉ L₉ hσ
        have h1 := I₉.len
        have h2 := L₉.rho 0 D rfl
        rw [hσ] at h1
        cases ρ₉ with
        | nil => simp at h2
        | cons a r => cases r with
          | nil => simp at h2; rw [h2]
          | cons b r => simp at h1
      have hxc : ∀ z dz, cap.lookup z = some dz → List.lookup z ((x, PV.dat y) :: cap) = some dz := fun z dz e => by
        rw [lookup_set, if_neg]
        · exact e
        · rintro rfl
          have := (hcap _ _ e).2.2.1
          rw [hx] at this; cases this
      cases ok with
      | false =>
        obtain ⟨rfl, hn⟩ := h₈
        have hρ := rhoOf I₈ L₈ rfl
        subst hρ
        have hf : (done ++ [y]).filterMap f = done.filterMap f := by rw [List.filterMap_append]; simp [hn]
        refine ⟨rest.length, Nat.lt_succ_self _, done ++ [y], rest, (x, .dat y) :: cap, hxs', rfl, ?_, hxc, ?_⟩
        · rw [hf]; exact I₈
        · rw [hf]; exact itOf L₈
      | true =>
        refine wpAny_mono (h₈ s₈ ρ₈ I₈) (fun z s₉ ⟨dz, st₉, ρ₉, I₉, L₉, r₉, h₉, pz, e₁, e₂⟩ => ?_) noE_noted
        subst h₉ e₁
        have L₇₉ := L₈.trans L₉
        have hρ := rhoOf I₉ L₇₉ rfl
        subst hρ
        obtain ⟨a, vs, e1, hpl, hr, _⟩ := I₉.own 0 _ rfl
        simp at e1; subst e1
        have hlen : vs.length ≤ sizeLine := by
          have h1 := repAll_len hr
          have h2 : (List.filterMap f done).length ≤ done.length := List.length_filterMap_le _ _
          have h3 : xs.length = done.length + (rest.length + 1) := by rw [hxs]; simp
          rw [List.length_map] at h1
          omega
        refine wpAny_list_append_plain hpl (fun h' hpl' hs' => ?_) (by simpa using hlen)
        have e3 : vs.toArray.push z = (vs ++ [z]).toArray := by simp
        rw [e3] at hpl'
        have J := I₉.upd hOk (i := 0) (l' := (done.filterMap f).map .dat ++ [.dat pz]) (tk := s₉.toks) rfl rfl hpl' hs' (repAll_append hr ⟨r₉, trivial⟩) (Nat.le_refl _)
        have hf : ((done ++ [y]).filterMap f).map PV.dat = (done.filterMap f).map .dat ++ [.dat pz] := by rw [List.filterMap_append]; simp [e₂]
        refine ⟨rest.length, Nat.lt_succ_self _, done ++ [y], rest, (x, .dat y) :: cap, hxs', rfl, ?_, hxc, ?_⟩
        · rw [hf]; exact J.1
        · rw [hf]; exact itOf (L₇₉.trans J.2)
  refine codeAny_compStart_list loop ?_
  exact it₄.self loop

def CompOk (ks : List (Str × NameKind)) (scope : Scope) (x : Str) (cap : List (Str × PV)) (st : St) : Prop :=
  scope.kind = .function ∧ (∀ y ∈ scope.names, y.2 ≠ .cell) ∧ (∀ y, (y, NameKind.free) ∈ scope.names → ks.lookup y = some .cell) ∧ (compKinds scope.names).lookup x = some .local ∧
  (∀ y dy, cap.lookup y = some dy → st.m.lookup y = some dy ∧ dy.fz = true ∧ (compKinds scope.names).lookup y = some .cell ∧ (y, NameKind.free) ∈ scope.names) ∧ (∀ y ∈ scope.names, y.2 = .local → scope.names.lookup y.1 = some .local)

theorem AE_ListComp {Q : PV → St → Prop} (hIn : In prog w B ks n wr C) {elt iter : Expr} {x : Str} {px pos : Pos} {ifs : List Expr} {scope : Scope} (cap : List (Str × PV))
    (h : AE C iter st fun d st₁ => ∃ xs f, AItr C d xs st₁ ∧ CompOk ks scope x cap st₁ ∧ xs.length ≤ sizeLine ∧ (∀ C', In prog w B (compKinds scope.names) n false C' → ∀ y ∈ xs, CompStep C' x ifs elt cap y (f y)) ∧ Q (.dat (.list (xs.filterMap f))) st₁)
    (hs : ∀ x, foldedSetIterable iter C.env x = pure x := by intro _; rfl) : AE C (.ListComp elt [⟨.Name x px, iter, ifs, 0⟩] scope pos) st Q := fun s ρ I => by
  rw [eval_ListComp]
  by_cases hc : ∀ y, (y, NameKind.free) ∈ scope.names → ks.lookup y = some .cell
  · by_cases hc2 : scope.kind = .function ∧ ∀ y ∈ scope.names, y.2 = .local → scope.names.lookup y.1 = some .local
    · refine wpAny_comprehension_free (cl := closOf C.env.cells scope.names []) rfl hs (closureFor_of fun y hy => hIn.cell y (hc y hy)) hc2.1 hc2.2 ?_
      refine h.use I fun v s₁ d st₁ ρ₁ I₁ L₁ r₁ ⟨xs, f, hit, ⟨o1, o2, o3, o4, o5, o6⟩, hsz, hstep, hQ⟩ => ?_
      refine comp_core hIn I₁ r₁ hit o1 o2 o3 o4 o5 hsz hstep (fun acc cenv => compPost (model C.prog C.w) C.A NoE none (Post Rep C st ρ s Q) acc cenv.locals) ?_
      intro D L h' tk m as hD hL hk hok htk hns hr hna hd _ cenv hcl
      subst hcl
      refine ⟨m, hns, fun h'' hs'' => ?_⟩
      have hk' : ∀ b o, s₁.heap.get? b = some o → b ∉ C.tb.T → h''.get? b = some o := fun b o e q => (hs''.2 b (by rintro rfl; rw [hL] at e; cases e)).trans (hk b o e q)
      have hok' : C.tb.ok h'' := C.tb.stab _ _ hok fun a o e hf => (hs''.2 a (fun q => by
        obtain ⟨_, vs, g6⟩ := hf
        obtain ⟨oL, es, ep, g1, g2, _⟩ := hns
        rw [q, g1] at e; cases e
        rw [g2] at g6; cases g6)).trans e
      have J := I₁.keepsT hIn.ok (h' := h'') (tk := tk) hk' hok' htk
      obtain ⟨oL, es, ep, g1, g2, _⟩ := hns
      exact ⟨.dat (.list (xs.filterMap f)), st₁, ρ₁, J.1, L₁.trans J.2, ⟨as, reads_step (O := fun a => a = cenv.locals) (fun a o q e => by rw [q, g1] at e; cases e; exact .inl ⟨_, _, g2⟩) (fun a o e q => (hs''.2 a q).trans e) hr (fun a ha => (hna a ha).2), fun a ha => (hna a ha).1, hd⟩, hQ⟩
    · have k' : wpAny (model C.prog C.w) C.A (eval iter C.env) (fun _ _ => False) NoE s := h.use I fun v s₁ d st₁ ρ₁ I₁ L₁ r₁ ⟨xs, f, hit, ⟨o1, o2, o3, o4, o5, o6⟩, _⟩ => absurd ⟨o1, o6⟩ hc2
      unfold comprehension
      exact wpAny_bind (wpAny_mono k' (fun _ _ x => x.elim) fun _ _ x => x)
  · have k' : wpAny (model C.prog C.w) C.A (eval iter C.env) (fun _ _ => False) NoE s := h.use I fun v s₁ d st₁ ρ₁ I₁ L₁ r₁ ⟨xs, f, hit, ⟨o1, o2, o3, o4, o5, o6⟩, _⟩ => absurd o3 hc
    unfold comprehension
    exact wpAny_bind (wpAny_mono k' (fun _ _ x => x.elim) fun _ _ x => x)

/-- name = [..]: the store comes ahead of the loop's names' end -/
theorem AX_AssignComp {Q : Fl → St → Prop} (hIn : In prog w B ks n wr C) {elt iter : Expr} {x y : Str} {px py pos spos : Pos} {ifs : List Expr} {scope : Scope} (cap : List (Str × PV))
    (hc : (∀ y, (y, NameKind.free) ∈ scope.names → ks.lookup y = some .cell) ∧ scope.kind = .function ∧ ∀ y ∈ scope.names, y.2 = .local → scope.names.lookup y.1 = some .local)
    (h : AE C iter st fun d st₁ => ∃ xs f, AItr C d xs st₁ ∧ CompOk ks scope x cap st₁ ∧ xs.length ≤ sizeLine ∧ (∀ C', In prog w B (compKinds scope.names) n false C' → ∀ y ∈ xs, CompStep C' x ifs elt cap y (f y)) ∧ ASt C y (.dat (.list (xs.filterMap f))) st₁ fun st₂ => Q .next st₂)
    (hsw : swapsWith (.ListComp elt [⟨.Name x px, iter, ifs, 0⟩] scope pos) (some (.Name y py)) spos.line C.env = pure true)
    (hs : ∀ x, foldedSetIterable iter C.env x = pure x := by intro _; rfl) : AX C (.Assign [.Name y py] (.ListComp elt [⟨.Name x px, iter, ifs, 0⟩] scope pos) spos) st Q := fun s ρ I => by
  rw [exec_Assign_Name_used _ _ _ _ hsw]
  refine wpAny_bind (wpAny_standAt (wpAny_bind ?_))
  show wpAny _ _ (do let _ ← comprehension (.ListComp elt [⟨.Name x px, iter, ifs, 0⟩] scope pos) scope C.env _ (newList []) false (eval iter C.env) (some (assign (.Name y py) C.env))) _ _ s
  refine wpAny_bind (wpAny_mono (wpAny_comprehension_free (Q := fun _ s' => Post FlR C st ρ s Q .next s') (cl := closOf C.env.cells scope.names []) rfl hs (closureFor_of fun y hy => hIn.cell y (hc.1 y hy)) hc.2.1 hc.2.2 ?_) (fun _ s' hq => wpAny_pure (wpAny_pure hq)) fun _ _ e => e)
  refine h.use I fun v s₁ d st₁ ρ₁ I₁ L₁ r₁ ⟨xs, f, hit, ⟨o1, o2, o3, o4, o5, o6⟩, hsz, hstep, hQ⟩ => ?_
  refine comp_core hIn I₁ r₁ hit o1 o2 o3 o4 o5 hsz hstep (fun acc cenv => compPost (model C.prog C.w) C.A NoE (some (assign (.Name y py) C.env)) (fun _ s' => Post FlR C st ρ s Q .next s') acc cenv.locals) ?_
  intro D L h' tk m as hD hL hk hok htk hns hr hna hd _ cenv hcl
  subst hcl
  have J := I₁.keepsT hIn.ok (h' := h') (tk := tk) hk hok htk
  refine PySem.wpAny_assign_Name (wpAny_mono (hQ (.ref D) _ ρ₁ J.1 ⟨as, hr, fun a ha => (hna a ha).1, hd⟩) (fun _ s₂ ⟨st₂, ρ₂, I₂, L₂, h₂⟩ => ?_) fun _ _ x => x)
  obtain ⟨oL, es, ep, g1, g2⟩ := hns
  have hnm : ¬ Mut C st₁.σ ρ₁ cenv.locals := fun hm => by obtain ⟨o, ho⟩ := mut_has hIn.ok I₁ hm; rw [hL] at ho; cases ho
  have hL2 := L₂.keep _ _ g1 hnm
  refine ⟨m, ⟨oL, es, ep, hL2.1, g2⟩, fun h'' hs'' => ?_⟩
  have hbase : C.s₀.heap.get? cenv.locals = none := by
    cases e : C.s₀.heap.get? cenv.locals with
    | none => rfl
    | some o => rw [I₁.keep _ _ e] at hL; cases hL
  have I₃ := I₂.but hL2.1 (.inl ⟨_, _, g2.1⟩) hL2.2 hbase (h' := h'') (tk := s₂.toks) (fun a o q e => (hs''.2 a q).trans e) (Nat.le_refl _)
  have hne : ∀ a o, s₁.heap.get? a = some o → a ≠ cenv.locals := fun a o e q => by rw [q, hL] at e; cases e
  refine ⟨.next, st₂, ρ₂, I₃, L₁.trans ⟨fun a o e q => ?_, fun i a e => L₂.rho i a e, fun a o e => ?_⟩, trivial, h₂⟩
  · have := (J.2.trans L₂).keep a o e q
    exact ⟨(hs''.2 a (hne a o e)).trans this.1, this.2⟩
  · obtain ⟨o', ho'⟩ := (J.2.trans L₂).ex a o e
    exact ⟨o', (hs''.2 a (hne a o e)).trans ho'⟩
end
end Mine

end
section
open PySem PySem.W PyProof.Rows PySem.Calls
namespace Mine
set_option linter.all false

section
variable {C : Ctx} {st : St} {Q : PV → St → Prop}

abbrev pint (i : Int) : PV := .dat (.int i)
abbrev pstr (x : Str) : PV := .dat (.str x)
abbrev pbool (b : Bool) : PV := .dat (.bool b)
abbrev pnone : PV := .dat .none
abbrev plist (l : List PyData) : PV := .dat (.list l)
theorem rep_int {h : Heap} {ρ : List Addr} {O : Addr → Prop} {v : Value} {i : Int} (r : Rep h ρ O v (pint i)) : ∃ t, v = .int i t := by obtain ⟨_, r, _⟩ := r; cases r; exact ⟨_, rfl⟩
theorem rep_str {h : Heap} {ρ : List Addr} {O : Addr → Prop} {v : Value} {x : Str} (r : Rep h ρ O v (pstr x)) : ∃ t, v = .str x t := by obtain ⟨_, r, _⟩ := r; cases r; exact ⟨_, rfl⟩
theorem rep_bool {h : Heap} {ρ : List Addr} {O : Addr → Prop} {v : Value} {b : Bool} (r : Rep h ρ O v (pbool b)) : v = .bool b := by obtain ⟨_, r, _⟩ := r; cases r; rfl
theorem rep_list {h : Heap} {ρ : List Addr} {O : Addr → Prop} {v : Value} {xs : List PyData} (r : Rep h ρ O v (plist xs)) : ∃ a vs, v = .ref a ∧ h.IsList a vs.toArray ∧ RepAll h ρ O vs (xs.map .dat) := by
  obtain ⟨as, r, n, hd⟩ := r
  cases r with
  | list h1 h2 h3 h4 => exact ⟨_, _, rfl, ⟨_, h1, h2, _, h3⟩, repAll_dat h4 (fun a ha => n a (List.mem_cons_of_mem _ ha)) hd⟩
theorem rep_own {s : Shared} {ρ : List Addr} {O : Addr → Prop} {v : Value} {i : Nat} {l : List PV} (I : Inv C st ρ s) (hi : st.σ[i]? = some (some l)) (r : Rep s.heap ρ O v (.own i)) : ∃ a vs, v = .ref a ∧ ρ[i]? = some a ∧ s.heap.PlainList a vs.toArray ∧ RepAll s.heap ρ (Mut C st.σ ρ) vs l := by
  obtain ⟨a, e1, e2⟩ := r
  obtain ⟨a', vs, f1, f2, f3, _⟩ := I.own i l hi
  rw [e1] at f1; cases f1
  exact ⟨a, vs, e2, e1, f2, f3⟩

theorem Post.at (hC : Ok C) {ρ : List Addr} {s : Shared} (I : Inv C st ρ s) {k : Nat} (hk : s.toks ≤ k) {v : Value} {d : PV} (hr : Rep s.heap ρ (Mut C st.σ ρ) v d) (h : Q d st) : Post Rep C st ρ s Q v { s with toks := k } :=
  ⟨d, st, ρ, (I.toks hC hk).1, (I.toks hC hk).2, hr, h⟩
theorem Post.here {ρ : List Addr} {s : Shared} (I : Inv C st ρ s) {v : Value} {d : PV} (hr : Rep s.heap ρ (Mut C st.σ ρ) v d) (h : Q d st) : Post Rep C st ρ s Q v s := ⟨d, st, ρ, I, .refl, hr, h⟩
theorem repI {h : Heap} {ρ : List Addr} {O : Addr → Prop} {i : Int} {t : Tok} : Rep h ρ O (.int i t) (pint i) := ⟨[], .int i t, (fun _ h => nomatch h), rfl⟩
theorem repS {h : Heap} {ρ : List Addr} {O : Addr → Prop} {x : Str} {t : Tok} : Rep h ρ O (.str x t) (pstr x) := ⟨[], .str x t, (fun _ h => nomatch h), rfl⟩
theorem repB {h : Heap} {ρ : List Addr} {O : Addr → Prop} {b : Bool} : Rep h ρ O (.bool b) (pbool b) := ⟨[], .bool b, (fun _ h => nomatch h), rfl⟩
theorem repN {h : Heap} {ρ : List Addr} {O : Addr → Prop} : Rep h ρ O .none pnone := ⟨[], .none, (fun _ h => nomatch h), rfl⟩

/-- the tokens only grow -/
theorem grown {s : Shared} {M : Model} {A : Around} {α : Type} {t : Sem α} {P : α → Shared → Prop} (h : wpAny M A t (fun a s' => s.toks ≤ s'.toks → P a s') (fun e s' => s.toks ≤ s'.toks → NoE e s') s) : wpAny M A t P NoE s := wpAny_with_toks (Nat.le_refl _) h

/-! ints -/
theorem ABin_addI (hC : Ok C) {i j : Int} (h : Q (pint (i + j)) st) : ABin C .Add (pint i) (pint j) st Q := fun a b s ρ I ra rb => by
  obtain ⟨t, rfl⟩ := rep_int ra; obtain ⟨u, rfl⟩ := rep_int rb
  exact PySem.P.add_int (Post.at hC I (Nat.le_succ _) repI h)
theorem ABin_modI (hC : Ok C) {i j : Int} (hj : j ≠ 0) (h : Q (pint (i.fmod j)) st) : ABin C .Mod (pint i) (pint j) st Q := fun a b s ρ I ra rb => by
  obtain ⟨t, rfl⟩ := rep_int ra; obtain ⟨u, rfl⟩ := rep_int rb
  exact mod_int' hj (Post.at hC I (Nat.le_succ _) repI h)
theorem AUn_neg (hC : Ok C) {i : Int} (h : Q (pint (-i)) st) : AUn C .USub (pint i) st Q := fun a s ρ I ra => by
  obtain ⟨t, rfl⟩ := rep_int ra
  exact PySem.P.neg_int (Post.at hC I (Nat.le_succ _) repI h)
theorem ACmp_eqI {i j : Int} (h : Q (pbool (i == j)) st) : ACmp C .Eq (pint i) (pint j) st Q := fun a b s ρ I ra rb => by
  obtain ⟨t, rfl⟩ := rep_int ra; obtain ⟨u, rfl⟩ := rep_int rb
  exact PySem.P.eq_int (Post.here I repB h)
theorem ACmp_ltI {i j : Int} (h : Q (pbool (decide (i < j))) st) : ACmp C .Lt (pint i) (pint j) st Q := fun a b s ρ I ra rb => by
  obtain ⟨t, rfl⟩ := rep_int ra; obtain ⟨u, rfl⟩ := rep_int rb
  exact PySem.P.lt_int (Post.here I repB h)
theorem ACmp_gtI {i j : Int} (h : Q (pbool (decide (i > j))) st) : ACmp C .Gt (pint i) (pint j) st Q := fun a b s ρ I ra rb => by
  obtain ⟨t, rfl⟩ := rep_int ra; obtain ⟨u, rfl⟩ := rep_int rb
  exact PySem.P.gt_int (Post.here I repB h)
/-! is -/
/-! strs -/
theorem str_eq_iff {x y : Str} : (x.cps.toList == y.cps.toList) = decide (x = y) := by
  obtain ⟨⟨a⟩⟩ := x; obtain ⟨⟨b⟩⟩ := y
  by_cases h : a = b
  · subst h; simp
  · have h1 : (Str.mk ⟨a⟩ = Str.mk ⟨b⟩) ↔ a = b := ⟨fun e => by cases e; rfl, fun e => by rw [e]⟩
    simp [h]
theorem ACmp_eqS {x y : Str} (h : Q (pbool (decide (x = y))) st) : ACmp C .Eq (pstr x) (pstr y) st Q := fun a b s ρ I ra rb => by
  obtain ⟨t, rfl⟩ := rep_str ra; obtain ⟨u, rfl⟩ := rep_str rb
  exact PySem.P.eq_str (by rw [str_eq_iff]; exact Post.here I repB h)
theorem ACmp_neS {x y : Str} (h : Q (pbool (!decide (x = y))) st) : ACmp C .NotEq (pstr x) (pstr y) st Q := fun a b s ρ I ra rb => by
  obtain ⟨t, rfl⟩ := rep_str ra; obtain ⟨u, rfl⟩ := rep_str rb
  exact PySem.P.ne_str (by rw [bne, str_eq_iff]; exact Post.here I repB h)
theorem ACmp_notinS {x y : Str} (h : Q (pbool (!Txt.contains x y)) st) : ACmp C .NotIn (pstr y) (pstr x) st Q := fun a b s ρ I ra rb => by
  obtain ⟨t, rfl⟩ := rep_str ra; obtain ⟨u, rfl⟩ := rep_str rb
  exact SB.notContains (Post.here I repB h)
/-! items -/
def AItem (C : Ctx) (d i : PV) (st : St) (Q : PV → St → Prop) : Prop :=
  ∀ v vi s ρ, Inv C st ρ s → Rep s.heap ρ (Mut C st.σ ρ) v d → Rep s.heap ρ (Mut C st.σ ρ) vi i → ∀ (value slice : Expr), (∀ o j, subscripted slice false o j = operate [o, j] (getItem o j)) → wpAny (model C.prog C.w) C.A (subscriptTail value slice v vi) (Post Rep C st ρ s Q) NoE s
theorem AE_Item (hC : Ok C) {e i : Expr} {pos : Pos} (h : AE C e st fun d st₁ => AE C i st₁ fun di st₂ => AItem C d di st₂ Q)
    (hs : ∀ o j, subscripted i false o j = operate [o, j] (getItem o j) := by intro _ _; rfl) : AE C (.Subscript e i pos) st Q := fun s ρ I =>
  Subscript_ (h.use I fun a s₁ d st₁ ρ₁ I₁ L₁ r₁ h₁ => h₁.use I₁ fun b s₂ db st₂ ρ₂ I₂ L₂ r₂ h₂ =>
    wpAny_mono (h₂ a b s₂ ρ₂ I₂ (r₁.grow (I₁.grow hC L₂)) r₂ e i hs) (fun _ _ p => (p.le L₂).le L₁) fun _ _ x => x)

theorem AItem_str (hC : Ok C) {x : Str} {i : Int} (h1 : -(x.length : Int) ≤ i) (h2 : i < x.length) (hsz : x.length ≤ sizeLine) (h : Q (pstr (Txt.item x i)) st) : AItem C (pstr x) (pint i) st Q := fun v vi s ρ I r ri value slice hs => by
  obtain ⟨t, rfl⟩ := rep_str r; obtain ⟨u, rfl⟩ := rep_int ri
  rw [sizeLine_eq] at hsz
  refine tail_any (typeIs_str _ _ _) F.slot_str_getitem.lookup (SB.getItem ?_ ?_ (Post.at hC I (Nat.le_succ _) repS h)) (hs _ _)
  · unfold fitsSsize
    simp only [Bool.not_eq_true', Bool.or_eq_false_iff, decide_eq_false_iff_not]
    omega
  · unfold Txt.charAt seqIndex?
    by_cases h0 : i < 0
    · rw [if_pos h0, if_pos (by simp only [Bool.and_eq_true, decide_eq_true_eq]; omega)]
      have : (i + x.length).toNat < x.cps.size := by unfold Str.length at *; omega
      simp [this]
    · rw [if_neg h0, if_pos (by simp only [Bool.and_eq_true, decide_eq_true_eq]; omega)]
      have : i.toNat < x.cps.size := by unfold Str.length at *; omega
      simp [this]

theorem AItem_at {i : Int} {d : PV} {l : List PV} {k : Nat} {a : Addr} {vs : List Value} {s : Shared} {ρ : List Addr} {u : Tok} (I : Inv C st ρ s) (hl : s.heap.IsList a vs.toArray) (hr : RepAll s.heap ρ (Mut C st.σ ρ) vs l) (hsz : l.length ≤ sizeLine)
    (hi : (0 ≤ i ∧ k = i.toNat) ∨ (i < 0 ∧ (k : Int) = i + l.length)) (hx : l[k]? = some d) (h : Q d st) : wpAny (model C.prog C.w) C.A (getItem (.ref a) (.int i u)) (Post Rep C st ρ s Q) NoE s := by
  obtain ⟨v, e1, e2⟩ := repAll_get hr k d hx
  have hlen := repAll_len hr
  have hk : k < l.length := (List.getElem?_eq_some_iff.mp hx).1
  rw [sizeLine_eq] at hsz
  rcases hi with ⟨h0, rfl⟩ | ⟨h0, hk'⟩
  · exact wpAny_getItem_list hl h0 (by omega) (by simpa using e1) (Post.here I e2 h)
  · have hs' : vs.toArray.size = l.length := by simpa using hlen
    exact wpAny_getItem_list_neg hl h0 (by rw [hs']; omega) (by omega) (by rw [hs', show (i + (l.length : Int)).toNat = k by omega]; simpa using e1) (Post.here I e2 h)
theorem AItem_list {xs : List PyData} {i : Int} {d : PyData} (k : Nat) (hi : (0 ≤ i ∧ k = i.toNat) ∨ (i < 0 ∧ (k : Int) = i + xs.length)) (hx : xs[k]? = some d) (hsz : xs.length ≤ sizeLine) (h : Q (.dat d) st) : AItem C (plist xs) (pint i) st Q := fun v vi s ρ I r ri value slice hs => by
  obtain ⟨a, vs, rfl, hl, hr⟩ := rep_list r; obtain ⟨u, rfl⟩ := rep_int ri
  exact tail_any hl.typeIs slot_list_getitem.lookup (AItem_at I hl hr (by simpa using hsz) (by simpa using hi) (by simp [hx]) h) (hs _ _)
end
end Mine

end
section
open PySem PySem.W PyProof.Rows PySem.Calls PySem.SeqAt
namespace Mine
set_option linter.all false

/-! equality of data -/
mutual
theorem nod_unique {h : Heap} : ∀ (d d' : PyData) (v : Value) (as as' : List Addr), nod d = true → Reads h v d as → Reads h v d' as' → d = d'
  | .none, _, _, _, _, _, r, r' => by cases r; cases r'; rfl
  | .bool _, _, _, _, _, _, r, r' => by cases r; cases r'; rfl
  | .int _, _, _, _, _, _, r, r' => by cases r; cases r'; rfl
  | .str _, _, _, _, _, _, r, r' => by cases r; cases r'; rfl
  | .list xs, d', _, _, _, hl, r, r' => by
    cases r with
    | list h1 h2 h3 h4 =>
      cases r' with
      | list k1 k2 k3 k4 => rw [h1] at k1; cases k1; rw [h3] at k3; cases k3; rw [nodAll_unique xs _ _ _ _ hl h4 k4]
      | tuple k1 k2 k3 k4 => rw [h1] at k1; cases k1; rw [h2] at k2; exact absurd k2 (by simp)
      | dict k1 k2 k3 k4 k5 => rw [h1] at k1; cases k1; rw [h2] at k2; exact absurd k2 (by simp)
  | .tuple xs, d', _, _, _, hl, r, r' => by
    cases r with
    | tuple h1 h2 h3 h4 =>
      cases r' with
      | tuple k1 k2 k3 k4 => rw [h1] at k1; cases k1; rw [h3] at k3; cases k3; rw [nodAll_unique xs _ _ _ _ hl h4 k4]
      | list k1 k2 k3 k4 => rw [h1] at k1; cases k1; rw [h2] at k2; exact absurd k2 (by simp)
      | dict k1 k2 k3 k4 k5 => rw [h1] at k1; cases k1; rw [h2] at k2; exact absurd k2 (by simp)
  | .dict _, _, _, _, _, hl, _, _ => nomatch hl
theorem nodAll_unique {h : Heap} : ∀ (xs ys : List PyData) (vs : List Value) (as as' : List Addr), nodAll xs = true → ReadsAll h vs xs as → ReadsAll h vs ys as' → xs = ys
  | [], _, _, _, _, _, r, r' => by cases r; cases r'; rfl
  | x :: xs, _, _, _, _, hl, r, r' => by
    have hl' := Bool.and_eq_true_iff.mp (show (nod x && nodAll xs) = true from hl)
    cases r with
    | cons h1 h2 => cases r' with | cons k1 k2 => rw [nod_unique x _ _ _ _ hl'.1 h1 k1, nodAll_unique xs _ _ _ _ hl'.2 h2 k2]
end
mutual
theorem nod_refl : ∀ d : PyData, nod d = true → PyData.eqv d d = true
  | .none, _ => rfl
  | .bool b, _ => by simp [PyData.eqv]
  | .int i, _ => by simp [PyData.eqv]
  | .str x, _ => by simp [PyData.eqv]
  | .list xs, h => by rw [PyData.eqv]; exact nodAll_refl xs h
  | .tuple xs, h => by rw [PyData.eqv]; exact nodAll_refl xs h
  | .dict _, h => nomatch h
theorem nodAll_refl : ∀ xs : List PyData, nodAll xs = true → PyData.eqvAll xs xs = true
  | [], _ => rfl
  | x :: xs, h => by
    have h' := Bool.and_eq_true_iff.mp (show (nod x && nodAll xs) = true from h)
    rw [PyData.eqvAll, nod_refl x h'.1, nodAll_refl xs h'.2]; rfl
end

mutual
theorem eqAt_nod : ∀ (da db : PyData) (A : Around) (s : Shared) (a b : Value) (as bs : List Addr), Reads s.heap a da as → Reads s.heap b db bs → nod da = true → nod db = true →
    A.units + min da.depth db.depth < cLine → EqAt A s a b (PyData.eqv da db)
  | .list xs, db, A, s, _, _, _, _, ra, rb, ha, hb, hu => by
    cases ra with
    | @list l o vs n _ as₁ h1 h2 h3 h4 =>
      have hl : s.heap.IsList l vs := ⟨_, h1, h2, _, h3⟩
      cases rb with
      | none => exact EqAt.list_none hl (room_here hu)
      | bool y => exact EqAt.list_bool y hl (room_here hu)
      | int y u => exact EqAt.list_int y u hl (room_here hu)
      | str y u => exact EqAt.list_str y u hl (room_here hu)
      | tuple k1 k2 k3 k4 => exact EqAt.list_tuple hl ⟨_, k1, k2, _, k3⟩ (room_here hu)
      | dict => exact nomatch hb
      | @list l' o' vs' n' ys bs₁ k1 k2 k3 k4 =>
        have hl' : s.heap.IsList l' vs' := ⟨_, k1, k2, _, k3⟩
        have n1 : vs.size = xs.length := by simpa using readsAll_len h4
        have n2 : vs'.size = ys.length := by simpa using readsAll_len k4
        show EqAt A s (.ref l) (.ref l') (PyData.eqvAll xs ys)
        by_cases hll : l = l'
        · subst hll
          injection nod_unique (.list xs) (.list ys) _ _ _ ha (.list h1 h2 h3 h4) (.list k1 k2 k3 k4) with e
          subst e
          rw [nodAll_refl xs ha]
          exact EqAt.same _
        · by_cases hsz : vs.size = vs'.size
          · rw [← eqvAll_same_length (by omega : xs.length = ys.length), ← n1]
            refine EqAt.of_refs hll (RcAt.lists hl hl' hsz (room_here hu) fun j j1 j2 => ?_)
            have := eqAt_nodAll xs ys A.in1 s vs.toList vs'.toList _ _ h4 k4 ha hb (room_in hu) j (by simpa using j1) (by simpa using j2)
            simpa using this
          · rw [eqvAll_other_length (by omega : xs.length ≠ ys.length)]
            exact EqAt.of_refs hll (RcAt.lists_lengths hl hl' (by simpa using hsz) (room_here hu))
  | .tuple xs, db, A, s, _, _, _, _, ra, rb, ha, hb, hu => by
    cases ra with
    | @tuple l o vs n _ as₁ h1 h2 h3 h4 =>
      have hl : s.heap.IsTuple l vs := ⟨_, h1, h2, _, h3⟩
      cases rb with
      | none => exact EqAt.tuple_none hl (room_here hu)
      | bool y => exact EqAt.tuple_bool y hl (room_here hu)
      | int y u => exact EqAt.tuple_int y u hl (room_here hu)
      | str y u => exact EqAt.tuple_str y u hl (room_here hu)
      | list k1 k2 k3 k4 => exact EqAt.tuple_list hl ⟨_, k1, k2, _, k3⟩ (room_here hu)
      | dict => exact nomatch hb
      | @tuple l' o' vs' n' ys bs₁ k1 k2 k3 k4 =>
        have hl' : s.heap.IsTuple l' vs' := ⟨_, k1, k2, _, k3⟩
        have n1 : vs.size = xs.length := by simpa using readsAll_len h4
        have n2 : vs'.size = ys.length := by simpa using readsAll_len k4
        show EqAt A s (.ref l) (.ref l') (PyData.eqvAll xs ys)
        by_cases hll : l = l'
        · subst hll
          injection nod_unique (.tuple xs) (.tuple ys) _ _ _ ha (.tuple h1 h2 h3 h4) (.tuple k1 k2 k3 k4) with e
          subst e
          rw [nodAll_refl xs ha]
          exact EqAt.same _
        · rw [← eqvAll_eq xs ys, ← n1, ← n2]
          refine EqAt.of_refs hll (RcAt.tuples hl hl' (room_here hu) fun j j1 j2 => ?_)
          have := eqAt_nodAll xs ys A.in1 s vs.toList vs'.toList _ _ h4 k4 ha hb (room_in hu) j (by simpa using j1) (by simpa using j2)
          simpa using this
  | .none, _, A, s, _, _, _, _, ra, rb, _, hb, hu => by
    cases ra with
    | none =>
      cases rb with
      | none => exact EqAt.same _
      | bool y => exact EqAt.none_bool  y
      | int y u => exact EqAt.none_int  y u
      | str y u => exact EqAt.none_str  y u
      | list k1 k2 k3 k4 => exact EqAt.none_list  ⟨_, k1, k2, _, k3⟩ (room_here hu)
      | tuple k1 k2 k3 k4 => exact EqAt.none_tuple  ⟨_, k1, k2, _, k3⟩ (room_here hu)
      | dict => exact nomatch hb
  | .bool x, _, A, s, _, _, _, _, ra, rb, _, hb, hu => by
    cases ra with
    | bool _ =>
      cases rb with
      | none => exact EqAt.bool_none x
      | bool y => exact EqAt.bool_bool x y
      | int y u => exact EqAt.bool_int x y u
      | str y u => exact EqAt.bool_str x y u
      | list k1 k2 k3 k4 => exact EqAt.bool_list x ⟨_, k1, k2, _, k3⟩ (room_here hu)
      | tuple k1 k2 k3 k4 => exact EqAt.bool_tuple x ⟨_, k1, k2, _, k3⟩ (room_here hu)
      | dict => exact nomatch hb
  | .int x, _, A, s, _, _, _, _, ra, rb, _, hb, hu => by
    cases ra with
    | int _ t =>
      cases rb with
      | none => exact EqAt.int_none x t
      | bool y => exact EqAt.int_bool x t y
      | int y u => exact EqAt.int_int x t y u
      | str y u => exact EqAt.int_str x t y u
      | list k1 k2 k3 k4 => exact EqAt.int_list x t ⟨_, k1, k2, _, k3⟩ (room_here hu)
      | tuple k1 k2 k3 k4 => exact EqAt.int_tuple x t ⟨_, k1, k2, _, k3⟩ (room_here hu)
      | dict => exact nomatch hb
  | .str x, _, A, s, _, _, _, _, ra, rb, _, hb, hu => by
    cases ra with
    | str _ t =>
      cases rb with
      | none => exact EqAt.str_none x t
      | bool y => exact EqAt.str_bool x t y
      | int y u => exact EqAt.str_int x t y u
      | str y u => exact EqAt.str_str x t y u
      | list k1 k2 k3 k4 => exact EqAt.str_list x t ⟨_, k1, k2, _, k3⟩ (room_here hu)
      | tuple k1 k2 k3 k4 => exact EqAt.str_tuple x t ⟨_, k1, k2, _, k3⟩ (room_here hu)
      | dict => exact nomatch hb
  | .dict _, _, _, _, _, _, _, _, _, _, ha, _, _ => nomatch ha
theorem eqAt_nodAll : ∀ (xs ys : List PyData) (A : Around) (s : Shared) (vs ws : List Value) (as bs : List Addr), ReadsAll s.heap vs xs as → ReadsAll s.heap ws ys bs → nodAll xs = true → nodAll ys = true →
    A.units + min (PyData.depthAll xs) (PyData.depthAll ys) < cLine → ∀ j (h1 : j < vs.length) (h2 : j < ws.length), EqAt A s vs[j] ws[j] (pairEq xs ys j)
  | [], _, _, _, _, _, _, _, ra, _, _, _, _, j, h1, _ => by cases ra; exact absurd h1 (Nat.not_lt_zero _)
  | _ :: _, [], _, _, _, _, _, _, _, rb, _, _, _, j, _, h2 => by cases rb; exact absurd h2 (Nat.not_lt_zero _)
  | x :: xs, y :: ys, A, s, _, _, _, _, ra, rb, ha, hb, hu, j, h1, h2 => by
    have ha' := Bool.and_eq_true_iff.mp (show (nod x && nodAll xs) = true from ha)
    have hb' := Bool.and_eq_true_iff.mp (show (nod y && nodAll ys) = true from hb)
    cases ra with
    | cons r rs =>
      cases rb with
      | cons r' rs' =>
        cases j with
        | zero => exact eqAt_nod x y A s _ _ _ _ r r' ha'.1 hb'.1 (room_head hu)
        | succ j => exact eqAt_nodAll xs ys A s _ _ _ _ rs rs' ha'.2 hb'.2 (room_tail hu) j (Nat.lt_of_succ_lt_succ h1) (Nat.lt_of_succ_lt_succ h2)
end

section
variable {C : Ctx} {st : St} {Q : PV → St → Prop}

/-- the units that are left -/
def Un (C : Ctx) : Prop := C.A.units + 66 < cLine
theorem In.un {prog : Program} {w : World} {B : Wd} {ks : List (Str × NameKind)} {n : Nat} {wr : Bool} (h : In prog w B ks n wr C) : Un C := by have := h.room.units; show C.A.units + 66 < 9900; omega

theorem rc_list {s : Shared} {a b : Value} {xs ys : List PyData} {as bs : List Addr} (ra : Reads s.heap a (.list xs) as) (rb : Reads s.heap b (.list ys) bs) (ha : nodAll xs = true) (hb : nodAll ys = true) {A : Around} (hu : A.units + 66 < cLine) (hx : PyData.depthAll xs ≤ 64) :
    RcAt A s a b (PyData.eqvAll xs ys) := by
  cases ra with
  | @list l o vs n _ as₁ h1 h2 h3 h4 =>
    cases rb with
    | @list l' o' vs' n' _ bs₁ k1 k2 k3 k4 =>
      have hl : s.heap.IsList l vs := ⟨_, h1, h2, _, h3⟩
      have hl' : s.heap.IsList l' vs' := ⟨_, k1, k2, _, k3⟩
      have n1 : vs.size = xs.length := by simpa using readsAll_len h4
      have n2 : vs'.size = ys.length := by simpa using readsAll_len k4
      by_cases hsz : vs.size = vs'.size
      · rw [← eqvAll_same_length (by omega : xs.length = ys.length), ← n1]
        refine RcAt.lists hl hl' hsz (by omega) fun j j1 j2 => ?_
        have := eqAt_nodAll xs ys A.in1 s vs.toList vs'.toList _ _ h4 k4 ha hb (by show A.units + 1 + min _ _ < cLine; omega) j (by simpa using j1) (by simpa using j2)
        simpa using this
      · rw [eqvAll_other_length (by omega : xs.length ≠ ys.length)]
        exact RcAt.lists_lengths hl hl' (by simpa using hsz) (by omega)

theorem ACmp_eqL (hU : Un C) {xs ys : List PyData} (hd : PyData.depthAll xs ≤ 64) (h : Q (pbool (PyData.eqvAll xs ys)) st) : ACmp C .Eq (plist xs) (plist ys) st Q := fun a b s ρ I ⟨as, ra, _, ha⟩ ⟨bs, rb, _, hb⟩ =>
  rc_list ra rb ha hb hU hd _ _ _ _ (Post.here I repB h)
theorem rcne_list {s : Shared} {a b : Value} {xs ys : List PyData} {as bs : List Addr} (ra : Reads s.heap a (.list xs) as) (rb : Reads s.heap b (.list ys) bs) (ha : nodAll xs = true) (hb : nodAll ys = true) {A : Around} (hu : A.units + 66 < cLine) (hx : PyData.depthAll xs ≤ 64) :
    RcNeAt A s a b (!PyData.eqvAll xs ys) := by
  cases ra with
  | @list l o vs n _ as₁ h1 h2 h3 h4 =>
    cases rb with
    | @list l' o' vs' n' _ bs₁ k1 k2 k3 k4 =>
      have hl : s.heap.IsList l vs := ⟨_, h1, h2, _, h3⟩
      have hl' : s.heap.IsList l' vs' := ⟨_, k1, k2, _, k3⟩
      have n1 : vs.size = xs.length := by simpa using readsAll_len h4
      have n2 : vs'.size = ys.length := by simpa using readsAll_len k4
      by_cases hsz : vs.size = vs'.size
      · rw [← eqvAll_same_length (by omega : xs.length = ys.length), ← n1]
        refine RcNeAt.lists hl hl' hsz (by omega) fun j j1 j2 => ?_
        have := eqAt_nodAll xs ys A.in1 s vs.toList vs'.toList _ _ h4 k4 ha hb (by show A.units + 1 + min _ _ < cLine; omega) j (by simpa using j1) (by simpa using j2)
        simpa using this
      · rw [eqvAll_other_length (by omega : xs.length ≠ ys.length)]
        exact RcNeAt.lists_lengths hl hl' (by simpa using hsz) (by omega)
theorem ACmp_neL (hU : Un C) {xs ys : List PyData} (hd : PyData.depthAll xs ≤ 64) (h : Q (pbool (!PyData.eqvAll xs ys)) st) : ACmp C .NotEq (plist xs) (plist ys) st Q := fun a b s ρ I ⟨as, ra, _, ha⟩ ⟨bs, rb, _, hb⟩ =>
  rcne_list ra rb ha hb hU hd _ _ _ _ (Post.here I repB h)

open Classical in
open Classical in
end

/-! equality on one kind -/
theorem eqvAll_nil (xs : List PyData) : PyData.eqvAll xs [] = xs.isEmpty := by cases xs <;> rfl
theorem depth_str (x : Str) : (PyData.str x).depth ≤ 1 := by simp [PyData.depth]
theorem depth_int (x : Int) : (PyData.int x).depth ≤ 1 := by simp [PyData.depth]
end Mine

end
section
open PySem PySem.W PyProof.Rows PySem.Calls PySem.SeqAt
namespace Mine
set_option linter.all false

/-! slices -/
def slc {α : Type} (lo hi : Option Int) (xs : List α) : List α :=
  (xs.drop (lo.elim 0 (clipAt xs.length))).take (hi.elim xs.length (clipAt xs.length) - lo.elim 0 (clipAt xs.length))

theorem strSliceIndices_clip (lo hi : Option Int) (n : Nat) : Builtin.Str.strSliceIndices lo hi 1 n = (List.range (hi.elim n (clipAt n) - lo.elim 0 (clipAt n))).map (lo.elim 0 (clipAt n) + ·) := by
  rw [← sliceRange_one]
  cases lo <;> cases hi <;> simp [Builtin.Str.strSliceIndices, clipAt_cast]
theorem slice_eq (x : Str) (lo hi : Option Int) : Txt.slice x lo hi = ⟨(slc lo hi x.cps.toList).toArray⟩ := by
  have e : (Builtin.Str.strSliceIndices lo hi 1 x.length).filterMap (x.cps[·]?) = slc lo hi x.cps.toList := by
    rw [strSliceIndices_clip, pick_run]
    unfold slc
    rw [show x.cps.toList.length = x.length by simp [Str.length]]
  unfold Txt.slice
  split
  · rename_i h
    simp only [beq_self_eq_true, Bool.true_and, beq_iff_eq] at h
    rw [← e]
    have h1 : (Builtin.Str.strSliceIndices lo hi 1 x.length) = List.range x.length := by
      rw [strSliceIndices_clip] at h ⊢
      simp only [List.length_map, List.length_range] at h
      have hle : hi.elim x.length (clipAt x.length) ≤ x.length := by
        cases hi with
        | none => exact Nat.le_refl _
        | some i => show clipAt x.length i ≤ x.length; unfold clipAt; omega
      generalize lo.elim 0 (clipAt x.length) = a at h ⊢
      generalize hi.elim x.length (clipAt x.length) = b at h hle ⊢
      by_cases hx : x.length = 0
      · rw [h, hx]; rfl
      · have ha : a = 0 := by omega
        subst ha
        rw [h]; simp
    rw [h1]
    have h2 := pick_run x.cps 0 x.length
    simp only [Nat.zero_add, List.map_id', List.drop_zero] at h2
    rw [h2, List.take_of_length_le (by simp [Str.length])]
  · rw [e]

section
variable {C : Ctx} {st : St} {Q : PV → St → Prop}

def AOpt (C : Ctx) : Option Expr → St → (Option Int → St → Prop) → Prop
  | none, st, Q => Q none st
  | some e, st, Q => AE C e st fun d st' => ∃ i, d = pint i ∧ Q (some i) st'

def ASl (C : Ctx) (d : PV) (lo hi : Option Int) (st : St) (Q : PV → St → Prop) : Prop :=
  ∀ v vl vu s ρ, Inv C st ρ s → Rep s.heap ρ (Mut C st.σ ρ) v d → IsPart vl lo → IsPart vu hi → ∀ sl, s.heap.IsSliceOf sl vl vu .none → ∃ T id, s.TypeIs v T ∧ typeLookup (.type T) "__getitem__" = pure (some (.builtin id)) ∧ wpAny (model C.prog C.w) C.A (getItem v (.ref sl)) (Post Rep C st ρ s Q) NoE s

theorem AOpt_use (hC : Ok C) {oe : Option Expr} {Q : Option Int → St → Prop} {s : Shared} {ρ : List Addr} (h : AOpt C oe st Q) (I : Inv C st ρ s) {P : Value → Shared → Prop}
    (k : ∀ v s' lo st' ρ', Inv C st' ρ' s' → Le C st ρ s st' ρ' s' → IsPart v lo → Q lo st' → P v s') : wpAny (model C.prog C.w) C.A (evalPart oe C.env) P NoE s := by
  cases oe with
  | none => exact wpAny_evalPart_none (k _ _ none st ρ I .refl .none h)
  | some e =>
    refine wpAny_evalPart_some (AG.use h I fun v s' d st' ρ' I' L' r' ⟨i, e, h'⟩ => ?_)
    subst e
    obtain ⟨t, rfl⟩ := rep_int r'
    exact k _ _ (some i) st' ρ' I' L' (.int i t) h'

theorem AE_Slice (hC : Ok C) {e : Expr} {lo hi : Option Expr} {p pos : Pos} (h : AE C e st fun d st₁ => AOpt C lo st₁ fun l st₂ => AOpt C hi st₂ fun u st₃ => ASl C d l u st₃ Q) : AE C (.Subscript e (.Slice lo hi none p) pos) st Q := fun s ρ I => by
  refine Subscript_ (h.use I fun v s₁ d st₁ ρ₁ I₁ L₁ r₁ h₁ => wpAny_Slice (AOpt_use hC h₁ I₁ fun vl s₂ l st₂ ρ₂ I₂ L₂ pl h₂ => AOpt_use hC h₂ I₂ fun vu s₃ u st₃ ρ₃ I₃ L₃ pu h₃ => wpAny_evalPart_none ?_))
  have J := I₃.push hC { cls := .type "slice", data := .fields #[vl, vu, .none] }
  have L := (L₂.trans L₃).trans J.2
  obtain ⟨T, id, hT, hl, hg⟩ := h₃ v vl vu _ ρ₃ J.1 (r₁.grow (I₁.grow hC L)) pl pu _ (Heap.IsSliceOf.new ..)
  exact tail_any hT hl (wpAny_mono hg (fun _ _ p => (p.le L).le L₁) fun _ _ x => x) (by intros; rfl)

theorem repAll_drop {h : Heap} {ρ : List Addr} {O : Addr → Prop} : ∀ {vs : List Value} {ds : List PV} (i : Nat), RepAll h ρ O vs ds → RepAll h ρ O (vs.drop i) (ds.drop i)
  | [], [], i, _ => by simp; trivial
  | _ :: _, _ :: _, 0, r => r
  | _ :: _, _ :: _, i + 1, ⟨a, b⟩ => repAll_drop i b
  | [], _ :: _, _, h => h.elim
  | _ :: _, [], _, h => h.elim
theorem slc_map {α β : Type} (f : α → β) (lo hi : Option Int) (xs : List α) : slc lo hi (xs.map f) = (slc lo hi xs).map f := by
  unfold slc; simp [List.map_drop, List.map_take]
theorem repAll_slc {h : Heap} {ρ : List Addr} {O : Addr → Prop} {vs : List Value} {ds : List PV} (lo hi : Option Int) (r : RepAll h ρ O vs ds) : RepAll h ρ O (slc lo hi vs) (slc lo hi ds) := by
  unfold slc
  rw [repAll_len r]
  exact repAll_take _ (repAll_drop _ r)
theorem slicePick_slc (vs : List Value) (lo hi : Option Int) : slicePick vs.toArray lo hi none = (slc lo hi vs).toArray := by rw [slicePick_plain]; unfold slc; simp

theorem ASl_at (hC : Ok C) {lo hi : Option Int} {vl vu : Value} {xs : List PyData} {a sl : Addr} {vs : List Value} {s : Shared} {ρ : List Addr} (I : Inv C st ρ s) (hl : s.heap.IsList a vs.toArray) (hr : RepAll s.heap ρ (Mut C st.σ ρ) vs (xs.map .dat)) (hsz : xs.length ≤ sizeLine)
    (hsl : s.heap.IsSliceOf sl vl vu .none) (pl : IsPart vl lo) (pu : IsPart vu hi) (h : Q (plist (slc lo hi xs)) st) : wpAny (model C.prog C.w) C.A (getItem (.ref a) (.ref sl)) (Post Rep C st ρ s Q) NoE s := by
  refine wpAny_getItem_list_slice hl hsl pl pu .none (by simp) ?_ (by have := repAll_len hr; simp at this ⊢; omega)
  rw [slicePick_slc]
  exact Post.list hC I (by rw [← slc_map]; exact repAll_slc lo hi hr) h
theorem ASl_list (hC : Ok C) {lo hi : Option Int} {xs : List PyData} (hsz : xs.length ≤ sizeLine) (h : Q (plist (slc lo hi xs)) st) : ASl C (plist xs) lo hi st Q := fun v vl vu s ρ I r pl pu sl hsl => by
  obtain ⟨a, vs, rfl, hl, hr⟩ := rep_list r
  exact ⟨"list", _, hl.typeIs, slot_list_getitem.lookup, ASl_at hC I hl hr hsz hsl pl pu h⟩
theorem ASl_str (hC : Ok C) {lo hi : Option Int} {x : Str} (hsz : x.length ≤ sizeLine) (h : Q (pstr (Txt.slice x lo hi)) st) : ASl C (pstr x) lo hi st Q := fun v vl vu s ρ I r pl pu sl hsl => by
  obtain ⟨t, rfl⟩ := rep_str r
  refine ⟨"str", _, typeIs_str _ _ _, F.slot_str_getitem.lookup, ?_⟩
  have key : ∀ (l u : Option (Int × Tok)), vl = partValue l → vu = partValue u → lo = l.map (·.1) → hi = u.map (·.1) → wpAny (model C.prog C.w) C.A (getItem (.str x t) (.ref sl)) (Post Rep C st ρ s Q) NoE s := by
    rintro l u rfl rfl rfl rfl
    refine grown (wpAny_getItem_str_slice (l := l) (u := u) (st := none) hsl rfl ?_)
    exact post_val_or_str ⟨Nat.le_trans (Txt.slice_le x _ _) hsz, fun t' k hk => Post.at hC I hk repS h⟩
  cases pl with
  | none => cases pu with
    | none => exact key none none rfl rfl rfl rfl
    | int j u => exact key none (some (j, u)) rfl rfl rfl rfl
  | int i t' => cases pu with
    | none => exact key (some (i, t')) none rfl rfl rfl rfl
    | int j u => exact key (some (i, t')) (some (j, u)) rfl rfl rfl rfl

/-! lists -/
theorem rep1 {h : Heap} {ρ : List Addr} {O : Addr → Prop} {vs : List Value} {d : PV} (r : RepAll h ρ O vs [d]) : ∃ v, vs = [v] ∧ Rep h ρ O v d := by
  match vs, r with
  | [v], ⟨a, _⟩ => exact ⟨v, rfl, a⟩
  | [], r => exact r.elim
  | _ :: _ :: _, ⟨_, b⟩ => exact b.elim
theorem rep2 {h : Heap} {ρ : List Addr} {O : Addr → Prop} {vs : List Value} {d e : PV} (r : RepAll h ρ O vs [d, e]) : ∃ v u, vs = [v, u] ∧ Rep h ρ O v d ∧ Rep h ρ O u e := by
  match vs, r with
  | v :: vs, ⟨a, b⟩ => obtain ⟨u, rfl, c⟩ := rep1 b; exact ⟨v, u, rfl, a, c⟩
  | [], r => exact r.elim
theorem ACall_lenL (hC : Ok C) {xs : List PyData} (hsz : xs.length ≤ sizeLine) (h : Q (pint xs.length) st) : ACallB C "len" [plist xs] st Q := fun vs s ρ I rr => by
  obtain ⟨v, rfl, r⟩ := rep1 rr
  obtain ⟨a, vs, rfl, hl, hr⟩ := rep_list r
  have l1 := repAll_len hr
  rw [sizeLine_eq] at hsz
  refine len_list hl (by simp at l1 ⊢; omega) ?_
  have e : vs.toArray.size = xs.length := by simpa using l1
  rw [e]
  exact Post.at hC I (Nat.le_add_right _ 2) repI h
theorem ACall_lenS (hC : Ok C) {x : Str} (hsz : x.length ≤ sizeLine) (h : Q (pint x.length) st) : ACallB C "len" [pstr x] st Q := fun vs s ρ I rr => by
  obtain ⟨v, rfl, r⟩ := rep1 rr
  obtain ⟨t, rfl⟩ := rep_str r
  rw [sizeLine_eq] at hsz
  exact SBL.len (by omega) (Post.at hC I (Nat.le_add_right _ 2) repI h)

theorem AGm_own {i : Nat} {l : List PV} {name : Str} {id : String} (hi : st.σ[i]? = some (some l)) (slot : Slot "list" name id) (hty : typeOf (.builtin id) = pure (.type "method_descriptor")) : AGm C (.own i) name id st := fun v s ρ I r pl Q hQ => by
  obtain ⟨a, vs, rfl, _, ⟨n, hl⟩, hr⟩ := rep_own I hi r
  exact getMethod_builtin ⟨_, hl, rfl⟩ PySem.F.plainAttrs_list slot hty (fun a e => by cases e; exact ⟨_, hl, rfl⟩) hQ
end
end Mine

end
section
open PySem PySem.Sre
namespace Mine
set_option linter.all false

/-! the pattern machine: running on -/
theorem runFor_zero (m : M) : M.runFor 0 m = m := rfl
theorem runFor_done {m : M} (h : m.outcome.isSome = true) : ∀ n, M.runFor n m = m
  | 0 => rfl
  | n + 1 => by rw [M.runFor, if_pos h]
theorem runFor_succ {m : M} (n : Nat) : M.runFor (n + 1) m = M.runFor n m.step := by
  rw [M.runFor]
  by_cases h : m.outcome.isSome = true
  · rw [if_pos h]
    have e : m.step = m := by unfold M.step; rw [if_pos h]
    rw [e, runFor_done h]
  · rw [if_neg h]
theorem runFor_add (m : M) : ∀ a b, M.runFor (a + b) m = M.runFor b (M.runFor a m) := by
  intro a
  induction a generalizing m with
  | zero => intro b; rw [Nat.zero_add, runFor_zero]
  | succ a ih => intro b; rw [show a + 1 + b = (a + b) + 1 by omega, runFor_succ, runFor_succ, ih]

/-- from m to m' in at most n steps -/
def Goes (n : Nat) (m m' : M) : Prop := ∃ k, k ≤ n ∧ M.runFor k m = m'
theorem Goes.step {m m' : M} (h : m.step = m') : Goes 1 m m' := ⟨1, Nat.le_refl _, by rw [runFor_succ, runFor_zero, h]⟩
theorem Goes.trans {a b : Nat} {m m' m'' : M} (x : Goes a m m') (y : Goes b m' m'') : Goes (a + b) m m'' := by
  obtain ⟨k, hk, e⟩ := x; obtain ⟨l, hl, e'⟩ := y
  exact ⟨k + l, by omega, by rw [runFor_add, e, e']⟩
theorem Goes.mono {a b : Nat} {m m' : M} (x : Goes a m m') (h : a ≤ b) : Goes b m m' := let ⟨k, hk, e⟩ := x; ⟨k, Nat.le_trans hk h, e⟩

section
variable {Md : Model} {A : Around} {E : Value → Shared → Prop} {s : Shared}
theorem reDrive_wp : ∀ (k turns : Nat) (m : M) {Q : M → Shared → Prop}, k < turns → (M.runFor (4 * k + 4) m).outcome.isSome = true → (Q (M.runFor (4 * k + 4) m) s) → wpAny Md A (Builtin.Re.reDrive turns m) Q E s
  | k, 0, m, Q, h, _, _ => absurd h (Nat.not_lt_zero _)
  | 0, t + 1, m, Q, _, h1, h2 => by
    rw [Builtin.Re.reDrive]
    have h1' : (M.runFor Builtin.Re.reTurnSteps m).outcome.isSome = true := h1
    rw [if_pos h1']
    exact wpAny_pure h2
  | k + 1, t + 1, m, Q, h, h1, h2 => by
    rw [Builtin.Re.reDrive]
    have e : M.runFor (4 * (k + 1) + 4) m = M.runFor (4 * k + 4) (M.runFor 4 m) := by rw [← runFor_add]; congr 1; omega
    by_cases hd : (M.runFor Builtin.Re.reTurnSteps m).outcome.isSome = true
    · rw [if_pos hd]
      rw [e, runFor_done (m := M.runFor 4 m) hd] at h2
      exact wpAny_pure h2
    · rw [if_neg hd]
      rw [e] at h1 h2
      exact wpAny_bind (wpAny_rule (reDrive_wp k t _ (by omega) h1 h2))

theorem rules_wp (m : M) {Q : PUnit → Shared → Prop} (h : Q ⟨⟩ s) : ∀ l : List Nat, wpAny Md A (forIn l PUnit.unit fun i _ => (if m.seen.has i = true then do rule (Sre.names.getD i ""); pure (ForInStep.yield PUnit.unit) else pure (ForInStep.yield PUnit.unit) : Sem (ForInStep PUnit))) Q E s := by
  intro l
  induction l with
  | nil => exact wpAny_pure h
  | cons i r ih =>
    rw [List.forIn_cons]
    refine wpAny_bind ?_
    by_cases hi : m.seen.has i = true
    · rw [if_pos hi]; exact wpAny_bind (wpAny_rule (wpAny_pure ih))
    · rw [if_neg hi]; exact wpAny_pure ih

theorem reRunToEnd_wp {m m' : M} {n : Nat} (hg : Goes n m m') (hn : n < 2 ^ 62) {b : Bool} (ho : m'.outcome = some (if b then .matched else .failed)) {Q : Option M → Shared → Prop} (h : Q (if b then some m' else none) s) : wpAny Md A (Builtin.Re.reRunToEnd m) Q E s := by
  obtain ⟨k, hk, e⟩ := hg
  have hdone : m'.outcome.isSome = true := by rw [ho]; rfl
  have hrun : M.runFor (4 * (k / 4) + 4) m = m' := by
    have : 4 * (k / 4) + 4 = k + (4 * (k / 4) + 4 - k) := by omega
    rw [this, runFor_add, e, runFor_done hdone]
  unfold Builtin.Re.reRunToEnd
  refine wpAny_bind (reDrive_wp (k / 4) (2 ^ 64) m (by omega) (by rw [hrun]; exact hdone) ?_)
  rw [hrun]
  refine wpAny_bind (wpAny_mono (rules_wp m' (Q := fun _ s' => s' = s) rfl (List.range Sre.names.size)) (fun _ s' e => ?_) fun _ _ x => x)
  subst e
  rw [ho]
  cases b with
  | true => exact wpAny_pure h
  | false => exact wpAny_pure h
end
end Mine

end
section
open PySem PySem.Sre
namespace Mine
set_option linter.all false

/-! one step of the pattern machine, word by word -/
section
variable {m : M}
/-- it runs -/
structure Live (m : M) : Prop where
  o : m.outcome = none
  a : m.answer = none
  p : m.pc < m.code.size

theorem step_exec (h : Live m) : m.step = m.exec := by
  unfold M.step
  rw [h.o, h.a]
  simp only [Option.isSome_none, Bool.false_eq_true, if_false]
  rw [if_pos h.p]

theorem step_LIT (h : Live m) (h0 : m.code.getD m.pc 0 = 16) : m.step = if m.pos < m.lim ∧ m.text.getD m.pos 0 = m.code.getD (m.pc + 1) 0 then { m with seen := m.seen.add 16, pc := m.pc + 2, pos := m.pos + 1 } else { m with seen := m.seen.add 16, answer := some false } := by
  rw [step_exec h]
  unfold M.exec
  have e0 : m.word 0 = 16 := h0
  have eop : ops[m.word 0]? = some .LITERAL := by rw [e0]; rfl
  rw [eop, e0]
  simp only [accepts, h0, show ops[16]? = some Op.LITERAL from rfl, itemWidth]
  by_cases hp : m.pos < m.lim
  · rw [if_neg (by omega)]
    by_cases hc : m.text.getD m.pos 0 = m.code.getD (m.pc + 1) 0
    · have hb : (m.text.getD m.pos 0 == m.code.getD (m.pc + 1) 0) = true := by simpa using hc
      rw [hb, if_pos ⟨hp, hc⟩]
    · have hb : (m.text.getD m.pos 0 == m.code.getD (m.pc + 1) 0) = false := by simpa using hc
      rw [hb, if_neg (fun q => hc q.2)]; rfl
  · rw [if_pos (by omega), if_neg (fun q => hp q.1)]; rfl

theorem step_AT (h : Live m) {b : Bool} (h0 : m.code.getD m.pc 0 = 6) (hb : m.isAt (m.code.getD (m.pc + 1) 0) = .ok b) :
    ∃ sn, m.step = if b then { m with seen := sn, pc := m.pc + 2 } else { m with seen := sn, answer := some false } := by
  rw [step_exec h]
  unfold M.exec
  have e0 : m.word 0 = 6 := h0
  have eop : ops[m.word 0]? = some .AT := by rw [e0]; rfl
  rw [eop, e0]
  have hb' : M.isAt { m with seen := m.seen.add 6 } (M.word { m with seen := m.seen.add 6 } 1) = .ok b := hb
  refine ⟨(m.seen.add 6).add (43 + m.code.getD (m.pc + 1) 0), ?_⟩
  dsimp only
  rw [hb']
  cases b <;> rfl

theorem step_SUCC (h : Live m) (h0 : m.code.getD m.pc 0 = 1) (hw : m.wholeText = false) (hm : m.mustAdvance = false) : m.step = { m with seen := m.seen.add 1, handed := m.pos, answer := some true } := by
  rw [step_exec h]
  unfold M.exec
  have e0 : m.word 0 = 1 := h0
  have eop : ops[m.word 0]? = some .SUCCESS := by rw [e0]; rfl
  rw [eop, e0]
  simp only [hw, hm, Bool.false_and, Bool.or_false, Bool.and_false, Bool.false_eq_true, if_false]
  rfl
/-- signs in a row that a test takes -/
def runLen (f : Nat → Bool) (t : Array Nat) : Nat → Nat → Nat
  | 0, _ => 0
  | n + 1, p => if f (t.getD p 0) then runLen f t n (p + 1) + 1 else 0
theorem run_eq {code t : Array Nat} {i : Nat} {f : Nat → Bool} (hf : ∀ c sn, ∃ sn', accepts code i c sn = .ok (f c, sn')) : ∀ (n p k : Nat) (sn : Seen), ∃ sn', Sre.run code t i n p k sn = .ok (k + runLen f t n p, sn')
  | 0, p, k, sn => ⟨sn, rfl⟩
  | n + 1, p, k, sn => by
    rw [Sre.run, runLen]
    obtain ⟨sn1, e1⟩ := hf (t.getD p 0) sn
    rw [e1]
    cases h : f (t.getD p 0) with
    | false => exact ⟨sn1, by simp [bind, Except.bind, pure, Except.pure]⟩
    | true =>
      obtain ⟨sn2, e2⟩ := run_eq hf n (p + 1) (k + 1) sn1
      refine ⟨sn2, ?_⟩
      simp only [bind, Except.bind, if_true]
      rw [e2]
      congr 2
      omega
theorem runLen_le (f : Nat → Bool) (t : Array Nat) : ∀ n p, runLen f t n p ≤ n
  | 0, _ => Nat.le_refl _
  | n + 1, p => by rw [runLen]; split; (have := runLen_le f t n (p + 1); omega); omega

/-- a greedy run of one kind of sign -/
theorem step_REP1 (h : Live m) (h0 : m.code.getD m.pc 0 = 24) {least : Nat} (h2 : m.code.getD (m.pc + 2) 0 = least) (h3 : m.code.getD (m.pc + 3) 0 = 4294967295) (hpos : m.pos ≤ m.lim) (hlim : m.lim < 4294967295) {f : Nat → Bool}
    (hf : ∀ c sn, ∃ sn', accepts m.code (m.pc + 4) c sn = .ok (f c, sn')) (hw : m.weight + 1 + (m.keep m.inner.isSome).marks.size ≤ 16777216) {n : Nat} (hn : runLen f m.text (m.lim - m.pos) m.pos = n) : ∃ sn, m.step =
      if n < least then { m with seen := sn, answer := some false } else { m with seen := sn, frames := ({ wait := .giveBack, pc := m.pc, pos := m.pos + n, outermost := m.outermost, count := (n : Int), kept := m.keep m.inner.isSome } : Sre.Frame) :: m.frames, weight := m.weight + 1 + (m.keep m.inner.isSome).marks.size, pc := m.pc + 1 + m.code.getD (m.pc + 1) 0, pos := m.pos + n, handed := m.pos + n } := by
  subst hn
  rw [step_exec h]
  unfold M.exec
  have e0 : m.word 0 = 24 := h0
  have eop : ops[m.word 0]? = some .REPEAT_ONE := by rw [e0]; rfl
  rw [eop, e0]
  have e2 : M.word { m with seen := m.seen.add 24 } 2 = least := h2
  have e3 : M.word { m with seen := m.seen.add 24 } 3 = 4294967295 := h3
  dsimp only
  rw [e2, e3]
  have hroom : ((m.lim : Int) - (m.pos : Int)).toNat = m.lim - m.pos := by omega
  have hmin : min 4294967295 (m.lim - m.pos) = m.lim - m.pos := by omega
  obtain ⟨sn, er⟩ := run_eq (t := m.text) hf (m.lim - m.pos) m.pos 0 ((m.seen.add 24).add (m.code.getD (m.pc + 4) 0))
  rw [Nat.zero_add] at er
  have hle := runLen_le f m.text (m.lim - m.pos) m.pos
  by_cases hl : (least : Int) > (m.lim : Int) - m.pos
  · rw [if_pos hl]
    refine ⟨m.seen.add 24, ?_⟩
    rw [if_pos (by omega)]
    rfl
  · rw [if_neg hl, hroom]
    simp only [Bool.false_eq_true, if_false]
    rw [hmin]
    have er' : Sre.run m.code m.text (m.pc + 4) (m.lim - m.pos) m.pos 0 ((m.seen.add 24).add (M.word { m with seen := m.seen.add 24 } 4)) = .ok (runLen f m.text (m.lim - m.pos) m.pos, sn) := er
    rw [er']
    refine ⟨sn, ?_⟩
    dsimp only
    by_cases hn : runLen f m.text (m.lim - m.pos) m.pos < least
    · rw [if_pos hn, if_pos hn]; rfl
    · rw [if_neg hn, if_neg hn]
      show (if m.weight + 1 + (m.keep m.inner.isSome).marks.size > 16777216 then _ else _) = _
      rw [if_neg (by omega)]
      rfl

/-! answers -/
theorem step_ans {f : Sre.Frame} {fs : List Sre.Frame} {b : Bool} (ho : m.outcome = none) (ha : m.answer = some b) (hf : m.frames = f :: fs) :
    m.step = M.resume { m with answer := none, frames := fs, weight := m.weight - (1 + f.kept.marks.size), pc := f.pc, pos := f.pos, outermost := f.outermost } f b := by
  unfold M.step
  rw [ho, ha, hf]
  rfl
theorem step_end {b : Bool} (ho : m.outcome = none) (ha : m.answer = some b) (hf : m.frames = []) : m.step = { m with outcome := some (if b then .matched else .failed) } := by
  unfold M.step
  rw [ho, ha, hf]
  rfl
end
end Mine

end
section
open PySem PySem.Sre
namespace Mine
set_option linter.all false

/-! \.\d+$ -/
def ipCode : Array Nat := #[14, 8, 1, 2, 4294967295, 1, 1, 46, 0, 16, 46, 24, 9, 1, 4294967295, 13, 4, 8, 0, 0, 1, 6, 5, 1]

def ipM (t : Array Nat) (start pos handed pc : Nat) (om : Bool) (fr : List Sre.Frame) (wt : Nat) (ans : Option Bool) (sn : Seen) : M :=
  { code := ipCode, text := t, lim := t.size, start, lastStart := t.size, pc, pos, handed, outermost := om, marks := #[], frames := fr, weight := wt, answer := ans, seen := sn }

def atEnd (t : Array Nat) (p : Nat) : Bool := p == t.size || (p + 1 == t.size && t.getD p 0 == 10)
def anyEnd (t : Array Nat) (p k : Nat) : Bool := (List.range k).any fun j => atEnd t (p + j + 1)
def ipNS (s : Nat) (om : Bool) : Sre.Frame := { wait := .nextStart, pc := 9, pos := s, outermost := om }
def ipGB (p k : Nat) (om : Bool) : Sre.Frame := { wait := .giveBack, pc := 11, pos := p, outermost := om, count := (k : Int), kept := {} }

section
variable {t : Array Nat} {start : Nat} {om : Bool} {fr : List Sre.Frame}

theorem ip_accepts (c : Nat) (sn : Seen) : ∃ sn', accepts ipCode 15 c sn = .ok (isDigit c, sn') := by
  unfold accepts
  show ∃ sn', inSet ipCode c 24 17 true sn = .ok (isDigit c, sn')
  show ∃ sn', (do if ← category 0 c then pure (true, _) else inSet ipCode c 23 19 true _ : Except String (Bool × Seen)) = .ok (isDigit c, sn')
  have e : category 0 c = .ok (isDigit c) := by unfold category; simp [Except.map]
  rw [e]
  cases isDigit c with
  | true => exact ⟨_, rfl⟩
  | false => exact ⟨_, rfl⟩

theorem ip_give : ∀ (k p handed : Nat) (sn : Seen), 1 ≤ k → p + k ≤ t.size → ∃ pos' handed' pc' om' sn', Goes (4 * k) (ipM t start (p + k) handed 21 om (ipGB (p + k) k om :: fr) 2 none sn) (ipM t start pos' handed' pc' om' fr 1 (some (anyEnd t p k)) sn') := by
  intro k
  induction k with
  | zero => intro p handed sn h; omega
  | succ k ih =>
    intro p handed sn _ hp
    have hany : anyEnd t p (k + 1) = (anyEnd t p k || atEnd t (p + (k + 1))) := by
      unfold anyEnd; rw [List.range_succ, List.any_append]; simp [Nat.add_assoc]
    obtain ⟨sn1, e1⟩ := step_AT (m := ipM t start (p + (k + 1)) handed 21 om (ipGB (p + (k + 1)) (k + 1) om :: fr) 2 none sn) (b := atEnd t (p + (k + 1))) ⟨rfl, rfl, by show 21 < 24; decide⟩ rfl rfl
    cases he : atEnd t (p + (k + 1)) with
    | true =>
      rw [he] at e1
      rw [hany, he, Bool.or_true]
      have g1 := Goes.step e1
      have g2 := Goes.step (step_SUCC (m := ipM t start (p + (k + 1)) handed 23 om (ipGB (p + (k + 1)) (k + 1) om :: fr) 2 none sn1) ⟨rfl, rfl, by show 23 < 24; decide⟩ rfl rfl rfl)
      have g3 := Goes.step (step_ans (m := ipM t start (p + (k + 1)) (p + (k + 1)) 23 om (ipGB (p + (k + 1)) (k + 1) om :: fr) 2 (some true) (sn1.add 1)) rfl rfl rfl)
      exact ⟨_, _, _, _, _, ((g1.trans g2).trans g3).mono (by omega)⟩
    | false =>
      rw [he] at e1
      rw [hany, he, Bool.or_false]
      have g1 := Goes.step e1
      have g3 := step_ans (m := ipM t start (p + (k + 1)) handed 21 om (ipGB (p + (k + 1)) (k + 1) om :: fr) 2 (some false) sn1) rfl rfl rfl
      cases k with
      | zero => exact ⟨_, _, _, _, _, (g1.trans (Goes.step g3)).mono (by omega)⟩
      | succ j =>
        have e : M.resume { (ipM t start (p + (j + 1 + 1)) handed 21 om (ipGB (p + (j + 1 + 1)) (j + 1 + 1) om :: fr) 2 (some false) sn1) with answer := none, frames := fr, weight := 2 - (1 + 0), pc := 11, pos := p + (j + 1 + 1), outermost := om } (ipGB (p + (j + 1 + 1)) (j + 1 + 1) om) false
            = ipM t start (p + (j + 1)) (p + (j + 1)) 21 om (ipGB (p + (j + 1)) (j + 1) om :: fr) 2 none sn1 := by
          show (if ((j + 1 + 1 : Nat) : Int) - 1 < ((1 : Nat) : Int) then _ else _) = _
          rw [if_neg (by omega)]
          unfold M.afterRun M.attempt
          rw [if_neg (by show ¬ (1 + 1 + 0 > 16777216); decide)]
          have e1 : (((j + 1 + 1 : Nat) : Int) - 1) = ((j + 1 : Nat) : Int) := by omega
          have e2 : p + (j + 1 + 1) - 1 = p + (j + 1) := by omega
          unfold ipM ipGB M.frame
          dsimp only
          rw [e1, e2]
          rfl
        have g4 : Goes 1 _ _ := Goes.step (g3.trans e)
        obtain ⟨a, b, c, d, sn', g5⟩ := ih p (p + (j + 1)) sn1 (by omega) (by omega)
        exact ⟨a, b, c, d, sn', ((g1.trans g4).trans g5).mono (by omega)⟩

def ipTrial (t : Array Nat) (s : Nat) : Bool := decide (s < t.size) && (t.getD s 0 == 46) && anyEnd t (s + 1) (runLen isDigit t (t.size - (s + 1)) (s + 1))

theorem ip_trial {s : Nat} {sn : Seen} (hs : s ≤ t.size) (hsz : t.size < 4294967295) : ∃ pos' handed' pc' om' sn', Goes (4 * t.size + 4) (ipM t start s s 9 om fr 1 none sn) (ipM t start pos' handed' pc' om' fr 1 (some (ipTrial t s)) sn') := by
  have e1 := step_LIT (m := ipM t start s s 9 om fr 1 none sn) ⟨rfl, rfl, by show 9 < 24; decide⟩ rfl
  by_cases h : s < t.size ∧ t.getD s 0 = 46
  · have e1' : (ipM t start s s 9 om fr 1 none sn).step = ipM t start (s + 1) s 11 om fr 1 none (sn.add 16) := e1.trans (if_pos h)
    obtain ⟨sn2, e2⟩ := step_REP1 (m := ipM t start (s + 1) s 11 om fr 1 none (sn.add 16)) (least := 1) (f := isDigit) ⟨rfl, rfl, by show 11 < 24; decide⟩ rfl rfl rfl (by show s + 1 ≤ t.size; omega) hsz ip_accepts (by show 1 + 1 + 0 ≤ 16777216; decide) rfl
    have hT : ipTrial t s = anyEnd t (s + 1) (runLen isDigit t (t.size - (s + 1)) (s + 1)) := by unfold ipTrial; simp [h.1, h.2]
    rw [hT]
    have e2' : (ipM t start (s + 1) s 11 om fr 1 none (sn.add 16)).step = if runLen isDigit t (t.size - (s + 1)) (s + 1) < 1 then _ else _ := e2
    have hle := runLen_le isDigit t (t.size - (s + 1)) (s + 1)
    by_cases hn : runLen isDigit t (t.size - (s + 1)) (s + 1) < 1
    · rw [if_pos hn] at e2'
      have : runLen isDigit t (t.size - (s + 1)) (s + 1) = 0 := by omega
      rw [this]
      exact ⟨s + 1, s, 11, om, sn2, ((Goes.step e1').trans (Goes.step e2')).mono (by omega)⟩
    · rw [if_neg hn] at e2'
      obtain ⟨a, b, c, d, sn', g⟩ := ip_give (t := t) (start := start) (om := om) (fr := fr) (runLen isDigit t (t.size - (s + 1)) (s + 1)) (s + 1) (s + 1 + runLen isDigit t (t.size - (s + 1)) (s + 1)) sn2 (by omega) (by omega)
      exact ⟨a, b, c, d, sn', (((Goes.step e1').trans (Goes.step e2')).trans g).mono (by omega)⟩
  · have e1' : (ipM t start s s 9 om fr 1 none sn).step = ipM t start s s 9 om fr 1 (some false) (sn.add 16) := e1.trans (if_neg h)
    have hT : ipTrial t s = false := by
      unfold ipTrial
      rw [Bool.and_eq_false_iff, Bool.and_eq_false_iff]
      by_cases h1 : s < t.size
      · exact .inl (.inr (by simpa using fun e => h ⟨h1, e⟩))
      · exact .inl (.inl (by simpa using h1))
    rw [hT]
    exact ⟨s, s, 9, om, _, (Goes.step e1').mono (by omega)⟩

/-- does the search find it -/
def ipAny (t : Array Nat) : Bool := (List.range (t.size + 1)).any (ipTrial t)

theorem ip_search (hsz : t.size < 4294967295) : ∀ (n s : Nat) (om : Bool) (sn : Seen), s + n = t.size → ∃ m', Goes ((n + 1) * (4 * t.size + 8)) (ipM t s s s 9 om [ipNS s om] 1 none sn) m' ∧ m'.outcome = some (if (List.range (n + 1)).any (fun j => ipTrial t (s + j)) then .matched else .failed) := by
  intro n
  induction n with
  | zero =>
    intro s om sn hs
    obtain ⟨a, b, c, d, sn', g⟩ := ip_trial (t := t) (start := s) (om := om) (fr := [ipNS s om]) (s := s) (sn := sn) (by omega) hsz
    have hany : (List.range (0 + 1)).any (fun j => ipTrial t (s + j)) = ipTrial t s := by simp
    rw [hany]
    cases hb : ipTrial t s with
    | true =>
      rw [hb] at g
      have g2 := Goes.step (step_ans (m := ipM t s a b c d [ipNS s om] 1 (some true) sn') rfl rfl rfl)
      have g3 := Goes.step (step_end (m := M.resume { (ipM t s a b c d [ipNS s om] 1 (some true) sn') with answer := none, frames := [], weight := 0, pc := 9, pos := s, outermost := om } (ipNS s om) true) (b := true) rfl rfl rfl)
      exact ⟨_, ((g.trans g2).trans g3).mono (by omega), rfl⟩
    | false =>
      rw [hb] at g
      have e2 : (ipM t s a b c d [ipNS s om] 1 (some false) sn').step = ipM t s s b 9 om [] 0 (some false) sn' := by
        refine (step_ans (m := ipM t s a b c d [ipNS s om] 1 (some false) sn') rfl rfl rfl).trans ?_
        show (if s < t.size then _ else _) = _
        rw [if_neg (by omega)]; rfl
      have g3 := Goes.step (step_end (m := ipM t s s b 9 om [] 0 (some false) sn') (b := false) rfl rfl rfl)
      exact ⟨_, ((g.trans (Goes.step e2)).trans g3).mono (by omega), rfl⟩
  | succ n ih =>
    intro s om sn hs
    obtain ⟨a, b, c, d, sn', g⟩ := ip_trial (t := t) (start := s) (om := om) (fr := [ipNS s om]) (s := s) (sn := sn) (by omega) hsz
    have hany : (List.range (n + 1 + 1)).any (fun j => ipTrial t (s + j)) = (ipTrial t s || (List.range (n + 1)).any (fun j => ipTrial t (s + 1 + j))) := by
      rw [List.range_succ_eq_map, List.any_cons, List.any_map]
      congr 1
      apply congrArg (fun f => List.any _ f)
      funext j
      simp only [Function.comp]
      congr 1; omega
    rw [hany]
    cases hb : ipTrial t s with
    | true =>
      rw [hb] at g
      have g2 := Goes.step (step_ans (m := ipM t s a b c d [ipNS s om] 1 (some true) sn') rfl rfl rfl)
      have g3 := Goes.step (step_end (m := M.resume { (ipM t s a b c d [ipNS s om] 1 (some true) sn') with answer := none, frames := [], weight := 0, pc := 9, pos := s, outermost := om } (ipNS s om) true) (b := true) rfl rfl rfl)
      refine ⟨_, ((g.trans g2).trans g3).mono ?_, rfl⟩
      have : (n + 1 + 1) * (4 * t.size + 8) ≥ 1 * (4 * t.size + 8) := Nat.mul_le_mul_right _ (by omega)
      omega
    | false =>
      rw [hb] at g
      have e2 : (ipM t s a b c d [ipNS s om] 1 (some false) sn').step = ipM t (s + 1) (s + 1) (s + 1) 9 false [ipNS (s + 1) false] 1 none sn' := by
        refine (step_ans (m := ipM t s a b c d [ipNS s om] 1 (some false) sn') rfl rfl rfl).trans ?_
        show (if s < t.size then _ else _) = _
        rw [if_pos (by omega)]; rfl
      obtain ⟨m', g3, ho⟩ := ih (s + 1) false sn' (by omega)
      refine ⟨m', ((g.trans (Goes.step e2)).trans g3).mono ?_, ho⟩
      have : (n + 1 + 1) * (4 * t.size + 8) = (n + 1) * (4 * t.size + 8) + (4 * t.size + 8) := by rw [Nat.add_mul (n + 1) 1, Nat.one_mul]
      omega

theorem ip_forSearch (hsz : t.size < 16777217) : ∃ m' n, Goes n (forSearch ipCode t 0 0 t.size false) m' ∧ n < 2 ^ 62 ∧ m'.outcome = some (if ipAny t then .matched else .failed) := by
  by_cases h2 : t.size < 2
  · have e : forSearch ipCode t 0 0 t.size false = M.say { code := ipCode, text := t, lim := t.size, start := 0, pc := 9, pos := 0, handed := 0, marks := #[], seen := ({} : Seen).add 14 } false := by
      show (if (decide (0 > t.size) || decide (t.size - 0 < 2)) = true then _ else _) = _
      rw [if_pos (by simp; omega)]; rfl
    have hany : ipAny t = false := by
      unfold ipAny
      rw [List.any_eq_false]
      intro s hs
      have hs' : s ≤ t.size := by simpa [Nat.lt_succ_iff] using hs
      unfold ipTrial
      intro hh
      rw [Bool.and_eq_true, Bool.and_eq_true] at hh
      obtain ⟨⟨h1, _⟩, h3⟩ := hh
      have h1' : s < t.size := by simpa using h1
      have h0 : t.size - (s + 1) = 0 := by omega
      rw [h0] at h3
      simp [runLen, anyEnd] at h3
    rw [e, hany]
    exact ⟨_, 1, Goes.step (step_end (b := false) rfl rfl rfl), by decide, rfl⟩
  · have e : forSearch ipCode t 0 0 t.size false = ipM t 0 0 0 9 true [ipNS 0 true] 1 none (({} : Seen).add 14) := by
      show (if (decide (0 > t.size) || decide (t.size - 0 < 2)) = true then _ else _) = _
      rw [if_neg (by simp; omega)]; rfl
    rw [e]
    obtain ⟨m', g, ho⟩ := ip_search (t := t) (by omega) t.size 0 true (({} : Seen).add 14) (by omega)
    refine ⟨m', _, g, ?_, ?_⟩
    · have h1 : (t.size + 1) * (4 * t.size + 8) ≤ 16777217 * (4 * 16777216 + 8) := Nat.mul_le_mul (by omega) (by omega)
      have h2 : 16777217 * (4 * 16777216 + 8) < 2 ^ 62 := by decide
      omega
    · rw [ho]; unfold ipAny; simp
end
end Mine

end
section
open PySem PySem.W PyProof.Rows PySem.Calls PySem.SeqAt
namespace Mine
set_option linter.all false
set_option maxRecDepth 100000

/-! patterns -/
theorem plainAttrs_pat : PlainAttrs "re.Pattern" := ⟨⟨"object.__getattribute__", by rw [typeLookup_type, builtinLookup_eq_fast]; kernel_rfl, by decide +kernel⟩, by rw [typeLookup_type, builtinLookup_eq_fast]; kernel_rfl⟩
theorem slot_pat_search : Slot "re.Pattern" "search" "re.Pattern.search" :=
  .of (owner := "re.Pattern") (n := "search") (by rw [typeLookup_type, builtinLookup_eq_fast]; kernel_rfl) (by decide +kernel) (by decide +kernel) (by decide +kernel)
    (by first | exact .inl (by decide +kernel) | exact .inr (by decide +kernel)) (by rw [isSubtype_type]; kernel_rfl)
theorem type_pat_search : typeOf (.builtin "re.Pattern.search") = pure (.type "method_descriptor") := by show builtinType _ = _; rw [builtinType_eq_fast]; kernel_rfl
theorem entry_pat_search : entryFor table "re.Pattern.search" = some Builtin.«re.Pattern.search» := entryFor_of_fast (by kernel_rfl)
theorem args_pat_search (a b : Value) : argsOk "re.Pattern.search" ⟨[a, b], []⟩ := by unfold argsOk; kernel_rfl
theorem match_no_bool : typeLookup (.type "re.Match") "__bool__" = pure none := by rw [typeLookup_type, builtinLookup_eq_fast]; kernel_rfl
theorem match_no_len : typeLookup (.type "re.Match") "__len__" = pure none := by rw [typeLookup_type, builtinLookup_eq_fast]; kernel_rfl

/-- a compiled pattern of a text: its words, its groups -/
def IsPat (h : Heap) (a : Addr) (code : Array Nat) (groups : Nat) : Prop :=
  ∃ (p f gi ig : Value) (c : Addr) (ws : List Value) (dd : Option Addr) (sl : Array (Option Value)) (n : Nat), h.get? a = some { cls := .type "re.Pattern", data := .fields #[p, f, .int groups 0, gi, ig, .ref c, .int 0 0] } ∧ h.get? c = some { cls := .type "tuple", dict := dd, data := .seq ws.toArray n, slots := sl } ∧ ws = code.toList.map (fun k : Nat => Value.int (k : Int) 0)
theorem IsPat.keeps {h h' : Heap} {a : Addr} {code : Array Nat} {g : Nat} (x : IsPat h a code g) (hk : ∀ b o, h.get? b = some o → h'.get? b = some o) : IsPat h' a code g :=
  let ⟨p, f, gi, ig, c, ws, dd, sl, n, h1, h2, h3⟩ := x; ⟨p, f, gi, ig, c, ws, dd, sl, n, hk _ _ h1, hk _ _ h2, h3⟩

section
variable {C : Ctx} {st : St} {Q : PV → St → Prop}

theorem AGm_pat {a : Addr} {code : Array Nat} {g : Nat} {name : Str} {id : String} (hp : IsPat C.s₀.heap a code g) (slot : Slot "re.Pattern" name id) (hty : typeOf (.builtin id) = pure (.type "method_descriptor")) : AGm C (.val (.ref a)) name id st := fun v s ρ I r pl Q hQ => by
  have e : v = .ref a := r
  subst e
  obtain ⟨p, f, gi, ig, c, ws, dd, sl, n, h1, h2, h3⟩ := hp.keeps I.keep
  exact getMethod_builtin ⟨_, h1, rfl⟩ plainAttrs_pat slot hty (fun a e => by cases e; exact ⟨_, h1, rfl⟩) hQ

theorem rawItems_wp {M : Model} {A : Around} {E : Value → Shared → Prop} {s : Shared} {c : Addr} {o : Obj} {ws : Array Value} {n : Nat} {Q : Array Int → Shared → Prop} (ho : s.heap.get? c = some o) (hd : o.data = .seq ws n) (h : Q (ws.map Builtin.Re.reRawOf) s) : wpAny M A (Builtin.Re.reRawItems (.ref c)) Q E s := by
  unfold Builtin.Re.reRawItems
  exact wpAny_bind (wpAny_seqItems ho hd (wpAny_pure h))

theorem reTextOf_str {M : Model} {A : Around} {E : Value → Shared → Prop} {s : Shared} {x : Str} {t : Tok} {Q : Array Nat × Nat → Shared → Prop} (h : Q (x.cps, 0) s) : wpAny M A (Builtin.Re.reTextOf (.str x t)) Q E s := by
  unfold Builtin.Re.reTextOf
  refine wpAny_bind (m := asStr? (.str x t)) (wpAny_pure ?_)
  exact wpAny_pure h

theorem reTarget_wp {M : Model} {A : Around} {E : Value → Shared → Prop} {s : Shared} {a : Addr} {code : Array Nat} {g : Nat} {x : Str} {t : Tok} {id f : String} {Q : Builtin.Re.ReTarget → Shared → Prop} (hp : IsPat s.heap a code g) (hx : x.cps.size < 2 ^ 63 - 1)
    (h : Q { pattern := .ref a, string := .str x t, code, text := x.cps, kind := 0, groups := g, pos := 0, lim := x.cps.size } s) : wpAny M A (Builtin.Re.reTarget id f ⟨[.ref a, .str x t], []⟩) Q E s := by
  obtain ⟨p, fl, gi, ig, c, ws, dd, sl, n, h1, h2, h3⟩ := hp
  unfold Builtin.Re.reTarget
  show wpAny M A (Builtin.Re.reNamed id f ["string", "pos", "endpos"] 1 [.str x t] [] >>= _) Q E s
  refine wpAny_bind (wpAny_of_eq (a := [some (.str x t), none, none]) rfl ?_)
  refine wpAny_bind (m := (pure 0 : Sem Int)) (wpAny_pure ?_)
  refine wpAny_bind (m := (pure (2 ^ 63 - 1) : Sem Int)) (wpAny_pure ?_)
  refine wpAny_bind (wpAny_fieldsOf h1 rfl ?_)
  refine wpAny_bind (reTextOf_str ?_)
  show wpAny M A (Builtin.Re.reNoCollectionInside (.str x t) 0 >>= fun _ => _) Q E s
  refine wpAny_bind (m := Builtin.Re.reNoCollectionInside (.str x t) 0) (wpAny_pure ?_)
  show wpAny M A (Builtin.Re.reRawItems (.ref c) >>= _) Q E s
  refine wpAny_bind (rawItems_wp h2 rfl (wpAny_pure ?_))
  have e1 : (ws.toArray.map Builtin.Re.reRawOf).map (·.toNat) = code := by
    subst h3
    apply Array.ext'
    simp [Builtin.Re.reRawOf, Function.comp_def]
  have e2 : min (2 ^ 63 - 1 : Int).toNat x.cps.size = x.cps.size := by omega
  have e3 : min (0 : Int).toNat x.cps.size = 0 := by simp
  have key : ({ pattern := .ref a, string := .str x t, code := (ws.toArray.map Builtin.Re.reRawOf).map (·.toNat), text := x.cps, kind := 0, groups := Builtin.Re.reRawNat (.int g 0), pos := min (0 : Int).toNat x.cps.size, lim := min (2 ^ 63 - 1 : Int).toNat x.cps.size } : Builtin.Re.ReTarget) = { pattern := .ref a, string := .str x t, code, text := x.cps, kind := 0, groups := g, pos := 0, lim := x.cps.size } := by
    rw [e1, e2, e3]; rfl
  rw [← key] at h
  exact h

/-- what a search brings: nothing, or the place and the groups' places -/
theorem ACall_search (hC : Ok C) {a : Addr} {code : Array Nat} {g : Nat} {x : Str} (hp : IsPat C.s₀.heap a code g) (hx : x.length ≤ sizeLine) {b : Bool} {m' : Sre.M} {n : Nat} (hgo : Goes n (Sre.forSearch code x.cps g 0 x.cps.size false) m') (hn : n < 2 ^ 62) (ho : m'.outcome = some (if b then .matched else .failed)) {sp : List Int}
    (hsp : b = true → ∀ (M : Model) (A : Around) (s : Shared) (p str : Value) (R : Value → Shared → Prop), R (.ref (s.heap.objs.size + 1)) { s with heap := (s.heap.push { cls := .type "tuple", data := .seq (sp.map rawInt).toArray }).push { cls := .type "re.Match", data := .fields #[str, p, rawInt 0, rawInt x.cps.size, rawInt m'.lastindex, .ref s.heap.objs.size] } } → wpAny M A (Builtin.Re.reNewMatch p str g 0 x.cps.size m') R NoE s)
    (h : Q (if b then .mt x sp else pnone) st) : ACallB C "re.Pattern.search" [.val (.ref a), pstr x] st Q := fun vs s ρ I rr => by
  obtain ⟨v, u, rfl, r, ru⟩ := rep2 rr
  have e : v = .ref a := r
  subst e
  obtain ⟨t, rfl⟩ := rep_str ru
  have hp' := hp.keeps I.keep
  obtain ⟨p, f, gi, ig, c, ws, dd, sl, nn, h1, h2, h3⟩ := id hp'
  have hx' : x.cps.size < 2 ^ 63 - 1 := by have : x.cps.size = x.length := rfl; rw [sizeLine_eq] at hx; omega
  refine wpAny_call_entry slot_pat_search ⟨_, h1, rfl⟩ entry_pat_search ?_ (args_pat_search _ _)
  unfold Builtin.«re.Pattern.search»
  refine wpAny_bind (reTarget_wp hp' hx' ?_)
  unfold Builtin.Re.reAnswer
  refine wpAny_bind (reRunToEnd_wp hgo hn ho ?_)
  cases b with
  | false => exact wpAny_pure ⟨_, rfl, Post.here I repN h⟩
  | true =>
    refine wpAny_bind (hsp rfl _ _ _ _ _ _ (wpAny_pure ⟨_, rfl, ?_⟩))
    have J := I.keeps hC (h' := (s.heap.push { cls := .type "tuple", data := .seq (sp.map rawInt).toArray }).push { cls := .type "re.Match", data := .fields #[.str x t, .ref a, rawInt 0, rawInt x.cps.size, rawInt m'.lastindex, .ref s.heap.objs.size] }) (tk := s.toks) (fun b o e => Heap.get?_push_of_some _ (Heap.get?_push_of_some _ e)) (Nat.le_refl _)
    refine ⟨.mt x sp, st, ρ, J.1, J.2, ⟨s.heap.objs.size + 1, { cls := .type "re.Match", data := .fields #[.str x t, .ref a, rawInt 0, rawInt x.cps.size, rawInt m'.lastindex, .ref s.heap.objs.size] }, t, .ref a, rawInt 0, rawInt x.cps.size, rawInt m'.lastindex, s.heap.objs.size, rfl, ?_, ⟨rfl, rfl⟩, rfl, ?_⟩, h⟩
    · rw [← Heap.size_push s.heap { cls := .type "tuple", data := .seq (sp.map rawInt).toArray }]; exact Heap.get?_push_size _ rfl
    · exact ⟨_, Heap.get?_push_of_some _ (Heap.get?_push_size _ rfl), rfl, 0, rfl⟩

theorem ATru_mt {Q : Bool → St → Prop} {x : Str} {sp : List Int} (h : Q true st) : ATru C (.mt x sp) st Q := fun a s ρ I ra => by
  obtain ⟨a, o, t, pv, p, l, li, b, rfl, ho, hc, _⟩ := ra
  have hT : s.TypeIs (.ref a) "re.Match" := ⟨o, ho, hc.1⟩
  unfold truthy
  refine wpAny_bind (m := callSpecial? (.ref a) (Str.ofString "__bool__")) ?_
  unfold callSpecial?
  refine wpAny_bind (wpAny_specialOf hT match_no_bool (wpAny_pure ?_))
  refine wpAny_bind (m := specialOf (.ref a) "__len__") (wpAny_specialOf hT match_no_len ?_)
  exact wpAny_pure ⟨true, st, ρ, I, .refl, rfl, h⟩

theorem newMatch0 {m' : Sre.M} {n : Nat} {M : Model} {A : Around} {s : Shared} {p str : Value} {R : Value → Shared → Prop} (h : R (.ref (s.heap.objs.size + 1)) { s with heap := (s.heap.push { cls := .type "tuple", data := .seq ([(m'.start : Int), (m'.handed : Int)].map rawInt).toArray }).push { cls := .type "re.Match", data := .fields #[str, p, rawInt 0, rawInt n, rawInt m'.lastindex, .ref s.heap.objs.size] } }) :
    wpAny M A (Builtin.Re.reNewMatch p str 0 0 n m') R NoE s := by
  unfold Builtin.Re.reNewMatch
  show wpAny M A (newTuple [rawInt m'.start, rawInt m'.handed] >>= _) R NoE s
  refine wpAny_bind (newTuple_step ?_ (by show 2 ≤ sizeLine; decide))
  refine wpAny_newObj_type ?_ (by size_fits)
  show R (.ref ((s.heap.push { cls := .type "tuple", data := .seq ([(m'.start : Int), (m'.handed : Int)].map rawInt).toArray }).objs.size)) _
  rw [Heap.size_push]
  exact h
end
end Mine

end
section
open PySem PySem.W PyProof.Rows PySem.Calls
namespace Mine
set_option linter.all false
set_option maxRecDepth 100000

section
variable {C : Ctx} {st : St} {Q : PV → St → Prop}

/-! methods of a str -/
theorem AGm_strOf {x : Str} {name : Str} {id : String} (h : ∀ {M : Model} {A : Around} {s : Shared} {t : Tok} {pl : Sem Bool} {Q : Value × List Value → Shared → Prop}, Q (.builtin id, [.str x t]) s → wpAny M A (getMethod (.str x t) name pl) Q NoE s) : AGm C (pstr x) name id st := fun v s ρ I r pl Q hQ => by
  obtain ⟨t, rfl⟩ := rep_str r
  exact h hQ
theorem AGm_lower {x : Str} : AGm C (pstr x) "lower" "str.lower" st := AGm_strOf GM.lower
theorem AGm_swapcase {x : Str} : AGm C (pstr x) "swapcase" "str.swapcase" st := AGm_strOf GM.swapcase
theorem AGm_rfind {x : Str} : AGm C (pstr x) "rfind" "str.rfind" st := AGm_strOf GM.rfind
theorem AGm_startswith {x : Str} : AGm C (pstr x) "startswith" "str.startswith" st := AGm_strOf GM.startswith
theorem AGm_split {x : Str} : AGm C (pstr x) "split" "str.split" st := AGm_strOf GM.split
theorem AGm_join {x : Str} : AGm C (pstr x) "join" "str.join" st := AGm_strOf GM.join
theorem ACall_lower (hC : Ok C) {x : Str} (hx : x.length ≤ 5592405) (h : Q (pstr (Txt.lower x)) st) : ACallB C "str.lower" [pstr x] st Q := fun vs s ρ I rr => by
  obtain ⟨v, rfl, r⟩ := rep1 rr; obtain ⟨t, rfl⟩ := rep_str r
  exact SCL.lower hx fun _ => Post.at hC I (Nat.le_succ _) repS h
theorem ACall_swapcase (hC : Ok C) {x : Str} (hx : x.length ≤ 5592405) (h : Q (pstr (Txt.swapcase x)) st) : ACallB C "str.swapcase" [pstr x] st Q := fun vs s ρ I rr => by
  obtain ⟨v, rfl, r⟩ := rep1 rr; obtain ⟨t, rfl⟩ := rep_str r
  exact SCL.swapcase hx fun _ => Post.at hC I (Nat.le_succ _) repS h
theorem ACall_rfind (hC : Ok C) {x y : Str} (h : Q (pint (Txt.rfind x y)) st) : ACallB C "str.rfind" [pstr x, pstr y] st Q := fun vs s ρ I rr => by
  obtain ⟨v, u, rfl, r, r'⟩ := rep2 rr; obtain ⟨t, rfl⟩ := rep_str r; obtain ⟨t', rfl⟩ := rep_str r'
  exact SC.rfind (Post.at hC I (Nat.le_succ _) repI h)
theorem ACall_startswith {x y : Str} (h : Q (pbool (Txt.startswith x y)) st) : ACallB C "str.startswith" [pstr x, pstr y] st Q := fun vs s ρ I rr => by
  obtain ⟨v, u, rfl, r, r'⟩ := rep2 rr; obtain ⟨t, rfl⟩ := rep_str r; obtain ⟨t', rfl⟩ := rep_str r'
  exact SC.startswith (Post.here I repB h)
theorem strs_of {h : Heap} {ρ : List Addr} {O : Addr → Prop} : ∀ {vs : List Value} {xs : List Str}, RepAll h ρ O vs (xs.map pstr) → ∃ l : List (Str × Tok), strValues l = vs ∧ l.map (·.1) = xs
  | [], [], _ => ⟨[], rfl, rfl⟩
  | v :: vs, x :: xs, ⟨a, b⟩ => by
    obtain ⟨t, rfl⟩ := rep_str a
    obtain ⟨l, e1, e2⟩ := strs_of b
    exact ⟨(x, t) :: l, by rw [← e1]; rfl, by rw [← e2]; rfl⟩
  | [], _ :: _, h => h.elim
  | _ :: _, [], h => h.elim
theorem repAll_strs {h : Heap} {ρ : List Addr} {O : Addr → Prop} : ∀ {l : List (Str × Tok)} {xs : List Str}, l.map (·.1) = xs → RepAll h ρ O (strValues l) ((xs.map PyData.str).map PV.dat)
  | [], _, e => by subst e; exact trivial
  | p :: l, _, e => by subst e; exact ⟨repS, repAll_strs rfl⟩

theorem ACall_join (hC : Ok C) {x : Str} {xs : List Str} (hx : (xs.map (·.length)).sum + xs.length * x.length ≤ 16777216) (h : Q (pstr (Txt.join x xs)) st) : ACallB C "str.join" [pstr x, plist (xs.map .str)] st Q := fun vs s ρ I rr => by
  obtain ⟨v, u, rfl, r, r'⟩ := rep2 rr; obtain ⟨t, rfl⟩ := rep_str r
  obtain ⟨a, vs, rfl, hl, hr⟩ := rep_list r'
  rw [List.map_map] at hr
  obtain ⟨l, e1, e2⟩ := strs_of (xs := xs) hr
  rw [← e1] at hl
  exact grown (SC.join hl e2 (joinOk_of hx) fun t' k hk => Post.at hC I hk repS h)
/-! the sum of a list of ints -/
/-! an expression alone -/
theorem AX_Expr {Q : Fl → St → Prop} {e : Expr} {pos : Pos} (h : AE C e st fun _ st₁ => Q .next st₁) (hi : interactive C.env = false := by rfl) (hs : swapsWith e none pos.line C.env = pure false := by rfl) : AX C (.Expr e pos) st Q := fun s ρ I =>
  wpAny_Expr_any (h.use I fun _ _ _ st₁ ρ₁ I₁ L₁ _ h₁ => ⟨.next, st₁, ρ₁, I₁, L₁, trivial, h₁⟩) hi hs
end
end Mine

end
section
open PySem PySem.W PyProof.Rows PySem.Calls
namespace Mine
set_option linter.all false
set_option maxRecDepth 100000

/-- what all heaps of a law hold: the text's own objects, the built-in names -/
structure Base (K : Frag) (h : Heap) : Prop where
  frag : K.In h
  lim : h.NoLimit
  g : ∃ mg, h.Ns mainGlobals mg
  b : ∃ mb, h.Ns builtinsNs mb ∧ ∀ x : Str, x ≠ "__name__" → mb x = bootBuiltins x
  stat : ∃ mc, h.Ns cStatics mc
  bm : ∃ mg bm ob, h.Ns mainGlobals mg ∧ mg "__builtins__" = some (.ref bm) ∧ bm ≠ builtinsNs ∧ h.get? bm = some ob ∧ ob.cls = .type "module" ∧ ob.dict = some builtinsNs ∧ ob.data = .plain

theorem Base.keeps {K : Frag} (h h' : Heap) (hk : ∀ b o, h.get? b = some o → h'.get? b = some o) (x : Base K h) : Base K h' :=
  ⟨x.frag.keeps hk, x.lim.keeps hk, let ⟨m, e⟩ := x.g; ⟨m, e.keeps hk⟩, let ⟨m, e, q⟩ := x.b; ⟨m, e.keeps hk, q⟩, let ⟨m, e⟩ := x.stat; ⟨m, e.keeps hk⟩, let ⟨m, bm, ob, a, b, c, e, r⟩ := x.bm; ⟨m, bm, ob, a.keeps hk, b, c, hk _ _ e, r⟩⟩
abbrev BB (K : Frag) (tb : Tabs) : Wd := ⟨Base K, tb, Base.keeps⟩

theorem ns_some_of {K : Frag} {h : Heap} {N : Addr} {mg : Str → Option Value} {n : Str} {v : Value} (X : K.In h) (G : h.Ns N mg) (e : nsIn K N n = some (some v)) : mg n = some v := by
  obtain ⟨o, es, ep, ho, hd, _, hf⟩ := G
  unfold nsIn at e
  split at e
  · rename_i c d es' n' sl q
    have := X _ _ q
    rw [ho] at this
    cases this
    cases hd
    split at e
    · rename_i he
      cases e
      rw [← hf]
      unfold nsFind findBy
      rw [← Array.find?_toList, he]
      rfl
    · split at e <;> cases e
  · cases e
theorem Base.globF {K : Frag} {h : Heap} (x : Base K h) {n : Str} {v : Value} (e : nsIn K mainGlobals n = some (some v)) : GlobIs h n v := by
  obtain ⟨mg, hg⟩ := x.g
  obtain ⟨mb, hb, _⟩ := x.b
  exact ⟨mg, mb, hg, hb, .inl (ns_some_of x.frag hg e)⟩
theorem Base.globB {K : Frag} {h : Heap} (x : Base K h) {n : Str} {v : Value} (e : nsIn K mainGlobals n = some none) (hv : bootBuiltins n = some v) (hn : n ≠ "__name__") : GlobIs h n v := by
  obtain ⟨mg, hg⟩ := x.g
  obtain ⟨mb, hb, q⟩ := x.b
  exact ⟨mg, mb, hg, hb, .inr ⟨ns_none_of x.frag hg e, (q n hn).trans hv⟩⟩
def fdIn (K : Frag) (a : Addr) : Option FuncData := match K.lookup a with
  | some ⟨_, _, .func fd, _⟩ => some fd
  | _ => none
theorem Base.fn {K : Frag} {h : Heap} (x : Base K h) {a : Addr} {fd : FuncData} (e : fdIn K a = some fd) : ∃ o, h.get? a = some o ∧ o.data = .func fd := by
  unfold fdIn at e
  split at e
  · next o c d f s' ho =>
    cases e
    exact ⟨_, x.frag _ _ ho, rfl⟩
  · cases e
def codeIn (K : Frag) (cd : Value) (q : Str) : Bool := match cd with
  | .ref c => (match K.lookup c with
    | some ⟨_, _, .fields vs, _⟩ => (match vs[1]? with
      | some (Value.str q' _) => decide (q' = q)
      | _ => false)
    | _ => false)
  | _ => false
theorem Base.code {K : Frag} {h : Heap} (x : Base K h) {cd : Value} {q : Str} (e : codeIn K cd q = true) : h.CodeRec cd q := by
  unfold codeIn at e
  split at e
  · next c =>
    split at e
    · next o c' d vs s' ho =>
      split at e
      · next q' t hv =>
        exact ⟨c, _, vs, t, rfl, x.frag _ _ ho, rfl, by rw [hv, of_decide_eq_true e]⟩
      · cases e
    · cases e
  · cases e
end Mine

end
section
open PySem PySem.W PyProof.Rows PySem.Calls
namespace Mine
set_option linter.all false
set_option maxRecDepth 100000

theorem ite_of {c : Bool} {A B : Prop} (h1 : c = true → A) (h2 : c = false → B) : if c = true then A else B := by
  cases c with
  | true => exact h1 rfl
  | false => exact h2 rfl
theorem iteT {A B : Prop} (h : A) : if true = true then A else B := by rw [if_pos rfl]; exact h
theorem iteF {A B : Prop} (h : B) : if false = true then A else B := by rw [if_neg Bool.false_ne_true]; exact h
theorem AG.eq {α β : Type} {R : RelT α β} {C : Ctx} {t : Sem α} {st : St} {Q : β → St → Prop} (b0 : β) (h : AG R C t st fun b st' => b = b0 ∧ st' = st) (k : Q b0 st) : AG R C t st Q := h.mono fun b st' ⟨e, e'⟩ => by subst e e'; exact k
theorem AAll_nilO {C : Ctx} {st : St} {Q : Bool → St → Prop} (h : Q false st) : AAll C .Or [] st Q := AAll_nil h
theorem AOpt_none {C : Ctx} {st : St} {Q : Option Int → St → Prop} (h : Q none st) : AOpt C none st Q := h
theorem AOpt_some {C : Ctx} {st : St} {e : Expr} {Q : Option Int → St → Prop} (h : AE C e st fun d st' => ∃ i, d = pint i ∧ Q (some i) st') : AOpt C (some e) st Q := h
theorem exInt {i : Int} {P : Int → Prop} (h : P i) : ∃ j, pint i = pint j ∧ P j := ⟨i, rfl, h⟩
theorem interactive_no {C : Ctx} (hC : Ok C) : interactive C.env = false := by unfold interactive; rw [hC.kind]; rfl
theorem AX_ExprI {C : Ctx} {st : St} (hC : Ok C) {Q : Fl → St → Prop} {e : Expr} {pos : Pos} (h : AE C e st fun _ st₁ => Q .next st₁) (hs : swapsWith e none pos.line C.env = pure false := by rfl) : AX C (.Expr e pos) st Q := AX_Expr h (interactive_no hC) hs
section
variable {prog : Program} {w : World} {K : Frag} {tb : Tabs} {ks : List (Str × NameKind)} {n : Nat} {wr : Bool} {C : Ctx} {st : St} {Q : PV → St → Prop}

theorem AE_loc {B : Wd} (hIn : In prog w B ks n wr C) {x : Str} {pos : Pos} {d : PV} (hk : ks.lookup x = some .local) (hv : st.m.lookup x = some d) (h : Q d st)
    (hd : (x == ("__debug__" : Str)) = false := by decide) : AE C (.Name x pos) st Q := AE_local hIn.ok (hIn.kinds _ _ hk) hv h hd
theorem AE_cel {B : Wd} (hIn : In prog w B ks n wr C) {x : Str} {pos : Pos} {d : PV} (hk : ks.lookup x = some .cell) (hv : st.m.lookup x = some d) (h : Q d st)
    (hd : (x == ("__debug__" : Str)) = false := by decide) : AE C (.Name x pos) st Q := let ⟨_, hc⟩ := hIn.cell x hk; AE_cell hIn.ok (hIn.kinds _ _ hk) hc hv h hd
theorem AE_gF (hIn : In prog w (BB K tb) ks n wr C) {x : Str} {pos : Pos} {v : Value} (hk : ks.lookup x = some .globalImplicit) (hg : nsIn K mainGlobals x = some (some v)) (h : Q (.val v) st)
    (hd : (x == ("__debug__" : Str)) = false := by decide) : AE C (.Name x pos) st Q := AE_global hIn.ok (hIn.kinds _ _ hk) (Base.globF hIn.base hg) h hd
theorem AE_gB (hIn : In prog w (BB K tb) ks n wr C) {x : Str} {pos : Pos} {v : Value} (hk : ks.lookup x = some .globalImplicit) (hg : nsIn K mainGlobals x = some none) (hb : bootBuiltins x = some v) (h : Q (.val v) st)
    (hn : x ≠ "__name__" := by decide) (hd : (x == ("__debug__" : Str)) = false := by decide) : AE C (.Name x pos) st Q := AE_global hIn.ok (hIn.kinds _ _ hk) (Base.globB hIn.base hg hb hn) h hd
theorem ASt_loc {B : Wd} (hIn : In prog w B ks n wr C) {x : Str} {d : PV} {Q : St → Prop} (hk : ks.lookup x = some .local) (h : Q (st.set x d)) : ASt C x d st Q := ASt_local hIn.ok (hIn.kinds _ _ hk) h
theorem ASt_cel {B : Wd} (hIn : In prog w B ks n true C) {x : Str} {d : PV} {Q : St → Prop} (hk : ks.lookup x = some .cell) (h : Q (st.set x d)) : ASt C x d st Q :=
  let ⟨_, hc⟩ := hIn.cell x hk; ASt_cell hIn.ok (hIn.kinds _ _ hk) hc (hIn.free rfl _ _ hc) h

theorem Room.le {n m : Nat} {A : Around} (h : Room n A) (hm : m ≤ n) : Room m A := ⟨h.handled, by have := h.depth; omega, by have := h.units; omega⟩
/-- a call of a def by its name -/
theorem AE_def (hIn : In prog w (BB K tb) ks n wr C) {x : Str} {p pos : Pos} {es : List Expr} {fa : Addr} {fd : FuncData} (m : Nat) (hk : ks.lookup x = some .globalImplicit) (hg : nsIn K mainGlobals x = some (some (.ref fa))) (hf : fdIn K fa = some fd)
    (h : AEs C pos es st fun ds st₂ => ds.all PV.fz = true ∧ Fn prog w (BB K tb) fa m ds fun d => Q d st₂) (hm : m ≤ n) (hp : plainTargets es = true := by rfl)
    (hd : (x == ("__debug__" : Str)) = false := by decide)
    (he : eval (.Call (.Name x p) es [] pos) C.env = (do callWith pos (← eval (.Name x p) C.env) [] (backTo pos (starEach es C.env)) []) := by rfl) : AE C (.Call (.Name x p) es [] pos) st Q := by
  obtain ⟨o, ho, hdat⟩ := Base.fn hIn.base hf
  refine AE_callF hIn.ok hIn.base hIn.tb (hIn.room.le hm) ho hdat (AE_gF hIn hk hg ⟨rfl, ?_⟩ hd) hp he
  rw [hIn.prog, hIn.w]; exact h
/-- a call of a built-in by its name -/
theorem AE_bi (hIn : In prog w (BB K tb) ks n wr C) {x : Str} {p pos : Pos} {es : List Expr} {id : String} (hk : ks.lookup x = some .globalImplicit) (hg : nsIn K mainGlobals x = some none) (hb : bootBuiltins x = some (.builtin id))
    (h : AEs C pos es st fun ds st₂ => ACallB C id ds st₂ Q) (hn : x ≠ "__name__" := by decide) (hp : plainTargets es = true := by rfl)
    (hd : (x == ("__debug__" : Str)) = false := by decide)
    (he : eval (.Call (.Name x p) es [] pos) C.env = (do callWith pos (← eval (.Name x p) C.env) [] (backTo pos (starEach es C.env)) []) := by rfl) : AE C (.Call (.Name x p) es [] pos) st Q :=
  AE_callB hIn.ok (AE_gB hIn hk hg hb ⟨rfl, h⟩ hn hd) hp he
/-- a call of a type by its name -/
theorem AE_ty (hIn : In prog w (BB K tb) ks n wr C) {x : Str} {p pos : Pos} {es : List Expr} {T : String} (hk : ks.lookup x = some .globalImplicit) (hg : nsIn K mainGlobals x = some none) (hb : bootBuiltins x = some (.type T))
    (h : AEs C pos es st fun ds st₂ => ACallT C T ds st₂ Q) (hn : x ≠ "__name__" := by decide) (hp : plainTargets es = true := by rfl)
    (hd : (x == ("__debug__" : Str)) = false := by decide)
    (he : eval (.Call (.Name x p) es [] pos) C.env = (do callWith pos (← eval (.Name x p) C.env) [] (backTo pos (starEach es C.env)) []) := by rfl) : AE C (.Call (.Name x p) es [] pos) st Q := fun s ρ I => by
  rw [he]
  refine wpAny_bind ((AE_gB (pos := p) hIn hk hg hb (Q := fun d st₁ => d = .val (.type T) ∧ st₁ = st) ⟨rfl, rfl⟩ hn hd).use I fun v s₁ d st₁ ρ₁ I₁ L₁ r₁ ⟨e, e'⟩ => ?_)
  subst e e'
  have e : v = .type T := r₁
  subst e
  refine PySem.callWith_type (starEach_plain hp) (evalArgs_es hp (AG.use h I₁ fun vs s₂ ds st₂ ρ₂ I₂ L₂ r₂ h₂ => ?_))
  exact wpAny_mono (h₂ _ s₂ ρ₂ I₂ r₂) (fun _ _ p => (p.le L₂).le L₁) fun _ _ x => x

theorem Post.push (hC : Ok C) {ρ : List Addr} {s : Shared} (I : Inv C st ρ s) (o : Obj) {tk : Nat} (htk : s.toks ≤ tk) {v : Value} {d : PV} (hr : Rep (s.heap.push o) ρ (Mut C st.σ ρ) v d) (h : Q d st) : Post Rep C st ρ s Q v { s with heap := s.heap.push o, toks := tk } :=
  have J := I.keeps hC (h' := s.heap.push o) (tk := tk) (fun _ _ e => Heap.get?_push_of_some _ e) htk
  ⟨d, st, ρ, J.1, J.2, hr, h⟩
theorem ACall_range1 (hC : Ok C) {b : Int} (h : Q (.rng 0 b 1) st) : ACallT C "range" [pint b] st Q := fun vs s ρ I rr => by
  obtain ⟨v, rfl, r⟩ := rep1 rr; obtain ⟨t, rfl⟩ := rep_int r
  exact call_range_1 (Post.push hC I (d := .rng 0 b 1) _ (Nat.le_add_right _ 2) ⟨_, _, _, _, rfl, IsRange.new ..⟩ h)
theorem ACall_range2 (hC : Ok C) {a b : Int} (h : Q (.rng a b 1) st) : ACallT C "range" [pint a, pint b] st Q := fun vs s ρ I rr => by
  obtain ⟨v, u, rfl, r, r'⟩ := rep2 rr; obtain ⟨t, rfl⟩ := rep_int r; obtain ⟨t', rfl⟩ := rep_int r'
  exact call_range_2 (Post.push hC I (d := .rng a b 1) _ (Nat.le_succ _) ⟨_, _, _, _, rfl, IsRange.new ..⟩ h)
theorem rngItems_one (a b : Int) : rngItems a b 1 = (List.range (b - a).toNat).map fun k : Nat => .int (a + k) := by
  unfold rngItems
  have e : (Builtin.Range.rangeSize a b 1).toNat = (b - a).toNat := by rw [rangeSize_one]; split <;> omega
  rw [e]
  simp
end
end Mine

end
section
open PySem PySem.W PyProof.Rows PySem.Calls PySem.Sre
namespace Mine
set_option linter.all false
set_option maxRecDepth 100000

def digEnd : List Nat → Bool
  | [] => true
  | c :: r => (c == 10 && r.isEmpty) || (isDigit c && digEnd r)
def trialL : List Nat → Bool
  | 46 :: d :: r => isDigit d && digEnd r
  | _ => false
def anyL : List Nat → Bool
  | [] => false
  | c :: r => trialL (c :: r) || anyL r

def headEnd : List Nat → Bool
  | d :: r => isDigit d && digEnd r
  | [] => false

theorem anyEnd_succ (t : Array Nat) (p k : Nat) : anyEnd t p (k + 1) = (atEnd t (p + 1) || anyEnd t (p + 1) k) := by
  unfold anyEnd
  rw [List.range_succ_eq_map, List.any_cons, List.any_map]
  congr 1
  apply congrArg (fun f => List.any _ f)
  funext j
  simp only [Function.comp]
  congr 1; omega

theorem anyEnd_eq (l : List Nat) : ∀ (n p : Nat), p + n = l.length → anyEnd l.toArray p (runLen isDigit l.toArray n p) = headEnd (l.drop p) := by
  intro n
  induction n with
  | zero =>
    intro p hp
    rw [List.drop_eq_nil_of_le (by omega)]
    rfl
  | succ n ih =>
    intro p hp
    have hlt : p < l.length := by omega
    have hd : l.drop p = l[p] :: l.drop (p + 1) := List.drop_eq_getElem_cons hlt
    have hg : l.toArray.getD p 0 = l[p] := by simp [Array.getD, hlt]
    rw [hd, runLen, hg]
    show _ = (isDigit l[p] && digEnd (l.drop (p + 1)))
    cases hdig : isDigit l[p] with
    | false => rfl
    | true =>
      rw [if_pos rfl, anyEnd_succ, ih (p + 1) (by omega), Bool.true_and]
      unfold atEnd
      by_cases h1 : p + 1 = l.length
      · rw [List.drop_eq_nil_of_le (by omega)]
        simp [h1, digEnd]
      · have hlt' : p + 1 < l.length := by omega
        have hd' : l.drop (p + 1) = l[p + 1] :: l.drop (p + 2) := List.drop_eq_getElem_cons hlt'
        have hg' : l.toArray.getD (p + 1) 0 = l[p + 1] := by simp [Array.getD, hlt']
        rw [hd', hg', digEnd, headEnd]
        have e1 : (p + 1 == l.toArray.size) = false := by simpa using h1
        have e2 : (p + 1 + 1 == l.toArray.size) = (l.drop (p + 2)).isEmpty := by
          rw [Bool.eq_iff_iff]
          simp [List.isEmpty_iff]
          omega
        rw [e1, e2, Bool.false_or, Bool.and_comm]

theorem ipTrial_eq (l : List Nat) (s : Nat) (hs : s ≤ l.length) : ipTrial l.toArray s = trialL (l.drop s) := by
  by_cases h : s = l.length
  · rw [List.drop_eq_nil_of_le (by omega)]
    unfold ipTrial
    simp [h, trialL]
  · have hlt : s < l.length := by omega
    have hd : l.drop s = l[s] :: l.drop (s + 1) := List.drop_eq_getElem_cons hlt
    have hg : l.toArray.getD s 0 = l[s] := by simp [Array.getD, hlt]
    have key : ipTrial l.toArray s = (l[s] == 46 && headEnd (l.drop (s + 1))) := by
      rw [← anyEnd_eq l (l.length - (s + 1)) (s + 1) (by omega)]
      unfold ipTrial
      rw [hg]
      simp [hlt]
    rw [key, hd]
    by_cases h46 : l[s] = 46
    · rw [h46]
      cases l.drop (s + 1) with
      | nil => rfl
      | cons d r => rfl
    · have : trialL (l[s] :: l.drop (s + 1)) = false := by
        unfold trialL
        split
        · rename_i h; exact absurd (List.cons.inj h).1 h46
        · rfl
      rw [this]
      simp [h46]

theorem anyL_range : ∀ (l : List Nat), (List.range (l.length + 1)).any (fun s => trialL (l.drop s)) = anyL l
  | [] => rfl
  | c :: r => by
    rw [List.range_succ_eq_map, List.any_cons, List.any_map, anyL]
    congr 1
    exact anyL_range r

theorem ipAny_eq (l : List Nat) : ipAny l.toArray = anyL l := by
  rw [← anyL_range]
  unfold ipAny
  have e : l.toArray.size = l.length := by simp
  rw [e]
  rw [Bool.eq_iff_iff, List.any_eq_true, List.any_eq_true]
  constructor
  · rintro ⟨s, hs, h⟩
    exact ⟨s, hs, by rw [← ipTrial_eq l s (by simp at hs; omega)]; exact h⟩
  · rintro ⟨s, hs, h⟩
    exact ⟨s, hs, by rw [ipTrial_eq l s (by simp at hs; omega)]; exact h⟩
end Mine

end
section
open PySem PySem.W PyProof.Rows PySem.Calls PySem.Sre PySem.Builtin.Str
namespace Mine
set_option linter.all false
set_option maxRecDepth 100000

def hdn (x : Str) : Bool := !ipAny x.cps && !decide (x = "") && !(decide (Txt.item x 0 = ".") || decide (Txt.item x (-1) = "."))
def dmatch (A B : Str) : Bool :=
  if Txt.lower A = Txt.lower B then true
  else hdn (Txt.lower A) && !(Txt.rfind (Txt.lower A) (Txt.lower B) == -1 || Txt.rfind (Txt.lower A) (Txt.lower B) == 0) && Txt.startswith (Txt.lower B) "." && hdn (Txt.slice (Txt.lower B) (some 1) none)

abbrev S (l : List Nat) : Str := ⟨l.toArray⟩
theorem S_inj {a b : List Nat} : S a = S b ↔ a = b := ⟨fun h => by have := congrArg (fun x : Str => x.cps.toList) h; simpa using this, fun h => by rw [h]⟩
theorem S_eta (x : Str) : x = S x.cps.toList := by obtain ⟨⟨l⟩⟩ := x; rfl
theorem S_len (l : List Nat) : (S l).length = l.length := by simp [Str.length]

theorem S_app (a b : List Nat) : S (a ++ b) = S a ++ S b := by
  have h : (a ++ b).toArray = a.toArray ++ b.toArray := by simp
  exact congrArg Str.mk h

def hdnL (l : List Nat) : Bool := !anyL l && !l.isEmpty && !(l.head? == some 46 || l.getLast? == some 46)

theorem item_zero (c : Nat) (l : List Nat) : Txt.item (S (c :: l)) 0 = S [c] := by
  unfold Txt.item Txt.charAt seqIndex?
  simp [Str.length]
theorem item_last (l : List Nat) (h : l ≠ []) : Txt.item (S l) (-1) = S [l.getLast h] := by
  have hl : 0 < l.length := List.length_pos_iff.mpr h
  unfold Txt.item Txt.charAt seqIndex?
  have e : ((-1 : Int) + (l.length : Int)).toNat = l.length - 1 := by omega
  have e2 : (0 : Int) ≤ -1 + (l.length : Int) := by omega
  have e3 : (-1 : Int) + (l.length : Int) < (l.length : Int) := by omega
  rw [S_len]
  simp only [show ((-1 : Int) < 0) = True from by simp, if_true, e2, e3, decide_true, Bool.and_self, e]
  have hlt : l.length - 1 < l.length := by omega
  simp [List.getLast_eq_getElem, hlt]

theorem hdn_eq (l : List Nat) : hdn (S l) = hdnL l := by
  unfold hdn hdnL
  rw [ipAny_eq]
  cases l with
  | nil => rfl
  | cons c r =>
    rw [item_zero, item_last _ (by simp)]
    have e1 : decide (S (c :: r) = "") = false := by
      rw [decide_eq_false_iff_not]; intro h; have := congrArg (fun x : Str => x.cps.size) h; exact absurd this (by show ¬ ((c :: r).toArray.size = 0); simp)
    have dot : ("." : Str) = S [46] := rfl
    rw [e1, dot]
    have e2 : decide (S [c] = S [46]) = ((c :: r).head? == some 46) := by
      rw [Bool.eq_iff_iff]; simp [S_inj]
    have e3 : decide (S [(c :: r).getLast (by simp)] = S [46]) = ((c :: r).getLast? == some 46) := by
      rw [Bool.eq_iff_iff, List.getLast?_eq_some_getLast (by simp)]; simp [S_inj]
    rw [e2, e3]
    simp

def occL (a b : List Nat) : Bool := (List.range (a.length + 1)).any fun i => decide (1 ≤ i) && b.isPrefixOf (a.drop i)

theorem at_iff (a b : List Nat) (i : Nat) : StrLaws.At (S a) (S b) (S a).length i ↔ (i ≤ a.length ∧ b.isPrefixOf (a.drop i) = true) := by
  unfold StrLaws.At
  rw [StrLaws.subAt_eq, S_len, S_len, List.isPrefixOf_iff_prefix]
  have e : (((S a).cps.toList.drop i).take b.length == (S b).cps.toList) = decide ((a.drop i).take b.length = b) := by
    rw [Bool.eq_iff_iff]
    simp
  rw [e]
  constructor
  · rintro ⟨h1, h2⟩
    refine ⟨by omega, ?_⟩
    have := of_decide_eq_true h2
    rw [← this]; exact List.take_prefix _ _
  · rintro ⟨h1, h2⟩
    obtain ⟨t, ht⟩ := h2
    have := congrArg List.length ht
    simp at this
    refine ⟨by omega, decide_eq_true ?_⟩
    rw [← ht]; simp

theorem rfind_eq (a b : List Nat) : (!(Txt.rfind (S a) (S b) == -1 || Txt.rfind (S a) (S b) == 0)) = occL a b := by
  unfold occL
  rw [Bool.eq_iff_iff, List.any_eq_true]
  rcases rfind_whole (S a) (S b) with ⟨h1, h2⟩ | ⟨i, h1, h2, h3⟩
  · rw [h1]
    simp only [beq_self_eq_true, Bool.true_or, Bool.not_true, Bool.false_eq_true, false_iff]
    rintro ⟨j, hj, hq⟩
    rw [Bool.and_eq_true] at hq
    exact h2 j ((at_iff a b j).mpr ⟨by simp at hj; omega, hq.2⟩)
  · rw [h1]
    have e : ((i : Int) == -1) = false := by simp
    rw [e, Bool.false_or]
    constructor
    · intro h
      have hi : i ≠ 0 := by rintro rfl; simp at h
      have := (at_iff a b i).mp h2
      exact ⟨i, by simp; omega, by rw [Bool.and_eq_true]; exact ⟨decide_eq_true (by omega), this.2⟩⟩
    · rintro ⟨j, hj, hq⟩
      rw [Bool.and_eq_true] at hq
      have hj1 := of_decide_eq_true hq.1
      have hat := (at_iff a b j).mpr ⟨by simp at hj; omega, hq.2⟩
      have : ¬ i < j := fun h => h3 j h hat
      have hne : ((i : Int) == 0) = false := by
        rw [beq_eq_false_iff_ne]; omega
      rw [hne]; rfl

theorem starts_eq (l : List Nat) : Txt.startswith (S l) "." = (l.head? == some 46) := by
  cases l with
  | nil => rfl
  | cons c r =>
    unfold Txt.startswith
    rw [StrLaws.subAt_eq, show ("." : Str) = S [46] from rfl]
    simp only [S_len]
    rw [Bool.eq_iff_iff]
    simp

theorem clipAt_nat (n k : Nat) : clipAt n (k : Int) = min k n := by unfold clipAt; rw [if_neg (by omega)]; omega
theorem slc_drop {α : Type} (l : List α) (n : Nat) : slc (some (n : Int)) none l = l.drop n := by
  unfold slc
  simp only [Option.elim, clipAt_nat]
  rcases Nat.le_total n l.length with h | h
  · rw [Nat.min_eq_left h, List.take_of_length_le (by simp)]
  · rw [Nat.min_eq_right h, List.drop_eq_nil_of_le h, List.drop_eq_nil_of_le (Nat.le_refl _), List.take_nil]
theorem slc_take {α : Type} (l : List α) (n : Nat) : slc none (some (n : Int)) l = l.take n := by
  unfold slc
  simp only [Option.elim, clipAt_nat, List.drop_zero, Nat.sub_zero]
  rcases Nat.le_total n l.length with h | h
  · rw [Nat.min_eq_left h]
  · rw [Nat.min_eq_right h, List.take_of_length_le h, List.take_of_length_le (Nat.le_refl _)]
theorem slice_drop (l : List Nat) (n : Nat) : Txt.slice (S l) (some (n : Int)) none = S (l.drop n) := by
  rw [slice_eq]
  exact congrArg S (slc_drop l n)
theorem slice_take (l : List Nat) (n : Nat) : Txt.slice (S l) none (some (n : Int)) = S (l.take n) := by
  rw [slice_eq]
  exact congrArg S (slc_take l n)
theorem slice_one (l : List Nat) : Txt.slice (S l) (some 1) none = S (l.drop 1) := slice_drop l 1

def dmL (a b : List Nat) : Bool := if a = b then true else hdnL a && occL a b && (b.head? == some 46) && hdnL (b.drop 1)
theorem dmatch_eq (A B : Str) (a b : List Nat) (ha : Txt.lower A = S a) (hb : Txt.lower B = S b) : dmatch A B = dmL a b := by
  unfold dmatch dmL
  rw [ha, hb, hdn_eq, rfind_eq, starts_eq, slice_one b, hdn_eq]
  by_cases h : a = b
  · rw [if_pos h, if_pos (S_inj.mpr h)]
  · rw [if_neg h, if_neg (fun q => h (S_inj.mp q))]

/-! case -/
end Mine

end
section
open PySem PySem.W PyProof.Rows PySem.Calls PySem.Sre PySem.Builtin.Str
namespace Mine
set_option linter.all false
set_option maxRecDepth 100000

/-! rows of labels -/
def flat : List (List Nat) → List Nat
  | [] => []
  | r :: rs => 46 :: (r ++ flat rs)
def joinL : List (List Nat) → List Nat
  | [] => []
  | r :: rs => r ++ flat rs
theorem trialL_cons (c : Nat) (r : List Nat) : trialL (c :: r) = (c == 46 && headEnd r) := by
  by_cases h : c = 46
  · subst h
    cases r <;> rfl
  · have : trialL (c :: r) = false := by
      unfold trialL
      split
      · rename_i h'; exact absurd (List.cons.inj h').1 h
      · rfl
    rw [this]; simp [h]
theorem anyL_nodot : ∀ (a b : List Nat), 46 ∉ a → anyL (a ++ b) = anyL b
  | [], _, _ => rfl
  | c :: a, b, h => by
    rw [List.cons_append, anyL, trialL_cons, anyL_nodot a b (fun q => h (List.mem_cons_of_mem _ q))]
    have : (c == 46) = false := by simpa using fun e : c = 46 => h (by rw [e]; exact List.mem_cons_self)
    rw [this]; rfl
/-! a row within a row -/
theorem occL_iff (a b : List Nat) (hb : b ≠ []) : occL a b = true ↔ ∃ i, 1 ≤ i ∧ b <+: a.drop i := by
  unfold occL
  rw [List.any_eq_true]
  constructor
  · rintro ⟨i, _, h⟩
    rw [Bool.and_eq_true] at h
    exact ⟨i, of_decide_eq_true h.1, List.isPrefixOf_iff_prefix.mp h.2⟩
  · rintro ⟨i, h1, h2⟩
    have : i ≤ a.length := by
      rcases Nat.lt_or_ge a.length i with q | q
      · rw [List.drop_eq_nil_of_le (by omega)] at h2
        exact absurd (List.prefix_nil.mp h2) hb
      · exact q
    exact ⟨i, by simp; omega, by rw [Bool.and_eq_true]; exact ⟨decide_eq_true h1, List.isPrefixOf_iff_prefix.mpr h2⟩⟩

/-! ascii letters -/
theorem join_flat : ∀ (rs : List (List Nat)) (r : List Nat), Str.join "." ((r :: rs).map S) = S (r ++ flat rs)
  | [], r => by rw [flat, List.append_nil]; rfl
  | a :: rs, r => by
    have ih := join_flat rs a
    show S r ++ "." ++ Str.join "." ((a :: rs).map S) = _
    rw [ih, show ("." : Str) = S [46] from rfl, ← S_app, ← S_app]
    simp [flat]
theorem join_eq (rs : List (List Nat)) : Txt.join "." (rs.map S) = S (joinL rs) := by
  unfold Txt.join
  rw [StrLaws.glued_eq_join]
  cases rs with
  | nil => rfl
  | cons r rs => exact join_flat rs r
end Mine

end
section
open PySem PySem.W PyProof.Rows PySem.Calls
namespace Mine
set_option linter.all false
set_option maxRecDepth 100000

theorem AG.freezeTo {α β : Type} {R : RelT α β} {C : Ctx} {t : Sem α} {st : St} {Q : β → St → Prop} (hC : Ok C) {i : Nat} {xs : List PyData} (st' : St) (hi : st.σ[i]? = some (some (xs.map .dat)))
    (hm : ∀ x d, st'.m.lookup x = some d → (st.m.lookup x).map (PV.sub i xs) = some d) (hσ : st'.σ = (st.freeze i xs).σ) (h : AG R C t st' Q) : AG R C t st Q :=
  AG.freeze hC i hi (AG.weak ⟨hσ, fun x d e => by rw [St.freeze, lookup_map_sub]; exact hm x d e⟩ h)

def okB (ks : List (Str × NameKind)) (scope : Scope) (x : Str) : Bool :=
  scope.kind == .function && scope.names.all (fun y => !(y.2 == .cell)) && scope.names.all (fun y => !(y.2 == .free) || ks.lookup y.1 == some .cell) && (compKinds scope.names).lookup x == some .local && scope.names.all (fun y => !(y.2 == .local) || scope.names.lookup y.1 == some .local)
def CapOk (names : List (Str × NameKind)) (st : St) (cap : List (Str × PV)) : Prop := ∀ y dy, cap.lookup y = some dy → st.m.lookup y = some dy ∧ dy.fz = true ∧ (compKinds names).lookup y = some .cell ∧ (y, NameKind.free) ∈ names
theorem CapOk.nil {names : List (Str × NameKind)} {st : St} : CapOk names st [] := fun _ _ h => nomatch h
theorem CapOk.cons {names : List (Str × NameKind)} {st : St} {cap : List (Str × PV)} {y : Str} {d : PV} (h1 : st.m.lookup y = some d) (h2 : d.fz = true) (h3 : (compKinds names).lookup y = some .cell) (h4 : names.contains (y, NameKind.free) = true) (hr : CapOk names st cap) : CapOk names st ((y, d) :: cap) := fun z dz h => by
  rw [List.lookup_cons] at h
  cases e : z == y with
  | true =>
    rw [e] at h
    cases h
    have : z = y := by simpa using e
    subst this
    exact ⟨h1, h2, h3, by simpa using h4⟩
  | false => rw [e] at h; exact hr z dz h
theorem okB_free {ks : List (Str × NameKind)} {scope : Scope} {x : Str} (h : okB ks scope x = true) : (∀ y, (y, NameKind.free) ∈ scope.names → ks.lookup y = some .cell) ∧ scope.kind = .function ∧ ∀ y ∈ scope.names, y.2 = .local → scope.names.lookup y.1 = some .local := by
  unfold okB at h
  simp only [Bool.and_eq_true, List.all_eq_true, beq_iff_eq, Bool.or_eq_true, Bool.not_eq_true', beq_eq_false_iff_ne] at h
  obtain ⟨⟨⟨⟨h1, h2⟩, h3⟩, h4⟩, h5⟩ := h
  exact ⟨fun y hy => (h3 (y, .free) hy).resolve_left (fun q => q rfl), h1, fun y hy q => (h5 y hy).resolve_left (fun z => z q)⟩
theorem okB_ok {ks : List (Str × NameKind)} {scope : Scope} {x : Str} {cap : List (Str × PV)} {st : St} (h : okB ks scope x = true) (hc : CapOk scope.names st cap) : CompOk ks scope x cap st := by
  obtain ⟨a, b, c⟩ := okB_free h
  unfold okB at h
  simp only [Bool.and_eq_true, List.all_eq_true, beq_iff_eq, Bool.or_eq_true, Bool.not_eq_true', beq_eq_false_iff_ne] at h
  obtain ⟨⟨⟨⟨h1, h2⟩, h3⟩, h4⟩, h5⟩ := h
  exact ⟨b, fun y hy => h2 y hy, a, h4, hc, c⟩

section
variable {prog : Program} {w : World} {K : Frag} {tb : Tabs} {ks : List (Str × NameKind)} {n : Nat} {wr : Bool} {C : Ctx} {st : St}

/-- a list comprehension -/
theorem AE_Comp {Q : PV → St → Prop} (hIn : In prog w (BB K tb) ks n wr C) {elt iter : Expr} {x : Str} {px pos : Pos} {ifs : List Expr} {scope : Scope} (cap : List (Str × PV)) (hok : okB ks scope x = true)
    (h : AE C iter st fun d st₁ => ∃ xs f, AItr C d xs st₁ ∧ CapOk scope.names st₁ cap ∧ xs.length ≤ sizeLine ∧ (∀ C', In prog w (BB K tb) (compKinds scope.names) n false C' → ∀ y ∈ xs, CompStep C' x ifs elt cap y (f y)) ∧ Q (.dat (.list (xs.filterMap f))) st₁)
    (hs : ∀ x, foldedSetIterable iter C.env x = pure x := by intro _; rfl) : AE C (.ListComp elt [⟨.Name x px, iter, ifs, 0⟩] scope pos) st Q :=
  AE_ListComp hIn cap (h.mono fun d st₁ ⟨xs, f, h1, h2, h3, h4, h5⟩ => ⟨xs, f, h1, okB_ok hok h2, h3, h4, h5⟩) hs

theorem swaps_yes (hIn : In prog w (BB K tb) ks n wr C) {elt : Expr} {gs : List Comprehension} {scope : Scope} {pos : Pos} {y : Str} {py : Pos} {line : Nat} (hk : ks.lookup y = some .local) (hp : (py.line == pos.line) = true) (hy : (scope.names.any fun p => p.1 == y && (p.2 == .local || p.2 == .cell)) = false) :
    swapsWith (.ListComp elt gs scope pos) (some (.Name y py)) line C.env = pure true := by
  have e1 : C.env.blockKind = .function := by unfold Env.blockKind; rw [hIn.ok.kind]; rfl
  have e2 := hIn.kinds _ _ hk
  show (do pure (C.env.blockKind == .function && C.env.kindOf y == some .local && py.line == pos.line && !(scope.names.any fun (n, k) => n == y && (k == .local || k == .cell))) : Sem Bool) = _
  have e3 : (scope.names.any fun (n, k) => n == y && (k == .local || k == .cell)) = false := hy
  rw [e1, e2, hp, e3]; rfl
/-- name = [..] on one line -/
theorem AX_AsgComp {Q : Fl → St → Prop} (hIn : In prog w (BB K tb) ks n wr C) {elt iter : Expr} {x y : Str} {px py pos spos : Pos} {ifs : List Expr} {scope : Scope} (cap : List (Str × PV)) (hok : okB ks scope x = true)
    (hk : ks.lookup y = some .local) (hp : (py.line == pos.line) = true) (hy : (scope.names.any fun p => p.1 == y && (p.2 == .local || p.2 == .cell)) = false)
    (h : AE C iter st fun d st₁ => ∃ xs f, AItr C d xs st₁ ∧ CapOk scope.names st₁ cap ∧ xs.length ≤ sizeLine ∧ (∀ C', In prog w (BB K tb) (compKinds scope.names) n false C' → ∀ y ∈ xs, CompStep C' x ifs elt cap y (f y)) ∧ ASt C y (.dat (.list (xs.filterMap f))) st₁ fun st₂ => Q .next st₂)
    (hs : ∀ x, foldedSetIterable iter C.env x = pure x := by intro _; rfl) : AX C (.Assign [.Name y py] (.ListComp elt [⟨.Name x px, iter, ifs, 0⟩] scope pos) spos) st Q :=
  AX_AssignComp hIn cap (okB_free hok) (h.mono fun d st₁ ⟨xs, f, h1, h2, h3, h4, h5⟩ => ⟨xs, f, h1, okB_ok hok h2, h3, h4, h5⟩) (swaps_yes hIn hk hp hy) hs
end
end Mine

end
section
open PySem PySem.W PyProof.Rows PySem.Calls
namespace Mine
set_option linter.all false
set_option maxRecDepth 100000

/-- a function made within a body: its code's table, where it stands, its name -/
structure Lam where
  c : Addr
  P : Addr
  pos : Pos
  qual : Str
def lamOk (l : Lam) (h : Heap) : Prop := ∃ ps, h.get? l.P = some (tabObj ps) ∧ TriplesOk ps.toList ∧
  (codeAmong l.pos ps.toList = none ∨ ∃ c' oc vs t, codeAmong l.pos ps.toList = some (.ref c') ∧ h.get? c' = some oc ∧ oc.cls = .type "code" ∧ oc.data = .fields vs ∧ vs[1]? = some (.str l.qual t))
def lamTabs (ls : List Lam) : Tabs where
  T := ls.map (·.P)
  ok := fun h => ∀ l ∈ ls, lamOk l h
  has := fun h x a ha => by
    obtain ⟨l, hl, rfl⟩ := List.mem_map.mp ha
    obtain ⟨ps, h1, _⟩ := x l hl
    exact ⟨ps, h1⟩
  stab := fun h h' x k l hl => by
    obtain ⟨ps, h1, h2, h3⟩ := x l hl
    refine ⟨ps, k _ _ h1 ⟨.inl rfl, _, rfl⟩, h2, ?_⟩
    rcases h3 with h3 | ⟨c', oc, vs, t, e1, e2, e3, e4, e5⟩
    · exact .inl h3
    · exact .inr ⟨c', oc, vs, t, e1, k _ _ e2 ⟨.inr e3, _, e4⟩, e3, e4, e5⟩
theorem lamTabs_new {ls : List Lam} {h : Heap} (hn : ∀ l ∈ ls, h.get? l.P = some (tabObj #[])) : (lamTabs ls).ok h := fun l hl => ⟨#[], hn l hl, trivial, .inl rfl⟩

/-- the law's call, as the end wants it -/
def LawFn (prog : Program) (w : World) (B : Wd) (fa : Addr) (n : Nat) (ns : List Int) : Prop :=
  ∀ A s g X vs, Room n A → (∀ b o, g.get? b = some o → s.heap.get? b = some o) → B.ok g → (∀ a ∈ B.tb.T, g.get? a = none) → B.tb.ok s.heap → (∀ a, X a → ∃ o, g.get? a = some o ∧ Soft o) → RepAll s.heap [] (orT X B.tb.T) vs [plist (ns.map .int)] →
    codeAny (model prog w) A (.call (.ref fa) ⟨vs, []⟩) (fun r s' => ∃ v d h tk, r = .ok (.ret v) ∧ s' = { s with heap := h, toks := tk } ∧ (∀ b o, g.get? b = some o → h.get? b = some o) ∧ B.tb.ok h ∧ s.toks ≤ tk ∧ Rep h [] (orT X B.tb.T) v d ∧ d = pbool true) s
theorem nodAll_int : ∀ ns : List Int, nodAll (ns.map .int) = true
  | [] => rfl
  | _ :: r => by rw [List.map_cons, nodAll, nodAll_int r]; rfl
theorem grownAll_of {ls : List Lam} {h : Heap} (x : (lamTabs ls).ok h) : GrownAll (ls.map fun l => (l.c, l.P)) h := by
  induction ls with
  | nil => trivial
  | cons l ls ih =>
    refine ⟨?_, ih fun l' hl => x l' (List.mem_cons_of_mem _ hl)⟩
    obtain ⟨ps, h1, _⟩ := x l List.mem_cons_self
    exact ⟨ps, h1⟩
theorem readsInt_apart {h : Heap} {P : Addr} {ps : Array Value} (hP : h.get? P = some (tabObj ps)) : ∀ {v : Value} {d : PyData} {as : List Addr}, Reads h v d as → nod d = true → P ∉ as := by
  intro v d as r hd hm
  obtain ⟨o', h1, h2⟩ := reads_kind r P hm
  rw [hP] at h1; cases h1
  exact h2 _ rfl
theorem Base.ghost {K : Frag} {h : Heap} {tabs : List (Addr × Addr)} (x : Base K h) (hT : TabsAt tabs h) (hK : noTabs K = true) : Base K (ghostOf h tabs) :=
  ⟨ghost_K hT x.frag hK, let ⟨mc, a, r⟩ := x.lim; ⟨mc, ghost_ns hT a, r⟩, let ⟨m, e⟩ := x.g; ⟨m, ghost_ns hT e⟩, let ⟨m, e, q⟩ := x.b; ⟨m, ghost_ns hT e, q⟩, let ⟨m, e⟩ := x.stat; ⟨m, ghost_ns hT e⟩,
    let ⟨m, bm, ob, a, b, c, e, r1, r⟩ := x.bm; ⟨m, bm, ob, ghost_ns hT a, b, c, ghost_get hT e (fun q => by rw [q] at r1; cases r1), r1, r⟩⟩
theorem apart_tabs {h : Heap} {tabs : List (Addr × Addr)} (hT : TabsAt tabs h) {v : Value} {d : PyData} {as : List Addr} (r : Reads h v d as) (hd : nod d = true) : ∀ a ∈ as, a ∉ tabs.map (·.2) := fun a ha q => by
  obtain ⟨p, hp, rfl⟩ := List.mem_map.mp q
  exact readsInt_apart (hT p hp).2 r hd ha
theorem tabs_at {K : Frag} {h : Heap} {ls : List Lam} {ts : List Addr} (X : K.In h) (KT : ∀ P ∈ ts, h.get? P = some (tabObj #[])) (hc : (ls.all fun l => codeHdIn K l.c l.P) = true) (hs : ∀ l ∈ ls, l.P ∈ ts) : TabsAt (ls.map fun l => (l.c, l.P)) h := fun q hq => by
  obtain ⟨l, hl, rfl⟩ := List.mem_map.mp hq
  exact ⟨codeHd_of_K X (List.all_eq_true.mp hc l hl), KT _ (hs l hl)⟩
theorem lams_mem {ls : List Lam} {a : Addr} (h : a ∈ (lamTabs ls).T) : a ∈ (ls.map fun l => (l.c, l.P)).map (·.2) := by rw [List.map_map]; exact h
theorem len_one {vs : List Value} (h : vs.length = 1) : ∃ a, vs = [a] := List.length_eq_one_iff.mp h
theorem len_two {vs : List Value} (h : vs.length = 2) : ∃ a b, vs = [a, b] := by
  obtain ⟨a, r, rfl⟩ := List.exists_cons_of_length_eq_add_one h
  obtain ⟨b, rfl⟩ := len_one (Nat.succ.inj h)
  exact ⟨a, b, rfl⟩
end Mine

end
section
open PySem PySem.Sre
namespace Mine
set_option linter.all false
set_option maxRecDepth 100000

/-! a search over the starts -/
section
variable {code text : Array Nat} {lim last : Nat}
end

/-! runs, told by lists -/
theorem getD_list (l : List Nat) (p : Nat) (h : p < l.length) : l.toArray.getD p 0 = l[p] := by simp [Array.getD, h]
end Mine

end
section
open PySem PySem.W PyProof.Rows PySem.Calls
namespace Mine
set_option linter.all false
set_option maxRecDepth 100000

theorem join_nil1 : ∀ (qs : List (List Nat)) (r : List Nat), Str.join (S []) ((r :: qs).map S) = S (r ++ qs.flatten)
  | [], r => by rw [List.flatten_nil, List.append_nil]; rfl
  | a :: qs, r => by
    have ih := join_nil1 qs a
    show S r ++ S [] ++ Str.join (S []) ((a :: qs).map S) = _
    rw [ih, ← S_app, ← S_app]
    simp
theorem join_nil (qs : List (List Nat)) : Txt.join (S []) (qs.map S) = S qs.flatten := by
  unfold Txt.join
  rw [StrLaws.glued_eq_join]
  cases qs with
  | nil => rfl
  | cons r rs => exact join_nil1 rs r

section
variable {C : Ctx} {st : St} {Q : PV → St → Prop} {s : Shared} {ρ : List Addr}
end
end Mine

end
section
open PySem PySem.W PyProof.Rows PySem.Calls
namespace Mine
set_option linter.all false
set_option maxRecDepth 100000
section
variable {C : Ctx} {st : St} {Q : PV → St → Prop}
theorem AGm_extend {i : Nat} {l : List PV} (hi : st.σ[i]? = some (some l)) : AGm C (.own i) "extend" "list.extend" st := AGm_own hi PySem.F.slot_list_extend PySem.F.type_list_extend
theorem ACall_extend (hC : Ok C) {i : Nat} {l : List PV} {xs : List PyData} (hi : st.σ[i]? = some (some l)) (hsz : l.length + xs.length ≤ sizeLine) (h : Q pnone (st.upd i (l ++ xs.map .dat))) : ACallB C "list.extend" [.own i, plist xs] st Q := fun vs s ρ I rr => by
  obtain ⟨v, u, rfl, r, r'⟩ := rep2 rr
  obtain ⟨a, vs, rfl, hb, hpl, hr⟩ := rep_own I hi r
  obtain ⟨b, ws, rfl, hl2, hr2⟩ := rep_list r'
  obtain ⟨n, hpl'⟩ := id hpl
  obtain ⟨o2, ho2, hc2, n2, hd2⟩ := id hl2
  have hlen := repAll_len hr
  have hlen2 := repAll_len hr2
  rw [List.length_map] at hlen2
  refine wpAny_call_entry PySem.F.slot_list_extend ⟨_, hpl', rfl⟩ PySem.F.entry_list_extend ?_ (PySem.F.args_list_extend_2 _ _)
  unfold Builtin.«list.extend»
  refine wpAny_bind (m := selfAndOne "list.extend" _) (wpAny_of_eq (a := (.ref a, .ref b)) rfl ?_)
  unfold Builtin.List.listExtendWith
  have hT2 : s.TypeIs (.ref b) "list" := ⟨_, ho2, hc2⟩
  refine wpAny_bind (m := typeOf (.ref b)) (wpAny_typeOf hT2 ?_)
  show wpAny _ _ (if (Builtin.List.listSameRef (.ref a) (.ref b) || (Value.type "list") == .type "list" || (Value.type "list") == .type "tuple") = true then _ else _) _ _ s
  rw [if_pos (by rw [show ((Value.type "list") == .type "list") = true from rfl, Bool.or_true]; rfl)]
  refine wpAny_bind (wpAny_listItems ho2 hd2 ?_)
  refine wpAny_bind (wpAny_listItems hpl' rfl ?_)
  rw [if_neg (extend_door (by rw [List.size_toArray, List.size_toArray]; omega))]
  show wpAny _ _ (updateSeq a (· ++ ws.toArray) >>= fun _ => _) _ _ s
  refine wpAny_bind (wpAny_updateSeq hpl' rfl ?_ (by rw [List.size_toArray]; omega) (by rw [Array.size_append, List.size_toArray, List.size_toArray]; omega))
  refine wpAny_pure ⟨_, rfl, ?_⟩
  obtain ⟨n', em⟩ : ∃ n', Obj.mapSeq (· ++ ws.toArray) { cls := .type "list", data := .seq vs.toArray n } = { cls := .type "list", data := .seq (vs ++ ws).toArray n' } := ⟨_, by simp [Obj.mapSeq]; rfl⟩
  have hget : (s.heap.update a (Obj.mapSeq (· ++ ws.toArray))).get? a = some { cls := .type "list", data := .seq (vs ++ ws).toArray n' } := by rw [Heap.get?_update_self _ hpl' (by rw [em]; rfl), em]
  have J := I.upd hC (l' := l ++ xs.map .dat) (tk := s.toks) hi hb ⟨n', hget⟩ (Heap.SameBut.update ..) (repAll_append hr hr2) (Nat.le_refl _)
  exact ⟨_, _, ρ, J.1, J.2, repN, h⟩
/-! a, b, c = (x, y, z): the stores come from behind -/
end
end Mine

end
section
open PySem PySem.W PyProof.Rows PySem.Calls PySem.Builtin.Str
namespace Mine
set_option linter.all false
set_option maxRecDepth 100000
theorem item_at (l : List Nat) (p : Nat) (h : p < l.length) : Txt.item (S l) (p : Int) = S [l.toArray.getD p 0] := by
  unfold Txt.item Txt.charAt seqIndex?
  have h0 : ¬ ((p : Int) < 0) := by omega
  simp only [h0, if_false, S_len]
  rw [if_pos (by rw [Bool.and_eq_true]; exact ⟨decide_eq_true (by omega), decide_eq_true (by omega)⟩)]
  rw [getD_list l p h]
  simp [h]
theorem contains_one (m : List Nat) (c : Nat) : Txt.contains (S m) (S [c]) = m.contains c := by
  unfold Txt.contains
  have key : ∀ i, StrLaws.At (S m) (S [c]) (S m).length i ↔ (i ≤ m.length ∧ [c].isPrefixOf (m.drop i) = true) := at_iff m [c]
  rw [Bool.eq_iff_iff]
  rcases StrLaws.occ_head (S m) (S [c]) 1 (Nat.le_refl 1) with ⟨h0, hn⟩ | ⟨i, r, h0, hi, hn⟩
  · rw [h0]
    simp only [List.isEmpty_nil, Bool.not_true, Bool.false_eq_true, false_iff]
    intro hc
    have hm : c ∈ m := by simpa using hc
    obtain ⟨i, hi, e⟩ := List.getElem_of_mem hm
    refine hn i ((key i).mpr ⟨by omega, ?_⟩)
    rw [List.drop_eq_getElem_cons hi, e]; simp
  · rw [h0]
    simp only [List.isEmpty_cons, Bool.not_false, true_iff]
    obtain ⟨h1, h2⟩ := (key i).mp hi
    rw [List.isPrefixOf_iff_prefix] at h2
    obtain ⟨u, hu⟩ := h2
    have : c ∈ m.drop i := by rw [← hu]; exact List.mem_cons_self
    simpa using List.mem_of_mem_drop this
end Mine

end
section
open PySem PySem.W PyProof.Rows PySem.Calls PySem.Builtin.Str
namespace Mine
set_option linter.all false
set_option maxRecDepth 100000
theorem decS (a b : List Nat) : decide (S a = S b) = decide (a = b) := by
  rw [Bool.eq_iff_iff]; simp only [decide_eq_true_eq]; exact S_inj
end Mine

end
section
open PySem PySem.W PyProof.Rows PySem.Calls PySem.Builtin.Str
namespace Mine
set_option linter.all false
set_option maxRecDepth 100000
section
variable {C : Ctx} {st : St} {Q : PV → St → Prop}
theorem Post.fresh (hC : Ok C) {ρ : List Addr} {s : Shared} (I : Inv C st ρ s) {ps : List (Str × Tok)} {xs : List Str} (hx : ps.map (·.1) = xs) {n : Nat} {tk : Nat} (htk : s.toks ≤ tk) (h : Q (plist (xs.map .str)) st) :
    Post Rep C st ρ s Q (.ref s.heap.objs.size) { s with heap := s.heap.push { cls := .type "list", data := .seq (strValues ps).toArray n }, toks := tk } := by
  have J := I.toks hC htk
  exact (Post.list (Q := Q) hC J.1 (vs := strValues ps) (xs := xs.map .str) (repAll_strs hx) (n := n) h).le J.2
theorem ACall_split1 (hC : Ok C) {x y : Str} (hy : (y.length == 0) = false) (hx : x.length ≤ 1000000) (h : Q (plist ((Txt.split x y).map .str)) st) : ACallB C "str.split" [pstr x, pstr y] st Q := fun vs s ρ I rr => by
  obtain ⟨v, u, rfl, r, r'⟩ := rep2 rr; obtain ⟨t, rfl⟩ := rep_str r; obtain ⟨t', rfl⟩ := rep_str r'
  have ho := StrLaws.occ_length_le x y 0 x.length (x.length + 1)
  cases h1 : (decide (x.length < y.length) || decide (strKind x < strKind y))
  · cases hf : (occurrences x y 0 x.length (x.length + 1)).isEmpty
    · refine call_meets F.slot_str_split (typeIs_str _ _ _) F.entry_str_split (F.args_str_split_2 _ _) (meets_str_split_sep x y t t' h1 hy hf (by rw [sizeLine_eq]; omega) ?_) ?_
      · rw [length_partsBetween, sizeLine_eq]; omega
      · show wants _ _ _ { s with toks := _, heap := s.heap.push { cls := .type "list", data := .seq (strsFrom s.toks (partsBetween x (occurrences x y 0 x.length (x.length + 1)) y.length)).toArray } }
        rw [strsFrom_eq]
        exact Post.fresh hC I ((numbered_texts _ _).trans ((if_neg (ne_true_of_eq_false h1)).trans (if_neg (ne_true_of_eq_false hf))).symm) (by omega) h
    · exact call_meets F.slot_str_split (typeIs_str _ _ _) F.entry_str_split (F.args_str_split_2 _ _) (meets_str_split_not_found x y t t' h1 hy hf)
        (Post.fresh hC I (ps := [(x, t)]) (xs := Txt.split x y) ((if_neg (ne_true_of_eq_false h1)).trans (if_pos hf)).symm (Nat.le_refl _) h)
  · exact call_meets F.slot_str_split (typeIs_str _ _ _) F.entry_str_split (F.args_str_split_2 _ _) (meets_str_split_cannot_occur x y t t' h1)
      (Post.fresh hC I (ps := [(x, t)]) (xs := Txt.split x y) (if_pos h1).symm (Nat.le_refl _) h)
end
end Mine

end
section
open PySem PySem.W PyProof.Rows PySem.Calls
namespace Mine
set_option linter.all false
set_option maxRecDepth 100000
section
variable {C : Ctx} {st : St}
/-- a new list is taken as one's own -/
theorem Inv.adopt (hC : Ok C) {ρ : List Addr} {s : Shared} (I : Inv C st ρ s) {D : Addr} {h' : Heap} {tk : Nat} (hD : s.heap.get? D = none) (hk : ∀ b o, s.heap.get? b = some o → b ∉ C.tb.T → h'.get? b = some o) (hok : C.tb.ok h') (htk : s.toks ≤ tk)
    {vs : List Value} {xs : List PyData} {bs : List Addr} (hself : h'.PlainList D vs.toArray) (ra : ReadsAll h' vs xs bs) (na : ∀ a ∈ bs, ¬ Mut C st.σ ρ a ∧ a ≠ D) (hxd : nodAll xs = true) {ds : List PV} (hds : ds = xs.map .dat) :
    Inv C (st.new ds) (ρ ++ [D]) { s with heap := h', toks := tk } ∧ Le C st ρ s (st.new ds) (ρ ++ [D]) { s with heap := h', toks := tk } := by
  have J := I.keepsT hC (h' := h') (tk := tk) hk hok htk
  have hfree : ∀ a, (∃ o, s.heap.get? a = some o) → a ≠ D := fun a ⟨o, ho⟩ q => by rw [q, hD] at ho; cases ho
  have hmut : ∀ a, Mut C (st.σ ++ [some ds]) (ρ ++ [D]) a ↔ Mut C st.σ ρ a ∨ a = D := by
    intro a
    constructor
    · rintro (h | h | h | ⟨i, l, h1, h2⟩)
      · exact .inl (.inl h)
      · exact .inl (.inr (.inl h))
      · exact .inl (.inr (.inr (.inl h)))
      · by_cases hi : i < st.σ.length
        · rw [List.getElem?_append_left hi] at h1
          rw [List.getElem?_append_left (by rw [I.len]; exact hi)] at h2
          exact .inl (.inr (.inr (.inr ⟨i, l, h1, h2⟩)))
        · have hi' : i = st.σ.length := by
            have := (List.getElem?_eq_some_iff.mp h1).1
            simp at this; omega
          subst hi'
          rw [← I.len] at h2
          simp at h2
          exact .inr h2.symm
    · rintro ((h | h | h | ⟨i, l, h1, h2⟩) | rfl)
      · exact .inl h
      · exact .inr (.inl h)
      · exact .inr (.inr (.inl h))
      · refine .inr (.inr (.inr ⟨i, l, ?_, ?_⟩))
        · rw [List.getElem?_append_left (List.getElem?_eq_some_iff.mp h1).1]; exact h1
        · rw [List.getElem?_append_left (List.getElem?_eq_some_iff.mp h2).1]; exact h2
      · exact .inr (.inr (.inr ⟨st.σ.length, ds, by simp, by rw [← I.len]; simp⟩))
  have L : Le C st ρ s (st.new ds) (ρ ++ [D]) { s with heap := h', toks := tk } :=
    ⟨fun a o e q => ⟨(J.2.keep a o e q).1, fun hm => ((hmut a).mp hm).elim q fun z => hfree a ⟨o, e⟩ z⟩,
      fun i a e => by rw [List.getElem?_append_left (List.getElem?_eq_some_iff.mp e).1]; exact e, J.2.ex⟩
  have hnone : C.s₀.heap.get? D = none := by
    cases e : C.s₀.heap.get? D with
    | none => rfl
    | some o => rw [I.keep _ _ e] at hD; cases hD
  have gI := I.grow hC L
  refine ⟨⟨J.1.same, J.1.keep, J.1.tok, ?_, ?_, ?_, ?_, ?_, J.1.tab⟩, L⟩
  · obtain ⟨m, ⟨o, es, ep, g1, g2, g3⟩, h2⟩ := I.ns
    refine ⟨m, ⟨o, es, ep, hk _ _ g1 (fun q => by obtain ⟨ws, h1⟩ := C.tb.has _ I.tab _ q; rw [h1] at g1; cases g1; cases g2), g2, g3⟩, fun x d e k => let ⟨v, e1, e2⟩ := h2 x d e k; ⟨v, e1, e2.grow gI⟩⟩
  · intro x c hx
    obtain ⟨u, ⟨o, g1, g2⟩, h2⟩ := I.cell x c hx
    exact ⟨u, ⟨o, hk _ _ g1 (fun q => by obtain ⟨ws, h1⟩ := C.tb.has _ I.tab _ q; rw [h1] at g1; cases g1; cases g2), g2⟩, fun d e k => let ⟨v, e1, e2⟩ := h2 d e k; ⟨v, e1, e2.grow gI⟩⟩
  · intro i l hi
    by_cases hlt : i < st.σ.length
    · have hi' : st.σ[i]? = some (some l) := by
        have : (st.σ ++ [some ds])[i]? = some (some l) := hi
        rwa [List.getElem?_append_left hlt] at this
      obtain ⟨a, ws, e1, ⟨n', g1⟩, e3, e4⟩ := I.own i l hi'
      exact ⟨a, ws, by rw [List.getElem?_append_left (by rw [I.len]; exact hlt)]; exact e1, ⟨n', hk _ _ g1 (fun q => by obtain ⟨ws, h1⟩ := C.tb.has _ I.tab _ q; rw [h1] at g1; cases g1)⟩, e3.grow gI, e4⟩
    · have hi2 : (st.σ ++ [some ds])[i]? = some (some l) := hi
      have hi' : i = st.σ.length := by
        have := (List.getElem?_eq_some_iff.mp hi2).1
        simp at this; omega
      subst hi'
      simp at hi2
      subst hi2
      refine ⟨D, vs, by rw [← I.len]; simp, hself, ?_, hnone⟩
      rw [hds]
      refine repAll_dat ra (fun a ha hm => ?_) hxd
      rw [← hds] at hm
      exact ((hmut a).mp hm).elim (na a ha).1 (na a ha).2
  · intro i j a l l' hi hj ei ej
    have key : ∀ (k : Nat) (lk : List PV), (st.σ ++ [some ds])[k]? = some (some lk) → (ρ ++ [D])[k]? = some a → (k < st.σ.length ∧ st.σ[k]? = some (some lk) ∧ ρ[k]? = some a ∧ a ≠ D) ∨ (k = st.σ.length ∧ a = D) := by
      intro k lk h1 h2
      by_cases hlt : k < st.σ.length
      · rw [List.getElem?_append_left hlt] at h1
        rw [List.getElem?_append_left (by rw [I.len]; exact hlt)] at h2
        exact .inl ⟨hlt, h1, h2, hfree a (mut_has hC I (.inr (.inr (.inr ⟨k, lk, h1, h2⟩))))⟩
      · have hk : k = st.σ.length := by
          have := (List.getElem?_eq_some_iff.mp h1).1
          simp at this; omega
        subst hk
        rw [← I.len] at h2
        simp at h2
        exact .inr ⟨rfl, h2.symm⟩
    rcases key i l hi ei with ⟨_, a1, a2, a3⟩ | ⟨a1, a2⟩ <;> rcases key j l' hj ej with ⟨_, b1, b2, b3⟩ | ⟨b1, b2⟩
    · exact I.inj i j a l l' a1 b1 a2 b2
    · exact absurd b2 a3
    · exact absurd a2 b3
    · omega
  · show (ρ ++ [D]).length = (st.σ ++ [some ds]).length
    rw [List.length_append, List.length_append, I.len]; rfl
end
section
variable {prog : Program} {w : World} {B : Wd} {ks : List (Str × NameKind)} {n : Nat} {wr : Bool} {C : Ctx} {st : St} {K : Frag} {tb : Tabs}
/-- name = [..], and the list is one's own -/
theorem AX_AssignCompOwn {Q : Fl → St → Prop} (hIn : In prog w B ks n wr C) {elt iter : Expr} {x y : Str} {px py pos spos : Pos} {ifs : List Expr} {scope : Scope} (cap : List (Str × PV))
    (hc : (∀ y, (y, NameKind.free) ∈ scope.names → ks.lookup y = some .cell) ∧ scope.kind = .function ∧ ∀ y ∈ scope.names, y.2 = .local → scope.names.lookup y.1 = some .local)
    (h : AE C iter st fun d st₁ => ∃ xs f, AItr C d xs st₁ ∧ CompOk ks scope x cap st₁ ∧ xs.length ≤ sizeLine ∧ (∀ C', In prog w B (compKinds scope.names) n false C' → ∀ y ∈ xs, CompStep C' x ifs elt cap y (f y)) ∧ ASt C y (.own st₁.σ.length) (st₁.new ((xs.filterMap f).map .dat)) fun st₂ => Q .next st₂)
    (hsw : swapsWith (.ListComp elt [⟨.Name x px, iter, ifs, 0⟩] scope pos) (some (.Name y py)) spos.line C.env = pure true)
    (hs : ∀ x, foldedSetIterable iter C.env x = pure x := by intro _; rfl) : AX C (.Assign [.Name y py] (.ListComp elt [⟨.Name x px, iter, ifs, 0⟩] scope pos) spos) st Q := fun s ρ I => by
  rw [exec_Assign_Name_used _ _ _ _ hsw]
  refine wpAny_bind (wpAny_standAt (wpAny_bind ?_))
  show wpAny _ _ (do let _ ← comprehension (.ListComp elt [⟨.Name x px, iter, ifs, 0⟩] scope pos) scope C.env _ (newList []) false (eval iter C.env) (some (assign (.Name y py) C.env))) _ _ s
  refine wpAny_bind (wpAny_mono (wpAny_comprehension_free (Q := fun _ s' => Post FlR C st ρ s Q .next s') (cl := closOf C.env.cells scope.names []) rfl hs (closureFor_of fun y hy => hIn.cell y (hc.1 y hy)) hc.2.1 hc.2.2 ?_) (fun _ s' hq => wpAny_pure (wpAny_pure hq)) fun _ _ e => e)
  refine h.use I fun v s₁ d st₁ ρ₁ I₁ L₁ r₁ ⟨xs, f, hit, ⟨o1, o2, o3, o4, o5, o6⟩, hsz, hstep, hQ⟩ => ?_
  refine comp_core hIn I₁ r₁ hit o1 o2 o3 o4 o5 hsz hstep (fun acc cenv => compPost (model C.prog C.w) C.A NoE (some (assign (.Name y py) C.env)) (fun _ s' => Post FlR C st ρ s Q .next s') acc cenv.locals) ?_
  intro D L h' tk m as hD hL hk hok htk hns hr hna hd ⟨vs, bs, hpl, ra, nb⟩ cenv hcl
  subst hcl
  have hDL : D ≠ cenv.locals := by
    cases hr with
    | list h1 h2 h3 h4 => exact (hna D List.mem_cons_self).2
  have J := I₁.adopt hIn.ok hD hk hok htk hpl ra nb hd rfl
  refine PySem.wpAny_assign_Name (wpAny_mono (hQ (.ref D) _ (ρ₁ ++ [D]) J.1 ⟨D, by rw [← I₁.len]; simp, rfl⟩) (fun _ s₂ ⟨st₂, ρ₂, I₂, L₂, h₂⟩ => ?_) fun _ _ x => x)
  obtain ⟨oL, es, ep, g1, g2⟩ := hns
  have hnm : ¬ Mut C (st₁.new ((xs.filterMap f).map .dat)).σ (ρ₁ ++ [D]) cenv.locals := fun hm => by
    rcases hm with hm | hm | hm | ⟨i, l, h1, h2⟩
    · obtain ⟨o, ho⟩ := mut_has hIn.ok I₁ (.inl hm); rw [hL] at ho; cases ho
    · obtain ⟨o, ho⟩ := mut_has hIn.ok I₁ (.inr (.inl hm)); rw [hL] at ho; cases ho
    · obtain ⟨o, ho⟩ := mut_has hIn.ok I₁ (.inr (.inr (.inl hm))); rw [hL] at ho; cases ho
    · by_cases hi : i < st₁.σ.length
      · have h1' : (st₁.σ ++ [some ((xs.filterMap f).map PV.dat)])[i]? = some (some l) := h1
        rw [List.getElem?_append_left hi] at h1'
        rw [List.getElem?_append_left (by rw [I₁.len]; exact hi)] at h2
        obtain ⟨o, ho⟩ := mut_has hIn.ok I₁ (.inr (.inr (.inr ⟨i, l, h1', h2⟩))); rw [hL] at ho; cases ho
      · have hlt := (List.getElem?_eq_some_iff.mp h2).1
        rw [List.length_append, I₁.len] at hlt
        simp at hlt
        have hi' : i = ρ₁.length := by rw [I₁.len]; omega
        subst hi'
        simp at h2
        exact hDL h2
  have hL2 := L₂.keep _ _ g1 hnm
  refine ⟨m, ⟨oL, es, ep, hL2.1, g2⟩, fun h'' hs'' => ?_⟩
  have hbase : C.s₀.heap.get? cenv.locals = none := by
    cases e : C.s₀.heap.get? cenv.locals with
    | none => rfl
    | some o => rw [I₁.keep _ _ e] at hL; cases hL
  have I₃ := I₂.but hL2.1 (.inl ⟨_, _, g2.1⟩) hL2.2 hbase (h' := h'') (tk := s₂.toks) (fun a o q e => (hs''.2 a q).trans e) (Nat.le_refl _)
  have hne : ∀ a o, s₁.heap.get? a = some o → a ≠ cenv.locals := fun a o e q => by rw [q, hL] at e; cases e
  refine ⟨.next, st₂, ρ₂, I₃, L₁.trans ⟨fun a o e q => ?_, fun i a e => L₂.rho i a (J.2.rho i a e), fun a o e => ?_⟩, trivial, h₂⟩
  · have := (J.2.trans L₂).keep a o e q
    exact ⟨(hs''.2 a (hne a o e)).trans this.1, this.2⟩
  · obtain ⟨o', ho'⟩ := (J.2.trans L₂).ex a o e
    exact ⟨o', (hs''.2 a (hne a o e)).trans ho'⟩
theorem AX_AsgCompOwn {Q : Fl → St → Prop} (hIn : In prog w (BB K tb) ks n wr C) {elt iter : Expr} {x y : Str} {px py pos spos : Pos} {ifs : List Expr} {scope : Scope} (cap : List (Str × PV)) (hok : okB ks scope x = true)
    (hk : ks.lookup y = some .local) (hp : (py.line == pos.line) = true) (hy : (scope.names.any fun p => p.1 == y && (p.2 == .local || p.2 == .cell)) = false)
    (h : AE C iter st fun d st₁ => ∃ xs f, AItr C d xs st₁ ∧ CapOk scope.names st₁ cap ∧ xs.length ≤ sizeLine ∧ (∀ C', In prog w (BB K tb) (compKinds scope.names) n false C' → ∀ y ∈ xs, CompStep C' x ifs elt cap y (f y)) ∧ ASt C y (.own st₁.σ.length) (st₁.new ((xs.filterMap f).map .dat)) fun st₂ => Q .next st₂)
    (hs : ∀ x, foldedSetIterable iter C.env x = pure x := by intro _; rfl) : AX C (.Assign [.Name y py] (.ListComp elt [⟨.Name x px, iter, ifs, 0⟩] scope pos) spos) st Q :=
  AX_AssignCompOwn hIn cap (okB_free hok) (h.mono fun d st₁ ⟨xs, f, h1, h2, h3, h4, h5⟩ => ⟨xs, f, h1, okB_ok hok h2, h3, h4, h5⟩) (swaps_yes hIn hk hp hy) hs
end
end Mine

end
section
open PySem PySem.W PyProof.Rows PySem.Calls PySem.Builtin.Str PySem.Sre
namespace Mine
set_option linter.all false
set_option maxRecDepth 100000
/-! names, cut at their dots -/
def stripLF (p : List Nat) : List Nat := if p.getLast? = some 10 then p.dropLast else p
def figL (p : List Nat) : Bool := !(stripLF p).isEmpty && (stripLF p).all isDigit
theorem strip_cons (c d : Nat) (r : List Nat) : stripLF (c :: d :: r) = c :: stripLF (d :: r) := by
  unfold stripLF
  rw [List.getLast?_cons_cons]
  split <;> rfl
theorem digEnd_strip : ∀ r : List Nat, digEnd r = (stripLF r).all isDigit
  | [] => rfl
  | [c] => by
    by_cases h : c = 10
    · subst h; decide
    · have e : stripLF [c] = [c] := by unfold stripLF; rw [if_neg (by simpa using h)]
      rw [e]
      have : (c == 10) = false := by simpa using h
      simp [digEnd, this]
  | c :: d :: r => by
    rw [digEnd, digEnd_strip (d :: r), strip_cons, List.all_cons]
    simp
theorem headEnd_fig (p : List Nat) : headEnd p = figL p := by
  unfold figL
  match p with
  | [] => rfl
  | [d] =>
    by_cases h : d = 10
    · subst h; decide
    · have e : stripLF [d] = [d] := by unfold stripLF; rw [if_neg (by simpa using h)]
      rw [e]; simp [headEnd, digEnd]
  | d :: c :: r =>
    rw [headEnd, digEnd_strip, strip_cons, List.all_cons]; rfl
theorem digEnd_46 : ∀ (a b : List Nat), digEnd (a ++ 46 :: b) = false
  | [], b => by rw [List.nil_append, digEnd, show isDigit 46 = false from by decide]; simp
  | c :: a, b => by
    rw [List.cons_append, digEnd, digEnd_46 a b]
    simp
theorem headEnd_46 (a b : List Nat) : headEnd (a ++ 46 :: b) = false := by
  cases a with
  | nil => rw [List.nil_append, headEnd, show isDigit 46 = false from by decide]; rfl
  | cons c a => rw [List.cons_append, headEnd, digEnd_46 a b, Bool.and_false]
def lastP (ps : List (List Nat)) : List Nat := ps.getLast?.getD []
theorem lastP_cons (r s : List Nat) (rs : List (List Nat)) : lastP (r :: s :: rs) = lastP (s :: rs) := by unfold lastP; rw [List.getLast?_cons_cons]
theorem anyL_flat46 : ∀ (r : List Nat) (rs : List (List Nat)), (∀ p ∈ r :: rs, 46 ∉ p) → anyL (flat (r :: rs)) = figL (lastP (r :: rs))
  | r, [], h => by
    rw [flat, flat, List.append_nil, anyL, trialL_cons]
    have := anyL_nodot r [] (h r List.mem_cons_self)
    rw [List.append_nil] at this
    rw [this, headEnd_fig]
    simp [anyL, lastP]
  | r, s :: rs, h => by
    have ih := anyL_flat46 s rs fun p hp => h p (List.mem_cons_of_mem _ hp)
    rw [flat, anyL, trialL_cons, anyL_nodot r _ (h r List.mem_cons_self), ih, lastP_cons]
    have : headEnd (r ++ flat (s :: rs)) = false := by rw [flat]; exact headEnd_46 _ _
    rw [this]; simp
theorem gl_app {a b : List Nat} (hb : b ≠ []) : (a ++ b).getLast? = b.getLast? := by
  rw [List.getLast?_append]
  cases h : b.getLast? with
  | none => exact absurd (List.getLast?_eq_none_iff.mp h) hb
  | some x => rfl
theorem last_flat : ∀ (r : List Nat) (rs : List (List Nat)), (∀ p ∈ r :: rs, 46 ∉ p) → ((flat (r :: rs)).getLast? == some 46) = (lastP (r :: rs)).isEmpty
  | r, [], h => by
    rw [flat, flat, List.append_nil]
    cases r with
    | nil => rfl
    | cons a b =>
      rw [List.getLast?_cons_cons, show lastP [a :: b] = a :: b from rfl]
      have hm : 46 ∉ a :: b := h _ List.mem_cons_self
      have : ((a :: b).getLast? == some 46) = false := by
        rw [beq_eq_false_iff_ne]
        intro e
        exact hm (List.mem_of_getLast? e)
      rw [this]; rfl
  | r, s :: rs, h => by
    have ih := last_flat s rs fun p hp => h p (List.mem_cons_of_mem _ hp)
    rw [lastP_cons, ← ih, flat]
    have hne : flat (s :: rs) ≠ [] := by simp [flat]
    rw [← List.cons_append, gl_app hne]
def namedP (ps : List (List Nat)) : Bool := !(ps.headD []).isEmpty && (!(lastP ps).isEmpty && !(figL (lastP ps) && decide (ps.length > 1)))
theorem named_hdn : ∀ (ps : List (List Nat)), ps ≠ [] → (∀ p ∈ ps, 46 ∉ p) → hdnL (joinL ps) = namedP ps
  | [], h, _ => absurd rfl h
  | [r], _, h => by
    have hm := h r List.mem_cons_self
    have ha := anyL_nodot r [] hm
    rw [List.append_nil] at ha
    have e : joinL [r] = r := by simp [joinL, flat]
    have e2 : lastP [r] = r := rfl
    rw [e]
    unfold hdnL namedP
    rw [ha, e2]
    have h1 : (r.head? == some 46) = false := by
      rw [beq_eq_false_iff_ne]; intro e; exact hm (List.mem_of_mem_head? e)
    have h2 : (r.getLast? == some 46) = false := by
      rw [beq_eq_false_iff_ne]; intro e; exact hm (List.mem_of_getLast? e)
    rw [h1, h2]
    cases r <;> simp [anyL]
  | r :: s :: rs, _, h => by
    have hm := h r List.mem_cons_self
    have hr : ∀ p ∈ s :: rs, 46 ∉ p := fun p hp => h p (List.mem_cons_of_mem _ hp)
    have e : joinL (r :: s :: rs) = r ++ flat (s :: rs) := rfl
    have hne : flat (s :: rs) ≠ [] := by simp [flat]
    rw [e]
    unfold hdnL namedP
    rw [anyL_nodot r _ hm, anyL_flat46 s rs hr, gl_app hne, last_flat s rs hr, lastP_cons]
    have hlen : decide ((r :: s :: rs).length > 1) = true := by simp
    rw [hlen]
    cases r with
    | nil => simp [flat]
    | cons a b =>
      have h1 : ((a :: b ++ flat (s :: rs)).head? == some 46) = false := by
        rw [beq_eq_false_iff_ne]; intro e; simp at e; exact hm (e ▸ List.mem_cons_self)
      rw [h1]
      cases figL (lastP (s :: rs)) <;> cases (lastP (s :: rs)).isEmpty <;> simp
theorem split46 (l : List Nat) : ∃ ps : List (List Nat), Txt.split (S l) (S [46]) = ps.map S ∧ ps ≠ [] ∧ (∀ p ∈ ps, 46 ∉ p) ∧ l = joinL ps := by
  refine ⟨(Txt.split (S l) ⟨#[46]⟩).map (·.cps.toList), ?_, ?_, ?_, ?_⟩
  · rw [List.map_map]
    have : (S ∘ fun x : Str => x.cps.toList) = id := by funext x; exact (S_eta x).symm
    rw [this, List.map_id]
  · intro h
    have h0 := List.map_eq_nil_iff.mp h
    unfold Txt.split at h0
    split at h0
    · cases h0
    · split at h0
      · cases h0
      · have := congrArg List.length h0
        rw [length_partsBetween] at this
        simp at this
  · intro p hp
    obtain ⟨x, hx, rfl⟩ := List.mem_map.mp hp
    exact StrLaws.split_free (S l) 46 x hx
  · have h1 := StrLaws.join_split (S l) ⟨#[46]⟩
    have h2 : Txt.split (S l) ⟨#[46]⟩ = ((Txt.split (S l) ⟨#[46]⟩).map (·.cps.toList)).map S := by
      rw [List.map_map]
      have : (S ∘ fun x : Str => x.cps.toList) = id := by funext x; exact (S_eta x).symm
      rw [this, List.map_id]
    have h3 := join_eq ((Txt.split (S l) ⟨#[46]⟩).map (·.cps.toList))
    unfold Txt.join at h3
    rw [StrLaws.glued_eq_join, ← h2] at h3
    rw [show ("." : Str) = ⟨#[46]⟩ from rfl, h1] at h3
    exact S_inj.mp h3
theorem digit_ten (c : Nat) : isDigit c = ([48, 49, 50, 51, 52, 53, 54, 55, 56, 57] : List Nat).contains c := by
  by_cases h : c < 58
  · have : ∀ c : Fin 58, isDigit c.val = ([48, 49, 50, 51, 52, 53, 54, 55, 56, 57] : List Nat).contains c.val := by decide
    exact this ⟨c, h⟩
  · have h1 : isDigit c = false := by unfold isDigit; simp; omega
    rw [h1]; symm; simp; omega
/-- the second lies in the first behind its first sign -/
theorem occ_range (a b : List Nat) (hb : b ≠ []) : (!((List.range (a.length - 1)).filter fun k => decide ((a.drop (1 + k)).take b.length = b)).isEmpty) = occL a b := by
  rw [Bool.eq_iff_iff, occL_iff a b hb]
  simp only [Bool.not_eq_true', List.isEmpty_eq_false_iff]
  constructor
  · intro h
    obtain ⟨k, hk⟩ := List.exists_mem_of_ne_nil _ h
    obtain ⟨h1, h2⟩ := List.mem_filter.mp hk
    refine ⟨1 + k, by omega, ?_⟩
    rw [← of_decide_eq_true h2]
    exact List.take_prefix _ _
  · rintro ⟨i, h1, h2⟩
    have hl := h2.length_le
    have hbl : 0 < b.length := List.length_pos_iff.mpr hb
    rw [List.length_drop] at hl
    refine List.ne_nil_of_mem (a := i - 1) (List.mem_filter.mpr ⟨List.mem_range.mpr (by omega), ?_⟩)
    rw [show 1 + (i - 1) = i by omega]
    exact decide_eq_true (List.prefix_iff_eq_take.mp h2).symm
end Mine

end
section
open PySem PySem.W PyProof.Rows
set_option Elab.async false
set_option maxRecDepth 100000
set_option maxHeartbeats 8000000
namespace Mine
open_top hd for PySem.Challenge.rw_dm0156_02
end Mine

end
section
open PySem PySem.W PyProof.Rows PySem.Calls
set_option linter.all false
set_option Elab.async false
set_option maxRecDepth 100000
set_option maxHeartbeats 8000000
namespace Mine

noncomputable abbrev KK (w : World) : Frag := hd.heap_39 w.params
def lams : List Lam := []
noncomputable abbrev WW (w : World) : Wd := BB (KK w) (lamTabs lams)

theorem pat_ip {w : World} {h : Heap} (b : Base (KK w) h) : IsPat h 36 ipCode 0 :=
  ⟨_, _, _, _, _, _, _, _, _, b.frag 36 _ rfl, b.frag 35 _ rfl, rfl⟩
theorem length_zero {x : Str} (h : x.length = 0) : x = "" := by
  obtain ⟨⟨l⟩⟩ := x
  have : l = [] := by simpa [Str.length] using h
  subst this; rfl
theorem hdn_fn (prog : Program) (w : World) (x : Str) (hx : x.length ≤ 100000) : Fn prog w (WW w) 43 1 [pstr x] fun d => d = pbool (hdn x) := by
  refine Fn.of (fd := _) (body := _) (ps := ["text"]) (fun h b => Base.fn b (fd := _) rfl) (fun h b => Base.lim b) (fun h b => Base.code b rfl) rfl (fun vs hv => ?_) rfl (by decide) ?_ ?_
  · obtain ⟨v, rfl⟩ := len_one hv; rfl
  · intro x hx
    simp only [List.mem_singleton] at hx
    subst hx
    exact .inl rfl
  · intro C hIn
    dsimp only at hIn ⊢
    have hxs : x.length ≤ sizeLine := by rw [sizeLine_eq]; omega
    have hsz : x.cps.size < 16777217 := by have : x.cps.size = x.length := rfl; omega
    obtain ⟨m', k, hgo, hk, ho⟩ := ip_forSearch hsz
    refine AS_cons ?_
    refine AX_If ?_
    refine AT_plain ?_
    refine AE_meth (id := "re.Pattern.search") (In.ok (by assumption)) ?_
    refine AE_gF (by assumption) (by rfl) (by rfl) ?_
    dsimp only
    refine ⟨AGm_pat (pat_ip hIn.base) slot_pat_search type_pat_search, ?_⟩
    refine AEs_cons (In.ok (by assumption)) ?_
    refine AE_loc (by assumption) (by rfl) (by rfl) ?_
    refine AEs_nil ?_
    refine ACall_search hIn.ok (pat_ip hIn.base) hxs hgo hk ho (sp := [m'.start, m'.handed]) (fun _ M A s p str R h => newMatch0 h) ?_
    cases h1 : ipAny x.cps with
    | true =>
      rw [if_pos rfl]
      refine ATru_mt ?_
      refine iteT ?_
      refine AS_cons ?_
      refine AX_Return ?_
      refine AE_bool (In.ok (by assumption)) ?_
      refine SeqQ.ret ?_
      refine SeqQ.ret ?_
      refine RetQ.ret ?_
      exact ⟨rfl, by unfold hdn; rw [h1]; rfl⟩
    | false =>
      rw [if_neg Bool.false_ne_true]
      refine ATru_none ?_
      refine iteF ?_
      refine AS_nil ?_
      refine SeqQ.next ?_
      refine AS_cons ?_
      refine AX_If ?_
      refine AT_Compare (In.ok (by assumption)) ?_
      refine AE_loc (by assumption) (by rfl) (by rfl) ?_
      refine AE_str (In.ok (by assumption)) ?_
      refine ACmp_eqS ?_
      refine ATru_bool ?_
      refine ite_of (fun h2 => ?_) (fun h2 => ?_)
      · refine AS_cons ?_
        refine AX_Return ?_
        refine AE_bool (In.ok (by assumption)) ?_
        refine SeqQ.ret ?_
        refine SeqQ.ret ?_
        refine RetQ.ret ?_
        exact ⟨rfl, by unfold hdn; rw [h1, h2]; rfl⟩
      · have hl : 0 < x.length := by
          rcases Nat.eq_zero_or_pos x.length with h | h
          · exact absurd (length_zero h) (of_decide_eq_false h2)
          · exact h
        refine AS_nil ?_
        refine SeqQ.next ?_
        refine AS_cons ?_
        refine AX_If ?_
        refine AT_BoolOp ?_
        refine AAll_or ?_
        refine AT_Compare (In.ok (by assumption)) ?_
        refine AE_Item (In.ok (by assumption)) ?_
        refine AE_loc (by assumption) (by rfl) (by rfl) ?_
        refine AE_int (In.ok (by assumption)) ?_
        refine AItem_str hIn.ok (by omega) (by omega) hxs ?_
        refine AE_str (In.ok (by assumption)) ?_
        refine ACmp_eqS ?_
        refine ATru_bool ?_
        refine ite_of (fun h3 => ?_) (fun h3 => ?_)
        · refine iteT ?_
          refine AS_cons ?_
          refine AX_Return ?_
          refine AE_bool (In.ok (by assumption)) ?_
          refine SeqQ.ret ?_
          refine SeqQ.ret ?_
          refine RetQ.ret ?_
          exact ⟨rfl, by unfold hdn; rw [h1, h2, h3]; rfl⟩
        · refine AAll_or ?_
          refine AT_Compare (In.ok (by assumption)) ?_
          refine AE_Item (In.ok (by assumption)) ?_
          refine AE_loc (by assumption) (by rfl) (by rfl) ?_
          refine AE_Unary (In.ok (by assumption)) ?_
          refine AE_int (In.ok (by assumption)) ?_
          refine AUn_neg (In.ok (by assumption)) ?_
          refine AItem_str hIn.ok (by omega) (by omega) hxs ?_
          refine AE_str (In.ok (by assumption)) ?_
          refine ACmp_eqS ?_
          refine ATru_bool ?_
          refine ite_of (fun h4 => ?_) (fun h4 => ?_)
          · refine iteT ?_
            refine AS_cons ?_
            refine AX_Return ?_
            refine AE_bool (In.ok (by assumption)) ?_
            refine SeqQ.ret ?_
            refine SeqQ.ret ?_
            refine RetQ.ret ?_
            exact ⟨rfl, by unfold hdn; rw [h1, h2, h3, h4]; rfl⟩
          · refine AAll_nilO ?_
            refine iteF ?_
            refine AS_nil ?_
            refine SeqQ.next ?_
            refine AS_cons ?_
            refine AX_Return ?_
            refine AE_bool (In.ok (by assumption)) ?_
            refine SeqQ.ret ?_
            refine RetQ.ret ?_
            exact ⟨rfl, by unfold hdn; rw [h1, h2, h3, h4]; rfl⟩
theorem dm_fn (prog : Program) (w : World) (A B : Str) (hA : A.length ≤ 30000) (hB : B.length ≤ 30000) : Fn prog w (WW w) 50 2 [pstr A, pstr B] fun d => d = pbool (dmatch A B) := by
  refine Fn.of (fd := _) (body := _) (ps := ["A", "B"]) (fun h b => Base.fn b (fd := _) rfl) (fun h b => Base.lim b) (fun h b => Base.code b rfl) rfl (fun vs hv => ?_) rfl (by decide) ?_ ?_
  · obtain ⟨v, u, rfl⟩ := len_two hv; rfl
  · intro x hx
    simp only [List.mem_cons, List.not_mem_nil, or_false] at hx
    rcases hx with rfl | rfl <;> exact .inl rfl
  · intro C hIn
    dsimp only at hIn ⊢
    have hA' := len_lower A
    have hB' := len_lower B
    refine AS_cons ?_
    refine AX_Assign ?_
    refine AE_meth (id := "str.lower") (In.ok (by assumption)) ?_
    refine AE_loc (by assumption) (by rfl) (by rfl) ?_
    refine ⟨AGm_lower, ?_⟩
    refine AEs_nil ?_
    refine ACall_lower (In.ok (by assumption)) ?hs ?_
    case hs => omega
    refine ASt_loc (by assumption) (by rfl) ?_
    refine SeqQ.next ?_
    refine AS_cons ?_
    refine AX_Assign ?_
    refine AE_meth (id := "str.lower") (In.ok (by assumption)) ?_
    refine AE_loc (by assumption) (by rfl) (by rfl) ?_
    refine ⟨AGm_lower, ?_⟩
    refine AEs_nil ?_
    refine ACall_lower (In.ok (by assumption)) ?hs ?_
    case hs => omega
    refine ASt_loc (by assumption) (by rfl) ?_
    refine SeqQ.next ?_
    refine AS_cons ?_
    refine AX_If ?_
    refine AT_Compare (In.ok (by assumption)) ?_
    refine AE_loc (by assumption) (by rfl) (by rfl) ?_
    refine AE_loc (by assumption) (by rfl) (by rfl) ?_
    refine ACmp_eqS ?_
    refine ATru_bool ?_
    refine ite_of (fun h1 => ?_) (fun h1 => ?_)
    · refine AS_cons ?_
      refine AX_Return ?_
      refine AE_bool (In.ok (by assumption)) ?_
      refine SeqQ.ret ?_
      refine SeqQ.ret ?_
      refine RetQ.ret ?_
      exact ⟨rfl, by unfold dmatch; rw [if_pos (of_decide_eq_true h1)]⟩
    have h1' := of_decide_eq_false h1
    refine AS_nil ?_
    refine SeqQ.next ?_
    refine AS_cons ?_
    refine AX_If ?_
    refine AT_not ?_
    refine AT_plain ?_
    refine AE_def (by assumption) 1 rfl rfl rfl ?_ (Nat.le_refl _)
    refine AEs_cons (In.ok (by assumption)) ?_
    refine AE_loc (by assumption) (by rfl) (by rfl) ?_
    refine AEs_nil ?_
    refine ⟨rfl, (hdn_fn prog w _ (by omega)).mono fun d e => ?_⟩
    subst e
    refine ATru_bool ?_
    refine ite_of (fun h2 => ?_) (fun h2 => ?_)
    · refine AS_cons ?_
      refine AX_Return ?_
      refine AE_bool (In.ok (by assumption)) ?_
      refine SeqQ.ret ?_
      refine SeqQ.ret ?_
      refine RetQ.ret ?_
      exact ⟨rfl, by unfold dmatch; rw [if_neg h1']; simp only [Bool.not_eq_true'] at h2; rw [h2]; rfl⟩
    have h2' : hdn (Txt.lower A) = true := by simpa using h2
    refine AS_nil ?_
    refine SeqQ.next ?_
    refine AS_cons ?_
    refine AX_Assign ?_
    refine AE_meth (id := "str.rfind") (In.ok (by assumption)) ?_
    refine AE_loc (by assumption) (by rfl) (by rfl) ?_
    refine ⟨AGm_rfind, ?_⟩
    refine AEs_cons (In.ok (by assumption)) ?_
    refine AE_loc (by assumption) (by rfl) (by rfl) ?_
    refine AEs_nil ?_
    refine ACall_rfind (In.ok (by assumption)) ?_
    refine ASt_loc (by assumption) (by rfl) ?_
    refine SeqQ.next ?_
    refine AS_cons ?_
    refine AX_If ?_
    refine AT_BoolOp ?_
    refine AAll_or ?_
    refine AT_Compare (In.ok (by assumption)) ?_
    refine AE_loc (by assumption) (by rfl) (by rfl) ?_
    refine AE_Unary (In.ok (by assumption)) ?_
    refine AE_int (In.ok (by assumption)) ?_
    refine AUn_neg (In.ok (by assumption)) ?_
    refine ACmp_eqI ?_
    refine ATru_bool ?_
    refine ite_of (fun h3 => ?_) (fun h3 => ?_)
    · refine iteT ?_
      refine AS_cons ?_
      refine AX_Return ?_
      refine AE_bool (In.ok (by assumption)) ?_
      refine SeqQ.ret ?_
      refine SeqQ.ret ?_
      refine RetQ.ret ?_
      exact ⟨rfl, by unfold dmatch; rw [if_neg h1', h2', h3]; rfl⟩
    refine AAll_or ?_
    refine AT_Compare (In.ok (by assumption)) ?_
    refine AE_loc (by assumption) (by rfl) (by rfl) ?_
    refine AE_int (In.ok (by assumption)) ?_
    refine ACmp_eqI ?_
    refine ATru_bool ?_
    refine ite_of (fun h4 => ?_) (fun h4 => ?_)
    · refine iteT ?_
      refine AS_cons ?_
      refine AX_Return ?_
      refine AE_bool (In.ok (by assumption)) ?_
      refine SeqQ.ret ?_
      refine SeqQ.ret ?_
      refine RetQ.ret ?_
      exact ⟨rfl, by unfold dmatch; rw [if_neg h1', h2', h3, h4]; rfl⟩
    refine AAll_nilO ?_
    refine iteF ?_
    refine AS_nil ?_
    refine SeqQ.next ?_
    refine AS_cons ?_
    refine AX_If ?_
    refine AT_not ?_
    refine AT_plain ?_
    refine AE_meth (id := "str.startswith") (In.ok (by assumption)) ?_
    refine AE_loc (by assumption) (by rfl) (by rfl) ?_
    refine ⟨AGm_startswith, ?_⟩
    refine AEs_cons (In.ok (by assumption)) ?_
    refine AE_str (In.ok (by assumption)) ?_
    refine AEs_nil ?_
    refine ACall_startswith ?_
    refine ATru_bool ?_
    refine ite_of (fun h5 => ?_) (fun h5 => ?_)
    · refine AS_cons ?_
      refine AX_Return ?_
      refine AE_bool (In.ok (by assumption)) ?_
      refine SeqQ.ret ?_
      refine SeqQ.ret ?_
      refine RetQ.ret ?_
      exact ⟨rfl, by unfold dmatch; rw [if_neg h1', h2', h3, h4]; simp only [Bool.not_eq_true'] at h5; rw [h5]; rfl⟩
    have h5' : Txt.startswith (Txt.lower B) "." = true := by simpa using h5
    refine AS_nil ?_
    refine SeqQ.next ?_
    refine AS_cons ?_
    refine AX_If ?_
    refine AT_not ?_
    refine AT_plain ?_
    refine AE_def (by assumption) 1 rfl rfl rfl ?_ (Nat.le_refl _)
    refine AEs_cons (In.ok (by assumption)) ?_
    refine AE_Slice (In.ok (by assumption)) ?_
    refine AE_loc (by assumption) (by rfl) (by rfl) ?_
    refine AOpt_some ?_
    refine AE_int (In.ok (by assumption)) ?_
    refine exInt ?_
    refine AOpt_none ?_
    refine ASl_str (In.ok (by assumption)) ?hs ?_
    case hs => (simp only [List.length_map, List.length_append, List.length_cons, List.length_nil, S_len, sizeLine_eq]; omega)
    refine AEs_nil ?_
    have hs := Txt.slice_le (Txt.lower B) (some 1) none
    refine ⟨rfl, (hdn_fn prog w _ (by omega)).mono fun d e => ?_⟩
    subst e
    refine ATru_bool ?_
    refine ite_of (fun h6 => ?_) (fun h6 => ?_)
    · refine AS_cons ?_
      refine AX_Return ?_
      refine AE_bool (In.ok (by assumption)) ?_
      refine SeqQ.ret ?_
      refine SeqQ.ret ?_
      refine RetQ.ret ?_
      exact ⟨rfl, by unfold dmatch; rw [if_neg h1', h2', h3, h4, h5']; simp only [Bool.not_eq_true'] at h6; rw [h6]; rfl⟩
    refine AS_nil ?_
    refine SeqQ.next ?_
    refine AS_cons ?_
    refine AX_Return ?_
    refine AE_bool (In.ok (by assumption)) ?_
    refine SeqQ.ret ?_
    refine RetQ.ret ?_
    have h6' : hdn (Txt.slice (Txt.lower B) (some 1) none) = true := by simpa using h6
    exact ⟨rfl, by unfold dmatch; rw [if_neg h1', h2', h3, h4, h5', h6']; rfl⟩

theorem item_nat {l : List Nat} {i : Int} (h0 : 0 ≤ i) (h1 : i < l.length) : Txt.item (S l) i = S [l.toArray.getD i.toNat 0] := by
  have e : i = ((i.toNat : Nat) : Int) := by omega
  have h := item_at l i.toNat (by omega)
  rw [← e] at h; exact h

section
variable {C : Ctx} {st : St} {Q : PV → St → Prop}
theorem ACmp_neB {c d : Bool} (h : Q (pbool (c != d)) st) : ACmp C .NotEq (pbool c) (pbool d) st Q := fun a b s ρ I ra rb => by
  cases rep_bool ra; cases rep_bool rb
  exact ne_bool (Post.here I repB h)
theorem AUn_not {d : PV} (h : ATru C d st fun b st₁ => Q (pbool (!b)) st₁) : AUn C .Not d st Q := fun a s ρ I ra =>
  not_of (wpAny_mono (h a s ρ I ra) (fun c s' ⟨b, st', ρ', I', L', r', q⟩ => ⟨pbool (!b), st', ρ', I', L', by have e : c = b := r'; subst e; exact repB, q⟩) fun _ _ x => x)
theorem ACall_isiB {c : Bool} (h : Q (pbool true) st) : ACallB C "isinstance" [pbool c, .val (.type "bool")] st Q := fun vs s ρ I rr => by
  obtain ⟨v, u, rfl, r, r'⟩ := rep2 rr
  have e : u = .type "bool" := r'
  subst e
  cases rep_bool r
  exact PySem.IsiPair.bool_bool (Post.here I repB h)
end
def tab02 : List Nat := [97, 65, 98, 66, 55, 45, 10, 48, 1635]
def sg02 (x : Int) : List Nat := if x < 0 then [46] else [tab02.toArray.getD (x.fmod 9).toNat 0]
theorem sign_fn (prog : Program) (w : World) (x : Int) : Fn prog w (WW w) 57 1 [pint x] fun d => d = pstr (S (sg02 x)) := by
  refine Fn.of (fd := _) (body := _) (ps := ["x"]) (fun h b => Base.fn b (fd := _) rfl) (fun h b => Base.lim b) (fun h b => Base.code b rfl) rfl (fun vs hv => ?_) rfl (by decide) ?_ ?_
  · obtain ⟨v, rfl⟩ := len_one hv; rfl
  · intro x hx
    simp only [List.mem_singleton] at hx
    subst hx
    exact .inl rfl
  · intro C hIn
    dsimp only at hIn ⊢
    refine AS_cons ?_
    refine AX_If ?_
    refine AT_Compare (In.ok (by assumption)) ?_
    refine AE_loc (by assumption) (by rfl) (by rfl) ?_
    refine AE_int (In.ok (by assumption)) ?_
    refine ACmp_ltI ?_
    refine ATru_bool ?_
    refine ite_of (fun h1 => ?_) (fun h1 => ?_)
    · refine AS_cons ?_
      refine AX_Return ?_
      refine AE_str (In.ok (by assumption)) ?_
      refine SeqQ.ret ?_
      refine SeqQ.ret ?_
      refine RetQ.ret ?_
      exact ⟨rfl, by unfold sg02; rw [if_pos (of_decide_eq_true h1)]; rfl⟩
    · refine AS_nil ?_
      refine SeqQ.next ?_
      refine AS_cons ?_
      refine AX_Return ?_
      refine AE_Item (In.ok (by assumption)) ?_
      refine AE_str (In.ok (by assumption)) ?_
      refine AE_BinOp (In.ok (by assumption)) ?_
      refine AE_loc (by assumption) (by rfl) (by rfl) ?_
      refine AE_int (In.ok (by assumption)) ?_
      refine ABin_modI (In.ok (by assumption)) (by decide) ?_
      have hq0 : 0 ≤ x.fmod 9 := Int.fmod_nonneg_of_pos _ (by decide)
      have hq1 : x.fmod 9 < 9 := Int.fmod_lt_of_pos _ (by decide)
      rw [show ("aAbB7-\n0٣" : Str) = S tab02 from rfl]
      refine AItem_str hIn.ok (by rw [S_len]; show -(9 : Int) ≤ _; omega) (by rw [S_len]; show _ < (9 : Int); omega) (by rw [S_len]; decide) ?_
      rw [item_nat hq0 (by show _ < (9 : Int); omega)]
      exact ⟨rfl, by unfold sg02; rw [if_neg (of_decide_eq_false h1)]⟩
theorem strItems_S (l : List Nat) : strItems (S l) = l.map fun c => .str (S [c]) := by unfold strItems; rfl
def digD (d : PyData) : Option PyData := match d with
  | .str x => if Txt.contains (S [48, 49, 50, 51, 52, 53, 54, 55, 56, 57]) x then none else some (.str x)
  | _ => none
theorem digD_nil (l : List Nat) : ((strItems (S l)).filterMap digD).isEmpty = l.all PySem.Sre.isDigit := by
  rw [strItems_S]
  induction l with
  | nil => rfl
  | cons a b ih =>
    rw [List.map_cons, List.filterMap_cons, List.all_cons]
    have e : digD (.str (S [a])) = if PySem.Sre.isDigit a then none else some (.str (S [a])) := by
      show (if Txt.contains _ (S [a]) = true then _ else _) = _
      rw [contains_one, ← digit_ten]
    rw [e]
    cases PySem.Sre.isDigit a with
    | true => simpa using ih
    | false => rfl
theorem digD_depth (l : List Nat) : PyData.depthAll ((strItems (S l)).filterMap digD) ≤ 64 := by
  rw [strItems_S]
  induction l with
  | nil => decide
  | cons a b ih =>
    rw [List.map_cons, List.filterMap_cons]
    cases h : digD (.str (S [a])) with
    | none => exact ih
    | some d =>
      dsimp only
      rw [PyData.depthAll]
      refine Nat.max_le.mpr ⟨?_, ih⟩
      simp only [digD] at h
      split at h
      · cases h
      · cases h; exact Nat.le_trans (depth_str _) (by decide)
theorem slice_neg (l : List Nat) : Txt.slice (S l) (some (-1)) none = S (l.drop (l.length - 1)) := by
  rw [slice_eq]
  show (⟨(slc (some (-1 : Int)) none l).toArray⟩ : Str) = _
  unfold slc
  simp only [Option.elim]
  have : clipAt l.length (-1) = l.length - 1 := by unfold clipAt; simp; omega
  rw [this, List.take_of_length_le (by simp)]
theorem slice_butlast (l : List Nat) : Txt.slice (S l) none (some (-1)) = S l.dropLast := by
  rw [slice_eq]
  show (⟨(slc none (some (-1 : Int)) l).toArray⟩ : Str) = _
  unfold slc
  simp only [Option.elim]
  have : clipAt l.length (-1) = l.length - 1 := by unfold clipAt; simp; omega
  rw [this, List.drop_zero, Nat.sub_zero, ← List.dropLast_eq_take]
theorem last_ten (l : List Nat) : decide (l.drop (l.length - 1) = [10]) = decide (l.getLast? = some 10) := by
  rw [Bool.eq_iff_iff, decide_eq_true_eq, decide_eq_true_eq]
  cases l with
  | nil => simp
  | cons a b =>
    have hne : (a :: b) ≠ [] := by simp
    have h1 := List.dropLast_concat_getLast hne
    have h2 : (a :: b).drop ((a :: b).length - 1) = [(a :: b).getLast hne] := by
      conv => lhs; rw [← h1]
      simp
    rw [h2, List.getLast?_eq_some_getLast hne]
    simp
theorem named_fn (prog : Program) (w : World) (l : List Nat) (hl : l.length ≤ 1000) : Fn prog w (WW w) 62 1 [pstr (S l)] fun d => d = pbool (hdnL l) := by
  refine Fn.of (fd := _) (body := _) (ps := ["text"]) (fun h b => Base.fn b (fd := _) rfl) (fun h b => Base.lim b) (fun h b => Base.code b rfl) rfl (fun vs hv => ?_) rfl (by decide) ?_ ?_
  · obtain ⟨v, rfl⟩ := len_one hv; rfl
  · intro x hx
    simp only [List.mem_singleton] at hx
    subst hx
    exact .inl rfl
  · intro C hIn
    dsimp only at hIn ⊢
    obtain ⟨ps, hsp, hne, hfree, hj⟩ := split46 l
    have hlen : ∀ p ∈ ps, p.length ≤ l.length := by
      have : ∀ rs : List (List Nat), ∀ p ∈ rs, p.length ≤ (flat rs).length := by
        intro rs
        induction rs with
        | nil => intro p hp; cases hp
        | cons r rs ih =>
          intro p hp
          rw [flat, List.length_cons, List.length_append]
          rcases List.mem_cons.mp hp with rfl | hp
          · omega
          · have := ih p hp; omega
      intro p hp
      rw [hj]
      cases ps with
      | nil => cases hp
      | cons r rs =>
        rw [joinL, List.length_append]
        rcases List.mem_cons.mp hp with rfl | hp
        · omega
        · have := this rs p hp; omega
    have hpl : ps.length ≤ l.length + 1 := by
      have : ∀ rs : List (List Nat), rs.length ≤ (flat rs).length := by
        intro rs
        induction rs with
        | nil => simp
        | cons r rs ih => rw [flat, List.length_cons, List.length_cons, List.length_append]; omega
      rw [hj]
      cases ps with
      | nil => simp
      | cons r rs => have := this rs; rw [joinL, List.length_append, List.length_cons]; omega
    have hpos : 0 < ps.length := List.length_pos_iff.mpr hne
    have hlast : (ps.map fun p => PyData.str (S p))[ps.length - 1]? = some (.str (S (lastP ps))) := by
      unfold lastP
      rw [List.getElem?_map, List.getLast?_eq_getElem?]
      rw [List.getElem?_eq_getElem (by omega)]; rfl
    have hll : (lastP ps).length ≤ l.length := by
      unfold lastP
      rw [List.getLast?_eq_some_getLast hne]
      exact hlen _ (List.getLast_mem hne)
    have hhead : (ps.map fun p => PyData.str (S p))[0]? = some (.str (S (ps.headD []))) := by
      cases ps with
      | nil => exact absurd rfl hne
      | cons r rs => rfl
    have hpz : (ps.map fun p => PyData.str (S p)).length ≤ sizeLine := by rw [List.length_map, sizeLine_eq]; omega
    have hez : ∀ r : List Nat, decide (S r = "") = r.isEmpty := by
      intro r
      rw [show ("" : Str) = S [] from rfl, decS]
      cases r <;> simp
    have hfin : hdnL l = (!(ps.headD []).isEmpty && (!(lastP ps).isEmpty && !(figL (lastP ps) && decide (ps.length > 1)))) := by
      have := named_hdn ps hne hfree
      rw [← hj] at this
      exact this
    clear hj hfree
    have hlz : (S l).length ≤ 1000000 := by rw [S_len]; omega
    refine AS_cons (AX_Assign ?_)
    refine AE_meth (id := "str.split") (In.ok (by assumption)) ?_
    refine AE_loc (by assumption) (by rfl) (by rfl) ?_
    refine ⟨AGm_split, ?_⟩
    refine AEs_cons (In.ok (by assumption)) ?_
    refine AE_str (In.ok (by assumption)) ?_
    refine AEs_nil ?_
    refine ACall_split1 hIn.ok rfl hlz ?_
    rw [show ("." : Str) = S [46] from rfl, hsp, List.map_map, show (PyData.str ∘ S) = (fun p => PyData.str (S p)) from rfl]
    refine ASt_loc (by assumption) (by rfl) ?_
    refine SeqQ.next ?_
    refine AS_cons (AX_Assign ?_)
    refine AE_Item (In.ok (by assumption)) ?_
    refine AE_loc (by assumption) (by rfl) (by rfl) ?_
    refine AE_Unary (In.ok (by assumption)) ?_
    refine AE_int (In.ok (by assumption)) ?_
    refine AUn_neg (In.ok (by assumption)) ?_
    refine AItem_list (ps.length - 1) (.inr ⟨by decide, by rw [List.length_map]; omega⟩) hlast hpz ?_
    refine ASt_loc (by assumption) (by rfl) ?_
    refine SeqQ.next ?_
    have hls : (S (lastP ps)).length ≤ sizeLine := by rw [S_len, sizeLine_eq]; omega
    refine AS_cons (AG.mono (Q := fun f st₁ => f = .next ∧ Wk st₁ ⟨[("pieces", plist (ps.map fun p => PyData.str (S p))), ("last", pstr (S (stripLF (lastP ps))))], []⟩) ?_ ?_)
    · refine AX_If ?_
      refine AT_Compare (In.ok (by assumption)) ?_
      refine AE_Slice (In.ok (by assumption)) ?_
      refine AE_loc (by assumption) (by rfl) (by rfl) ?_
      refine AOpt_some ?_
      refine AE_Unary (In.ok (by assumption)) ?_
      refine AE_int (In.ok (by assumption)) ?_
      refine AUn_neg (In.ok (by assumption)) ?_
      refine exInt ?_
      refine AOpt_none ?_
      refine ASl_str (In.ok (by assumption)) ?hs ?_
      case hs => assumption
      refine AE_str (In.ok (by assumption)) ?_
      refine ACmp_eqS ?_
      refine ATru_bool ?_
      rw [slice_neg, show ("\n" : Str) = S [10] from rfl, decS, last_ten]
      refine ite_of (fun q => ?_) (fun q => ?_)
      · refine AS_cons ?_
        refine AX_Assign ?_
        refine AE_Slice (In.ok (by assumption)) ?_
        refine AE_loc (by assumption) (by rfl) (by rfl) ?_
        refine AOpt_none ?_
        refine AOpt_some ?_
        refine AE_Unary (In.ok (by assumption)) ?_
        refine AE_int (In.ok (by assumption)) ?_
        refine AUn_neg (In.ok (by assumption)) ?_
        refine exInt ?_
        refine ASl_str (In.ok (by assumption)) ?hs ?_
        case hs => assumption
        refine ASt_loc (by assumption) (by rfl) ?_
        refine SeqQ.next ?_
        refine AS_nil ?_
        rw [slice_butlast]
        refine ⟨rfl, Wk.of (lk_cons rfl (lk_cons ?_ lk_nil))⟩
        unfold stripLF
        rw [if_pos (of_decide_eq_true q)]; rfl
      · refine AS_nil ?_
        refine ⟨rfl, Wk.of (lk_cons rfl (lk_cons ?_ lk_nil))⟩
        unfold stripLF
        rw [if_neg (of_decide_eq_false q)]; rfl
    rintro f st₁ ⟨rfl, hw⟩
    refine AG.weak hw ?_
    have hsl : (stripLF (lastP ps)).length ≤ l.length := by
      unfold stripLF
      split
      · rw [List.length_dropLast]; omega
      · exact hll
    refine AS_cons (AX_Assign ?_)
    refine AG.eq (pbool (figL (lastP ps))) ?_ ?_
    · unfold figL
      generalize stripLF (lastP ps) = q at hsl ⊢
      refine AE_BoolOp ?_
      refine ABo_and (In.ok (by assumption)) ?_
      refine AE_Compare (In.ok (by assumption)) ?_
      refine AE_loc (by assumption) (by rfl) (by rfl) ?_
      refine AE_str (In.ok (by assumption)) ?_
      refine ACmp_neS ?_
      refine ATru_bool ?_
      rw [hez]
      refine ite_of (fun h1 => ?_) (fun h1 => ?_)
      · refine ABo_last ?_
        refine AE_Compare (In.ok (by assumption)) ?_
        refine AE_Comp hIn [] rfl ?_
        refine AE_loc (by assumption) (by rfl) (by rfl) ?_
        dsimp only
        refine ⟨_, digD, AItr_str, CapOk.nil, by rw [strItems_S, List.length_map, sizeLine_eq]; omega, ?_, ?_⟩
        · intro C' hIn' y hy l'
          rw [strItems_S] at hy
          obtain ⟨c, hc, rfl⟩ := List.mem_map.mp hy
          refine AIfs_one ?_
          refine AT_Compare (In.ok (by assumption)) ?_
          refine AE_loc (by assumption) (by rfl) (by rfl) ?_
          refine AE_str (In.ok (by assumption)) ?_
          refine ACmp_notinS ?_
          refine ATru_bool ?_
          rw [show ("0123456789" : Str) = S [48, 49, 50, 51, 52, 53, 54, 55, 56, 57] from rfl]
          refine ite_of (fun h => ?_) (fun h => ?_)
          · refine AE_loc (by assumption) (by rfl) (by rfl) ?_
            refine ⟨rfl, _, rfl, ?_⟩
            unfold digD; dsimp only; rw [if_neg (by simpa using h)]
          · refine ⟨rfl, ?_⟩
            unfold digD; dsimp only; rw [if_pos (by simpa using h)]
        · refine AE_List hIn.ok ?_
          refine AEs_nil ?_
          refine ⟨Nat.le_of_ble_eq_true rfl, [], rfl, ?_⟩
          refine ACmp_eqL hIn.un (digD_depth q) ?_
          rw [eqvAll_nil, digD_nil]
          exact ⟨by rw [h1]; rfl, rfl⟩
      · exact ⟨by rw [h1]; rfl, rfl⟩
    refine ASt_loc (by assumption) (by rfl) ?_
    refine SeqQ.next ?_
    refine AS_cons (AX_Return ?_)
    refine AG.eq (pbool (hdnL l)) ?_ ⟨rfl, rfl⟩
    rw [hfin]
    refine AE_BoolOp (ABo_and hIn.ok ?_)
    refine AE_Compare (In.ok (by assumption)) ?_
    refine AE_Item (In.ok (by assumption)) ?_
    refine AE_loc (by assumption) (by rfl) (by rfl) ?_
    refine AE_int (In.ok (by assumption)) ?_
    refine AItem_list 0 (.inl ⟨by decide, rfl⟩) hhead hpz ?_
    refine AE_str (In.ok (by assumption)) ?_
    refine ACmp_neS ?_
    refine ATru_bool ?_
    rw [hez]
    refine ite_of (fun h1 => ?_) (fun h1 => ?_)
    · refine ABo_and (In.ok (by assumption)) ?_
      refine AE_Compare (In.ok (by assumption)) ?_
      refine AE_Item (In.ok (by assumption)) ?_
      refine AE_loc (by assumption) (by rfl) (by rfl) ?_
      refine AE_Unary (In.ok (by assumption)) ?_
      refine AE_int (In.ok (by assumption)) ?_
      refine AUn_neg (In.ok (by assumption)) ?_
      refine AItem_list (ps.length - 1) (.inr ⟨by decide, by rw [List.length_map]; omega⟩) hlast hpz ?_
      refine AE_str (In.ok (by assumption)) ?_
      refine ACmp_neS ?_
      refine ATru_bool ?_
      rw [hez]
      refine ite_of (fun h2 => ?_) (fun h2 => ?_)
      · refine ABo_last (AE_Unary hIn.ok (AG.eq (pbool (figL (lastP ps) && decide (ps.length > 1))) ?_ ?_))
        · refine AE_BoolOp ?_
          refine ABo_and (In.ok (by assumption)) ?_
          refine AE_loc (by assumption) (by rfl) (by rfl) ?_
          refine ATru_bool ?_
          refine ite_of (fun h3 => ?_) (fun h3 => ?_)
          · refine ABo_last ?_
            refine AE_Compare (In.ok (by assumption)) ?_
            refine AE_bi (by assumption) (by rfl) (by rfl) (by rfl) ?_
            refine AEs_cons (In.ok (by assumption)) ?_
            refine AE_loc (by assumption) (by rfl) (by rfl) ?_
            refine AEs_nil ?_
            refine ACall_lenL (In.ok (by assumption)) ?hs ?_
            case hs => assumption
            refine AE_int (In.ok (by assumption)) ?_
            refine ACmp_gtI ?_
            rw [List.length_map]
            refine ⟨?_, rfl⟩
            rw [h3, Bool.true_and, show decide ((ps.length : Int) > 1) = decide (ps.length > 1) by rw [Bool.eq_iff_iff]; simp only [decide_eq_true_eq]; omega]
          · exact ⟨by rw [h3]; rfl, rfl⟩
        · refine AUn_not (ATru_bool ?_)
          exact ⟨by rw [h1, h2]; rfl, rfl⟩
      · exact ⟨by rw [h1, h2]; rfl, rfl⟩
    · exact ⟨by rw [h1]; rfl, rfl⟩
theorem rng1 (n : Nat) : rngItems 1 (n : Int) 1 = (List.range (n - 1)).map fun k : Nat => .int (1 + (k : Int)) := by
  rw [rngItems_one, show ((n : Int) - 1).toNat = n - 1 by omega]
def occD (a b : List Nat) (d : PyData) : Option PyData := match d with
  | .int i => if decide ((a.drop i.toNat).take b.length = b) then some (.int i) else none
  | _ => none
theorem occD_empty (a b : List Nat) : ((rngItems 1 (a.length : Int) 1).filterMap (occD a b)).isEmpty = ((List.range (a.length - 1)).filter fun k => decide ((a.drop (1 + k)).take b.length = b)).isEmpty := by
  rw [rng1]
  generalize List.range (a.length - 1) = l
  induction l with
  | nil => rfl
  | cons k l ih =>
    rw [List.map_cons, List.filterMap_cons, List.filter_cons]
    have e : occD a b (.int (1 + (k : Int))) = if decide ((a.drop (1 + k)).take b.length = b) = true then some (.int (1 + (k : Int))) else none := by
      show (if decide ((a.drop (1 + (k : Int)).toNat).take b.length = b) = true then _ else _) = _
      rw [show (1 + (k : Int)).toNat = 1 + k by omega]
    rw [e]
    cases decide ((a.drop (1 + k)).take b.length = b) with
    | true => rfl
    | false => simpa using ih
theorem occD_depth (a b : List Nat) : ∀ l : List PyData, PyData.depthAll (l.filterMap (occD a b)) ≤ 64
  | [] => by simp [PyData.depthAll]
  | d :: l => by
    rw [List.filterMap_cons]
    cases h : occD a b d with
    | none => exact occD_depth a b l
    | some e =>
      dsimp only
      rw [PyData.depthAll]
      refine Nat.max_le.mpr ⟨?_, occD_depth a b l⟩
      unfold occD at h
      split at h
      · split at h
        · cases h; exact Nat.le_trans (depth_int _) (by decide)
        · cases h
      · cases h
theorem slice_kn (a : List Nat) (k n : Nat) (hk : k ≤ a.length) : Txt.slice (S a) (some (k : Int)) (some ((k : Int) + (n : Int))) = S ((a.drop k).take n) := by
  rw [slice_eq]
  show (⟨(slc (some (k : Int)) (some ((k : Int) + (n : Int))) a).toArray⟩ : Str) = _
  unfold slc
  simp only [Option.elim]
  rw [show (k : Int) + (n : Int) = ((k + n : Nat) : Int) by omega, clipAt_nat, clipAt_nat, Nat.min_eq_left hk]
  rcases Nat.lt_or_ge (k + n) a.length with h | h
  · rw [Nat.min_eq_left (by omega), show k + n - k = n by omega]
  · rw [Nat.min_eq_right h, List.take_of_length_le (by simp), List.take_of_length_le (by simp; omega)]
theorem small_b {n : Nat} (h : n ≤ 100000) : Builtin.Range.small 1 (n : Int) 1 = true := small_one (by decide) (by decide) (by omega) (by omega)
theorem matches_fn (prog : Program) (w : World) (a b : List Nat) (ha : a.length ≤ 1000) (hb : b.length ≤ 1000) : Fn prog w (WW w) 67 2 [pstr (S a), pstr (S b)] fun d => d = pbool (dmL a b) := by
  refine Fn.of (fd := _) (body := _) (ps := ["host", "domain"]) (fun h b => Base.fn b (fd := _) rfl) (fun h b => Base.lim b) (fun h b => Base.code b rfl) rfl (fun vs hv => ?_) rfl (by decide) ?_ ?_
  · obtain ⟨v, u, rfl⟩ := len_two hv; rfl
  · intro x hx
    simp only [List.mem_cons, List.not_mem_nil, or_false] at hx
    rcases hx with rfl | rfl
    · first | exact .inl rfl | exact .inr rfl
    · first | exact .inl rfl | exact .inr rfl
  · intro C hIn
    dsimp only at hIn ⊢
    have has : (S a).length ≤ sizeLine := by rw [S_len, sizeLine_eq]; omega
    have hbs : (S b).length ≤ sizeLine := by rw [S_len, sizeLine_eq]; omega
    refine AS_cons (AX_If ?_)
    refine AT_Compare (In.ok (by assumption)) ?_
    refine AE_cel (by assumption) (by rfl) (by rfl) ?_
    refine AE_cel (by assumption) (by rfl) (by rfl) ?_
    refine ACmp_eqS ?_
    refine ATru_bool ?_
    rw [decS]
    refine ite_of (fun h1 => ?_) (fun h1 => ?_)
    · refine AS_cons ?_
      refine AX_Return ?_
      refine AE_bool (In.ok (by assumption)) ?_
      refine SeqQ.ret ?_
      refine SeqQ.ret ?_
      refine RetQ.ret ?_
      exact ⟨rfl, by unfold dmL; rw [if_pos (of_decide_eq_true h1)]⟩
    have h1' := of_decide_eq_false h1
    skip
    refine AS_nil (SeqQ.next ?_)
    refine AS_cons (AX_AsgComp hIn [("host", pstr (S a)), ("domain", pstr (S b))] rfl rfl rfl rfl ?_)
    refine AE_ty (by assumption) (by rfl) (by rfl) (by rfl) ?_
    refine AEs_cons (In.ok (by assumption)) ?_
    refine AE_int (In.ok (by assumption)) ?_
    refine AEs_cons (In.ok (by assumption)) ?_
    refine AE_bi (by assumption) (by rfl) (by rfl) (by rfl) ?_
    refine AEs_cons (In.ok (by assumption)) ?_
    refine AE_cel (by assumption) (by rfl) (by rfl) ?_
    refine AEs_nil ?_
    refine ACall_lenS (In.ok (by assumption)) ?hs ?_
    case hs => assumption
    refine AEs_nil ?_
    refine ACall_range2 (In.ok (by assumption)) ?_
    dsimp only
    rw [S_len]
    refine ⟨_, occD a b, AItr_rng (small_b (by omega)), CapOk.cons rfl rfl rfl rfl (CapOk.cons rfl rfl rfl rfl CapOk.nil), by rw [rng1, List.length_map, List.length_range, sizeLine_eq]; omega, ?_, ?_⟩
    · intro C' hIn' y hy l'
      rw [rng1] at hy
      obtain ⟨k, hk, rfl⟩ := List.mem_map.mp hy
      have hk' := List.mem_range.mp hk
      refine AIfs_one ?_
      refine AT_Compare (In.ok (by assumption)) ?_
      refine AE_Slice (In.ok (by assumption)) ?_
      refine AE_cel (by assumption) (by rfl) (by rfl) ?_
      refine AOpt_some ?_
      refine AE_loc (by assumption) (by rfl) (by rfl) ?_
      refine exInt ?_
      refine AOpt_some ?_
      refine AE_BinOp (In.ok (by assumption)) ?_
      refine AE_loc (by assumption) (by rfl) (by rfl) ?_
      refine AE_bi (by assumption) (by rfl) (by rfl) (by rfl) ?_
      refine AEs_cons (In.ok (by assumption)) ?_
      refine AE_cel (by assumption) (by rfl) (by rfl) ?_
      refine AEs_nil ?_
      refine ACall_lenS (In.ok (by assumption)) ?hs ?_
      case hs => assumption
      refine ABin_addI (In.ok (by assumption)) ?_
      refine exInt ?_
      refine ASl_str (In.ok (by assumption)) ?hs ?_
      case hs => assumption
      refine AE_cel (by assumption) (by rfl) (by rfl) ?_
      refine ACmp_eqS ?_
      refine ATru_bool ?_
      rw [S_len, show (1 + (k : Int)) = ((1 + k : Nat) : Int) by omega, slice_kn a (1 + k) b.length (by omega), decS]
      refine ite_of (fun h => ?_) (fun h => ?_)
      · refine AE_loc (by assumption) (by rfl) (by rfl) ?_
        refine ⟨rfl, _, rfl, ?_⟩
        show (if decide ((a.drop ((1 + k : Nat) : Int).toNat).take b.length = b) = true then _ else _) = _
        rw [Int.toNat_natCast, if_pos h]
      · refine ⟨rfl, ?_⟩
        show (if decide ((a.drop ((1 + k : Nat) : Int).toNat).take b.length = b) = true then _ else _) = _
        rw [Int.toNat_natCast, if_neg (by rw [h]; decide)]
    refine ASt_loc (by assumption) (by rfl) ?_
    refine SeqQ.next ?_
    refine AS_cons (AX_Return ?_)
    refine AG.eq (pbool (dmL a b)) ?_ ⟨rfl, rfl⟩
    have hd : dmL a b = (hdnL a && occL a b && (b.head? == some 46) && hdnL (b.drop 1)) := by unfold dmL; rw [if_neg h1']
    rw [hd]
    refine AE_BoolOp (ABo_and hIn.ok ?_)
    refine AE_Compare (In.ok (by assumption)) ?_
    refine AE_loc (by assumption) (by rfl) (by rfl) ?_
    refine AE_List hIn.ok ?_
    refine AEs_nil ?_
    refine ⟨Nat.le_of_ble_eq_true rfl, [], rfl, ?_⟩
    refine ACmp_neL hIn.un (occD_depth a b _) ?_
    rw [eqvAll_nil, occD_empty]
    refine ATru_bool ?_
    refine ite_of (fun h2 => ?_) (fun h2 => ?_)
    · refine ABo_and hIn.ok ?_
      refine AE_Compare (In.ok (by assumption)) ?_
      refine AE_Slice (In.ok (by assumption)) ?_
      refine AE_cel (by assumption) (by rfl) (by rfl) ?_
      refine AOpt_none ?_
      refine AOpt_some ?_
      refine AE_int (In.ok (by assumption)) ?_
      refine exInt ?_
      refine ASl_str (In.ok (by assumption)) ?hs ?_
      case hs => assumption
      refine AE_str (In.ok (by assumption)) ?_
      refine ACmp_eqS ?_
      refine ATru_bool ?_
      rw [show Txt.slice (S b) none (some 1) = S (b.take 1) from slice_take b 1, show ("." : Str) = S [46] from rfl, decS]
      refine ite_of (fun h3 => ?_) (fun h3 => ?_)
      · have hb46 : ∃ r, b = 46 :: r := by
          have := of_decide_eq_true h3
          cases b with
          | nil => cases this
          | cons c r => simp at this; exact ⟨r, by rw [this]⟩
        obtain ⟨r, rfl⟩ := hb46
        rw [occ_range a (46 :: r) (by simp)] at h2
        refine ABo_and hIn.ok ?_
        refine AE_def (by assumption) 1 rfl rfl rfl ?_ (by decide)
        refine AEs_cons (In.ok (by assumption)) ?_
        refine AE_cel (by assumption) (by rfl) (by rfl) ?_
        refine AEs_nil ?_
        refine ⟨rfl, (named_fn prog w a ha).mono fun d e => ?_⟩
        subst e
        refine ATru_bool ?_
        refine ite_of (fun h4 => ?_) (fun h4 => ?_)
        · refine ABo_last ?_
          refine AE_def (by assumption) 1 rfl rfl rfl ?_ (by decide)
          refine AEs_cons (In.ok (by assumption)) ?_
          refine AE_Slice (In.ok (by assumption)) ?_
          refine AE_cel (by assumption) (by rfl) (by rfl) ?_
          refine AOpt_some ?_
          refine AE_int (In.ok (by assumption)) ?_
          refine exInt ?_
          refine AOpt_none ?_
          refine ASl_str (In.ok (by assumption)) ?hs ?_
          case hs => assumption
          refine AEs_nil ?_
          rw [slice_one]
          refine ⟨rfl, (named_fn prog w r (by simp at hb; omega)).mono fun d e => ?_⟩
          subst e
          refine ⟨?_, rfl⟩
          rw [h4, h2]; rfl
        · refine ⟨?_, rfl⟩
          rw [h4]; rfl
      · refine ⟨?_, rfl⟩
        have : (b.head? == some 46) = false := by
          rw [beq_eq_false_iff_ne]
          intro e
          have h3' := of_decide_eq_false h3
          cases b with
          | nil => cases e
          | cons c r => cases e; exact h3' rfl
        rw [h3, this, Bool.and_false, Bool.false_and]
    · refine ⟨?_, rfl⟩
      rw [h2]
      cases b with
      | nil => simp
      | cons c r =>
        rw [occ_range a (c :: r) (by simp)] at h2
        rw [h2, Bool.and_false, Bool.false_and, Bool.false_and]

theorem lkm_nil {m : List (Str × PV)} {f : PV → PV} : ∀ x d, ([] : List (Str × PV)).lookup x = some d → (m.lookup x).map f = some d := fun _ _ h => nomatch h
theorem lkm_cons {m m' : List (Str × PV)} {f : PV → PV} {x : Str} {d : PV} (h : (m.lookup x).map f = some d) (hr : ∀ x d, m'.lookup x = some d → (m.lookup x).map f = some d) : ∀ y e, ((x, d) :: m').lookup y = some e → (m.lookup y).map f = some e := fun y e hy => by
  rw [List.lookup_cons] at hy
  cases q : y == x with
  | true =>
    rw [q] at hy
    cases hy
    have : y = x := by simpa using q
    rw [this]; exact h
  | false => rw [q] at hy; exact hr y e hy
def sgD2 (d : PyData) : Option PyData := match d with
  | .int i => some (.str (S (sg02 i)))
  | _ => none
theorem sgD2_map (zs : List Int) : (zs.map PyData.int).filterMap sgD2 = ((zs.map sg02).map S).map PyData.str := by
  induction zs with
  | nil => rfl
  | cons a b ih => rw [List.map_cons, List.filterMap_cons, ih]; rfl
theorem sg02_len (x : Int) : (sg02 x).length = 1 := by unfold sg02; split <;> rfl
theorem sg02_sum (zs : List Int) : (((zs.map sg02).map S).map (·.length)).sum = zs.length := by
  induction zs with
  | nil => rfl
  | cons a b ih => simp only [List.map_cons, List.sum_cons, S_len, sg02_len, List.length_cons, ih]; omega
theorem sg02_flat (zs : List Int) : ((zs.map sg02).flatten).length = zs.length := by
  induction zs with
  | nil => rfl
  | cons a b ih => simp only [List.map_cons, List.flatten_cons, List.length_append, sg02_len, List.length_cons, ih]; omega
def twoD (p : Str × Str) : PyData := .tuple [.str p.1, .str p.2]
def cutD (x : Str) (d : PyData) : Option PyData := match d with
  | .int k => some (twoD (Txt.slice x none (some k), Txt.slice x (some k) none))
  | _ => none
def swD (x : Str) (i : Int) (d : PyData) : Option PyData := match d with
  | .int j => some (twoD (x, Txt.swapcase (Txt.slice x (some i) (some j))))
  | _ => none
theorem cut_map (x : Str) (l : List Int) : (l.map PyData.int).filterMap (cutD x) = (l.map fun k => (Txt.slice x none (some k), Txt.slice x (some k) none)).map twoD := by
  induction l with
  | nil => rfl
  | cons a b ih => rw [List.map_cons, List.filterMap_cons, ih]; rfl
theorem sw_map (x : Str) (i : Int) (l : List Int) : (l.map PyData.int).filterMap (swD x i) = (l.map fun j => (x, Txt.swapcase (Txt.slice x (some i) (some j)))).map twoD := by
  induction l with
  | nil => rfl
  | cons a b ih => rw [List.map_cons, List.filterMap_cons, ih]; rfl
theorem rng_ints (a b : Int) : rngItems a b 1 = ((List.range (b - a).toNat).map fun k : Nat => a + (k : Int)).map PyData.int := by
  rw [rngItems_one, List.map_map]; rfl
theorem small_c {a b : Int} (h0 : 0 ≤ a) (h1 : a ≤ 100000) (h2 : 0 ≤ b) (h3 : b ≤ 100000) : Builtin.Range.small a b 1 = true := small_one (by omega) (by omega) (by omega) (by omega)
abbrev twP (ps : List (Str × Str)) : List PV := ps.map fun p => .dat (twoD p)
theorem law_fn (prog : Program) (w : World) (ns : List Int) (hns : ns.length ≤ 63) : LawFn prog w (WW w) 72 8 ns := by
  intro A s g X vs hroom h1 h2 h3 h4 hX hr
  refine Fn.core (n := 7) (fd := _) (body := _) (ps := ["script"]) (Q := fun d => d = pbool true) (args := [plist (ns.map .int)]) (fun h b => Base.fn b (fd := _) rfl) (fun h b => Base.lim b) (fun h b => Base.code b rfl) rfl (fun vs hv => ?_) rfl (by decide) ?_ ?_ rfl rfl rfl rfl rfl rfl A s g X vs hroom h1 h2 h3 h4 (.inr ⟨_, _, rfl, rfl⟩) hX hr
  · obtain ⟨v, rfl⟩ := len_one hv; rfl
  · intro x hx
    simp only [List.mem_singleton] at hx
    subst hx
    exact .inl rfl
  · clear hroom h1 h2 h3 h4 hX hr A s g X vs
    intro C hIn
    dsimp only at hIn ⊢
    have hnl : (ns.map PyData.int).length ≤ sizeLine := by rw [List.length_map, sizeLine_eq]; omega
    refine AS_cons (AX_Assign ?_)
    refine AE_Slice (In.ok (by assumption)) ?_
    refine AE_loc (by assumption) (by rfl) (by rfl) ?_
    refine AOpt_none ?_
    refine AOpt_some ?_
    refine AE_int (In.ok (by assumption)) ?_
    refine exInt ?_
    refine ASl_list (In.ok (by assumption)) ?hs ?_
    case hs => assumption
    refine ASt_loc (by assumption) (by rfl) ?_
    refine SeqQ.next ?_
    rw [slc_map]
    generalize hzs : slc none (some 24) ns = zs
    have hzl : zs.length ≤ 24 := by rw [← hzs, show (24 : Int) = ((24 : Nat) : Int) from rfl, slc_take, List.length_take]; omega
    refine AS_cons (AX_Assign ?_)
    refine AE_meth (id := "str.join") (In.ok (by assumption)) ?_
    refine AE_str (In.ok (by assumption)) ?_
    refine ⟨AGm_join, ?_⟩
    refine AEs_cons (In.ok (by assumption)) ?_
    refine AE_Comp hIn [] rfl ?_
    refine AE_loc (by assumption) (by rfl) (by rfl) ?_
    dsimp only
    refine ⟨_, sgD2, AItr_list, CapOk.nil, by rw [List.length_map, sizeLine_eq]; omega, ?_, ?_⟩
    · intro C' hIn' y hy l'
      obtain ⟨i, hi, rfl⟩ := List.mem_map.mp hy
      refine AIfs_nil ?_
      rw [if_pos rfl]
      refine AE_def (by assumption) 1 rfl rfl rfl ?_ (by decide)
      refine AEs_cons (In.ok (by assumption)) ?_
      refine AE_loc (by assumption) (by rfl) (by rfl) ?_
      refine AEs_nil ?_
      refine ⟨rfl, (sign_fn prog w _).mono fun d e => ?_⟩
      subst e
      exact ⟨rfl, _, rfl, rfl⟩
    rw [sgD2_map]
    refine AEs_nil ?_
    refine ACall_join hIn.ok (by
      have := sg02_sum zs
      rw [show ("" : Str) = S [] from rfl, S_len]
      simp only [List.length_nil, Nat.mul_zero]
      omega) ?_
    rw [show ("" : Str) = S [] from rfl, join_nil]
    have hfl := sg02_flat zs
    generalize (zs.map sg02).flatten = T at hfl ⊢
    generalize hx : S T = x
    have hxl : x.length ≤ 24 := by rw [← hx, S_len]; omega
    have hxs : x.length ≤ sizeLine := by rw [sizeLine_eq]; omega
    clear hx hfl hzs hzl hnl
    refine ASt_cel (by assumption) (by rfl) ?_
    refine SeqQ.next ?_
    refine AS_cons (AX_AsgCompOwn hIn [("text", pstr x)] rfl rfl rfl rfl ?_)
    refine AE_ty (by assumption) (by rfl) (by rfl) (by rfl) ?_
    refine AEs_cons (In.ok (by assumption)) ?_
    refine AE_BinOp (In.ok (by assumption)) ?_
    refine AE_bi (by assumption) (by rfl) (by rfl) (by rfl) ?_
    refine AEs_cons (In.ok (by assumption)) ?_
    refine AE_cel (by assumption) (by rfl) (by rfl) ?_
    refine AEs_nil ?_
    refine ACall_lenS (In.ok (by assumption)) ?hs ?_
    case hs => assumption
    refine AE_int (In.ok (by assumption)) ?_
    refine ABin_addI (In.ok (by assumption)) ?_
    refine AEs_nil ?_
    refine ACall_range1 (In.ok (by assumption)) ?_
    dsimp only
    refine ⟨_, cutD x, AItr_rng (small_c (by decide) (by decide) (by omega) (by omega)), CapOk.cons rfl rfl rfl rfl CapOk.nil, by rw [rng_ints, List.length_map, List.length_map, List.length_range, sizeLine_eq]; omega, ?_, ?_⟩
    · intro C' hIn' y hy l'
      rw [rng_ints] at hy
      obtain ⟨k, hk, rfl⟩ := List.mem_map.mp hy
      refine AIfs_nil ?_
      rw [if_pos rfl]
      refine AE_Tuple (In.ok (by assumption)) ?_
      refine AEs_cons (In.ok (by assumption)) ?_
      refine AE_Slice (In.ok (by assumption)) ?_
      refine AE_cel (by assumption) (by rfl) (by rfl) ?_
      refine AOpt_none ?_
      refine AOpt_some ?_
      refine AE_loc (by assumption) (by rfl) (by rfl) ?_
      refine exInt ?_
      refine ASl_str (In.ok (by assumption)) ?hs ?_
      case hs => assumption
      refine AEs_cons (In.ok (by assumption)) ?_
      refine AE_Slice (In.ok (by assumption)) ?_
      refine AE_cel (by assumption) (by rfl) (by rfl) ?_
      refine AOpt_some ?_
      refine AE_loc (by assumption) (by rfl) (by rfl) ?_
      refine exInt ?_
      refine AOpt_none ?_
      refine ASl_str (In.ok (by assumption)) ?hs ?_
      case hs => assumption
      refine AEs_nil ?_
      refine ⟨Nat.le_of_ble_eq_true rfl, [_, _], rfl, ?_⟩
      exact ⟨rfl, _, rfl, rfl⟩
    rw [rng_ints, cut_map]
    generalize hp0 : (((List.range ((x.length : Int) + 1 - 0).toNat).map fun k : Nat => (0 : Int) + (k : Int)).map fun k => (Txt.slice x none (some k), Txt.slice x (some k) none)) = p0
    have hp0l : p0.length ≤ 25 := by rw [← hp0, List.length_map, List.length_map, List.length_range]; omega
    have hp0s : ∀ p ∈ p0, p.1.length ≤ 100 ∧ p.2.length ≤ 100 := by
      intro p hp
      rw [← hp0] at hp
      obtain ⟨k, _, rfl⟩ := List.mem_map.mp hp
      have h1 := Txt.slice_le x none (some k)
      have h2 := Txt.slice_le x (some k) none
      dsimp only
      exact ⟨by omega, by omega⟩
    refine ASt_loc (by assumption) (by rfl) ?_
    refine SeqQ.next ?_
    refine AS_cons (AX_For hIn.ok ?_)
    refine AE_ty (by assumption) (by rfl) (by rfl) (by rfl) ?_
    refine AEs_cons (In.ok (by assumption)) ?_
    refine AE_BinOp (In.ok (by assumption)) ?_
    refine AE_bi (by assumption) (by rfl) (by rfl) (by rfl) ?_
    refine AEs_cons (In.ok (by assumption)) ?_
    refine AE_cel (by assumption) (by rfl) (by rfl) ?_
    refine AEs_nil ?_
    refine ACall_lenS (In.ok (by assumption)) ?hs ?_
    case hs => assumption
    refine AE_int (In.ok (by assumption)) ?_
    refine ABin_addI (In.ok (by assumption)) ?_
    refine AEs_nil ?_
    refine ACall_range1 (In.ok (by assumption)) ?_
    refine ⟨_, AItr_rng (small_c (by decide) (by decide) (by omega) (by omega)), fun r st => ∃ (m : Nat) (y : Int) (ps : List (Str × Str)), r = (List.range m).map (fun k : Nat => PyData.int (y + k * 1)) ∧ 0 ≤ y ∧ y + m ≤ 25 ∧ ps.length + 25 * m ≤ 700 ∧ (∀ p ∈ ps, p.1.length ≤ 100 ∧ p.2.length ≤ 100) ∧
      st = ⟨[("text", pstr x), ("pairs", .own 0)], [some (twP ps)]⟩, ⟨_, ⟨?_, lk_cons rfl (lk_cons rfl lk_nil)⟩, x.length + 1, 0, p0, ?_, by decide, by omega, by omega, hp0s, rfl⟩, ?_, ?_⟩
    · show [some (twP p0)] = [some ((p0.map twoD).map PV.dat)]
      rw [List.map_map]; rfl
    · unfold rngItems
      have : (Builtin.Range.rangeSize 0 ((x.length : Int) + 1) 1).toNat = x.length + 1 := by
        unfold Builtin.Range.rangeSize
        simp only [show (1 : Int) > 0 by decide, if_true]
        split <;> omega
      rw [this]
    · rintro y r st ⟨m, i, ps, hr, hi0, hi1, hpl, hps, rfl⟩
      cases m with
      | zero => cases hr
      | succ m =>
        rw [range_cons] at hr
        simp only [List.cons.injEq] at hr
        obtain ⟨rfl, rfl⟩ := hr
        intro J hJ
        refine AAsg_name ?_
        refine ASt_cel (by assumption) (by rfl) ?_
        refine AS_cons (AX_ExprI hIn.ok ?_)
        refine AE_meth (id := "list.extend") (In.ok (by assumption)) ?_
        refine AE_loc (by assumption) (by rfl) (by rfl) ?_
        refine ⟨AGm_extend (by rfl), ?_⟩
        refine AEs_cons hIn.ok ?_
        refine AE_Comp hIn [("text", pstr x), ("i", pint i)] rfl ?_
        refine AE_ty (by assumption) (by rfl) (by rfl) (by rfl) ?_
        refine AEs_cons (In.ok (by assumption)) ?_
        refine AE_cel (by assumption) (by rfl) (by rfl) ?_
        refine AEs_cons (In.ok (by assumption)) ?_
        refine AE_BinOp (In.ok (by assumption)) ?_
        refine AE_bi (by assumption) (by rfl) (by rfl) (by rfl) ?_
        refine AEs_cons (In.ok (by assumption)) ?_
        refine AE_cel (by assumption) (by rfl) (by rfl) ?_
        refine AEs_nil ?_
        refine ACall_lenS (In.ok (by assumption)) ?hs ?_
        case hs => assumption
        refine AE_int (In.ok (by assumption)) ?_
        refine ABin_addI (In.ok (by assumption)) ?_
        refine AEs_nil ?_
        refine ACall_range2 (In.ok (by assumption)) ?_
        dsimp only
        refine ⟨_, swD x i, AItr_rng (small_c (by omega) (by omega) (by omega) (by omega)), CapOk.cons rfl rfl rfl rfl (CapOk.cons rfl rfl rfl rfl CapOk.nil), by rw [rng_ints, List.length_map, List.length_map, List.length_range, sizeLine_eq]; omega, ?_, ?_⟩
        · intro C' hIn' y hy l'
          rw [rng_ints] at hy
          obtain ⟨k, hk, rfl⟩ := List.mem_map.mp hy
          have h1 := Txt.slice_le x (some i) (some k)
          refine AIfs_nil ?_
          rw [if_pos rfl]
          refine AE_Tuple (In.ok (by assumption)) ?_
          refine AEs_cons (In.ok (by assumption)) ?_
          refine AE_cel (by assumption) (by rfl) (by rfl) ?_
          refine AEs_cons (In.ok (by assumption)) ?_
          refine AE_meth (id := "str.swapcase") (In.ok (by assumption)) ?_
          refine AE_Slice (In.ok (by assumption)) ?_
          refine AE_cel (by assumption) (by rfl) (by rfl) ?_
          refine AOpt_some ?_
          refine AE_cel (by assumption) (by rfl) (by rfl) ?_
          refine exInt ?_
          refine AOpt_some ?_
          refine AE_loc (by assumption) (by rfl) (by rfl) ?_
          refine exInt ?_
          refine ASl_str (In.ok (by assumption)) ?hs ?_
          case hs => assumption
          refine ⟨AGm_swapcase, ?_⟩
          refine AEs_nil ?_
          refine ACall_swapcase (In.ok (by assumption)) ?hs ?_
          case hs => omega
          refine AEs_nil ?_
          refine ⟨Nat.le_of_ble_eq_true rfl, [_, _], rfl, ?_⟩
          exact ⟨rfl, _, rfl, rfl⟩
        rw [rng_ints, sw_map]
        generalize hp1 : (((List.range ((x.length : Int) + 1 - i).toNat).map fun k : Nat => i + (k : Int)).map fun j => (x, Txt.swapcase (Txt.slice x (some i) (some j)))) = p1
        have hp1l : p1.length ≤ 25 := by rw [← hp1, List.length_map, List.length_map, List.length_range]; omega
        have hp1s : ∀ p ∈ p1, p.1.length ≤ 100 ∧ p.2.length ≤ 100 := by
          intro p hp
          rw [← hp1] at hp
          obtain ⟨k, _, rfl⟩ := List.mem_map.mp hp
          have h1 := Txt.slice_le x (some i) (some k)
          have h2 := len_swapcase (Txt.slice x (some i) (some k))
          dsimp only
          exact ⟨by omega, by omega⟩
        refine AEs_nil ?_
        refine ACall_extend hIn.ok (by rfl) (by rw [List.length_map, List.length_map, sizeLine_eq]; omega) ?_
        refine SeqQ.next ?_
        refine AS_nil ?_
        refine ForQ.next (by assumption) ?_
        refine ⟨_, ⟨?_, lk_cons rfl (lk_cons rfl lk_nil)⟩, m, i + 1, ps ++ p1, ?_, by omega, by omega, by rw [List.length_append]; omega, ?_, rfl⟩
        · show [some (twP (ps ++ p1))] = [some (twP ps ++ (p1.map twoD).map PV.dat)]
          unfold twP
          rw [List.map_append, List.map_map]; rfl
        · rfl
        · intro p hp
          rcases List.mem_append.mp hp with h | h
          · exact hps p h
          · exact hp1s p h
    · rintro st ⟨m, i, ps, hr, hi0, hi1, hpl, hps, rfl⟩
      refine AG.freezeTo hIn.ok (i := 0) (xs := ps.map twoD) ⟨[("pairs", plist (ps.map twoD))], [none]⟩ ?_ (lkm_cons rfl lkm_nil) rfl ?_
      · rw [List.map_map]; rfl
      refine AS_cons (AX_For hIn.ok ?_)
      refine AE_loc (by assumption) (by rfl) (by rfl) ?_
      refine ⟨_, AItr_list, fun r st => ∃ us : List (Str × Str), r = us.map twoD ∧ (∀ p ∈ us, p.1.length ≤ 100 ∧ p.2.length ≤ 100) ∧ st = ⟨[], [none]⟩, ⟨_, Wk.of lk_nil, ps, rfl, hps, rfl⟩, ?_, ?_⟩
      · rintro y r st ⟨us, hr, hus, rfl⟩
        cases us with
        | nil => cases hr
        | cons p us =>
          simp only [List.map_cons, List.cons.injEq] at hr
          obtain ⟨rfl, rfl⟩ := hr
          obtain ⟨H, D⟩ := p
          obtain ⟨hH, hD⟩ := hus _ List.mem_cons_self
          dsimp only at hH hD
          have hlH := len_lower H
          have hlD := len_lower D
          intro J hJ
          refine AAsg_tuple hIn.ok ?_ rfl
          show AAsg _ _ _ _ _
          refine AAsg_name ?_
          refine ASt_loc (by assumption) (by rfl) ?_
          dsimp only
          show AAsg _ _ _ _ _
          refine AAsg_name ?_
          refine ASt_loc (by assumption) (by rfl) ?_
          show AS _ _ _ _
          refine AS_cons (AX_Assign ?_)
          refine AE_def (by assumption) 2 rfl rfl rfl ?_ (by decide)
          refine AEs_cons (In.ok (by assumption)) ?_
          refine AE_loc (by assumption) (by rfl) (by rfl) ?_
          refine AEs_cons (In.ok (by assumption)) ?_
          refine AE_loc (by assumption) (by rfl) (by rfl) ?_
          refine AEs_nil ?_
          refine ⟨rfl, (dm_fn prog w H D (by omega) (by omega)).mono fun d e => ?_⟩
          subst e
          refine ASt_loc (by assumption) (by rfl) ?_
          refine SeqQ.next ?_
          obtain ⟨a, ha⟩ : ∃ a, Txt.lower H = S a := ⟨_, S_eta _⟩
          obtain ⟨b, hb⟩ : ∃ b, Txt.lower D = S b := ⟨_, S_eta _⟩
          have hal : a.length ≤ 1000 := by rw [← S_len, ← ha]; omega
          have hbl : b.length ≤ 1000 := by rw [← S_len, ← hb]; omega
          refine AS_cons (AX_If ?_)
          refine AG.eq false ?_ ?_
          · refine AT_BoolOp (AAll_or ?_)
            refine AT_Compare (In.ok (by assumption)) ?_
            refine AE_loc (by assumption) (by rfl) (by rfl) ?_
            refine AE_def (by assumption) 2 rfl rfl rfl ?_ (by decide)
            refine AEs_cons (In.ok (by assumption)) ?_
            refine AE_meth (id := "str.lower") (In.ok (by assumption)) ?_
            refine AE_loc (by assumption) (by rfl) (by rfl) ?_
            refine ⟨AGm_lower, ?_⟩
            refine AEs_nil ?_
            refine ACall_lower (In.ok (by assumption)) ?hs ?_
            case hs => omega
            refine AEs_cons (In.ok (by assumption)) ?_
            refine AE_meth (id := "str.lower") (In.ok (by assumption)) ?_
            refine AE_loc (by assumption) (by rfl) (by rfl) ?_
            refine ⟨AGm_lower, ?_⟩
            refine AEs_nil ?_
            refine ACall_lower (In.ok (by assumption)) ?hs ?_
            case hs => omega
            refine AEs_nil ?_
            rw [ha, hb]
            refine ⟨rfl, (matches_fn prog w a b hal hbl).mono fun d e => ?_⟩
            subst e
            refine ACmp_neB ?_
            rw [dmatch_eq H D a b ha hb]
            refine ATru_bool ?_
            rw [show (dmL a b != dmL a b) = false by simp]
            refine iteF ?_
            refine AAll_or ?_
            refine AT_not ?_
            refine AT_plain ?_
            refine AE_bi (by assumption) (by rfl) (by rfl) (by rfl) ?_
            refine AEs_cons (In.ok (by assumption)) ?_
            refine AE_loc (by assumption) (by rfl) (by rfl) ?_
            refine AEs_cons (In.ok (by assumption)) ?_
            refine AE_gB (by assumption) (by rfl) (by rfl) (by rfl) ?_
            refine AEs_nil ?_
            dsimp only
            refine ACall_isiB ?_
            refine ATru_bool ?_
            refine AAll_nil ⟨rfl, rfl⟩
          refine iteF ?_
          refine AS_nil ?_
          refine SeqQ.next ?_
          refine AS_nil ?_
          refine ForQ.next (by assumption) ?_
          exact ⟨_, Wk.of lk_nil, us, rfl, fun p hp => hus p (List.mem_cons_of_mem _ hp), rfl⟩
      · rintro st ⟨us, hr, hus, rfl⟩
        refine SeqQ.next ?_
        refine AS_cons ?_
        refine AX_Return ?_
        refine AE_bool (In.ok (by assumption)) ?_
        refine SeqQ.ret ?_
        refine RetQ.ret ?_
        exact ⟨rfl, rfl⟩

end Mine
end
open PySem PySem.W PyProof.Rows Mine
set_option maxRecDepth 100000 in
set_option maxHeartbeats 8000000 in
theorem PySem.Challenge.cw_dm0156_02_holds : PySem.Challenge.rw_dm0156_02.Holds := by
  refine Mine.hd ?_
  k_fill
  intro w s₀ s₁ mg mb G Y fa o pm cd doc dV kV ho hd hcd hD hmg hg args vals as hpre hlay hrd hwl hlo
  have KX := kIn_of Y
  have X := (Ground.X G).1
  have V := (Ground.X G).2
  have GL := glob_more (Ground.glob G (by first | k_qdec | decide +kernel) (by first | k_qdec | decide +kernel)) V
  refine Ground.open G ?_
  intro T B D TE TW
  try (refine guard_noD D (by decide +kernel) ?_; clear D)
  wrow_args hpre hlay hrd hwl hlo
  first | refine callC_kw (enter_call ?_) | refine enter_call ?_ | refine callC_kw (enter_callW ?_) | refine enter_callW ?_ | w_how
  w_top on
  try refine codeAny_mono ?_ (fun _ _ g => GoodW.toG g)
  clear hd hcd
  rename_i ns _ _ _ _ _ _ _ l _ _ _ _ _ r0 _ _ hlen _
  have bs : Base (KK w) s₁.heap := ⟨KX, GL.nolimit, ⟨mg, GL.g⟩, ⟨mb, GL.b, GL.builtins⟩, (let ⟨mc, h, _⟩ := GL.digits; ⟨mc, h⟩), (let ⟨bm, ob, h1, h2, h3, h4⟩ := T.bmain; ⟨mg, bm, ob, GL.g, h1, h2, h3, h4⟩)⟩
  have e : mg "law" = some (.ref 72) := ns_some_of KX GL.g rfl
  have hmg' : mg "law" = some (.ref fa) := hmg
  rw [hmg'] at e
  cases e
  refine codeAny_mono (law_fn _ w ns (by omega) callerA s₁ s₁.heap (fun _ => False) [.ref l] ?_ (fun _ _ e => e) bs (fun _ h => nomatch h) (lamTabs_new fun _ h => nomatch h) (fun _ h => h.elim) ⟨⟨_, r0, fun _ _ q => q.elim id (fun h => nomatch h), nodAll_int ns⟩, trivial⟩) (fun r s' ⟨v, d, h, tk, hr, hs, hk, hok, htk, hrep, hq⟩ => ?_)
  · exact ⟨rfl, by decide, by decide⟩
  · subst hr hs hq
    cases rep_bool hrep
    exact ⟨.inl ⟨.bool true, .bool true, [], rfl, fun cls => rfl, .bool _, (by wrow_post), fun _ => ⟨List.nodup_nil, fun _ h => nomatch h⟩⟩, hk, rfl, hg⟩
