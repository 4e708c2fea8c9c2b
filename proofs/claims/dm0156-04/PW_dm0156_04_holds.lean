import PyProof.Rows.All
import Wide.All
import OpenK.AllK
import Wide.FinOn
import PySem.Challenge.RW_dm0156_04
set_option Elab.async false

section
open PySem PySem.W PyProof.Rows PySem.Calls
namespace Mine
set_option linter.all false

/-! abstract values -/
inductive PV where
  | dat (d : PyData)
  | own (i : Nat)
  | val (v : Value)
  | mt (x : Str) (sp : List Int)
  | rng (a b c : Int)

def IsMatch (h : Heap) (v : Value) (x : Str) (sp : List Int) : Prop :=
  ∃ a o t pv p l li b, v = .ref a ∧ h.get? a = some o ∧ o.cls = .type "re.Match" ∧ o.data = .fields #[.str x t, pv, p, l, li, .ref b] ∧ h.IsTuple b (sp.map rawInt).toArray

/-! no dict within -/
mutual
def nod : PyData → Bool
  | .dict _ => false
  | .list xs => nodAll xs
  | .tuple xs => nodAll xs
  | _ => true
def nodAll : List PyData → Bool
  | [] => true
  | x :: r => nod x && nodAll r
end

def Rep (h : Heap) (ρ : List Addr) (O : Addr → Prop) (v : Value) : PV → Prop
  | .dat d => ∃ as, Reads h v d as ∧ (∀ a ∈ as, ¬ O a) ∧ nod d = true
  | .own i => ∃ a, ρ[i]? = some a ∧ v = .ref a
  | .val u => v = u
  | .mt x sp => IsMatch h v x sp
  | .rng a b c => ∃ r t u q, v = .ref r ∧ IsRange h r a b c t u q

def RepAll (h : Heap) (ρ : List Addr) (O : Addr → Prop) : List Value → List PV → Prop
  | [], [] => True
  | v :: vs, d :: ds => Rep h ρ O v d ∧ RepAll h ρ O vs ds
  | _, _ => False

/-- what may be written: a frame's names, a cell, a list -/
def Soft (o : Obj) : Prop := (∃ es n, o.data = .dict es n) ∨ (∃ v, o.data = .cell v) ∨ (o.cls = .type "list" ∧ ∃ vs n, o.data = .seq vs n)

structure Ctx where
  prog : Program
  w : World
  A : Around
  env : Env
  s₀ : Shared
  X : Addr → Prop

structure St where
  m : List (Str × PV)
  σ : List (Option (List PV))

def Mut (C : Ctx) (σ : List (Option (List PV))) (ρ : List Addr) (a : Addr) : Prop :=
  a = C.env.locals ∨ (∃ x, C.env.cells.lookup x = some a) ∨ C.X a ∨ ∃ (i : Nat) (l : List PV), σ[i]? = some (some l) ∧ ρ[i]? = some a

structure Inv (C : Ctx) (st : St) (ρ : List Addr) (s : Shared) : Prop where
  same : ∃ h tk, s = { C.s₀ with heap := h, toks := tk }
  keep : ∀ b o, C.s₀.heap.get? b = some o → s.heap.get? b = some o
  tok : C.s₀.toks ≤ s.toks
  ns : ∃ m, s.heap.Ns C.env.locals m ∧ ∀ x d, st.m.lookup x = some d → C.env.kindOf x = some .local → ∃ v, m x = some v ∧ Rep s.heap ρ (Mut C st.σ ρ) v d
  cell : ∀ x c, C.env.cells.lookup x = some c → ∃ u, s.heap.IsCell c u ∧ ∀ d, st.m.lookup x = some d → C.env.kindOf x = some .cell → ∃ v, u = some v ∧ Rep s.heap ρ (Mut C st.σ ρ) v d
  own : ∀ (i : Nat) (l : List PV), st.σ[i]? = some (some l) → ∃ (a : Addr) (vs : List Value), ρ[i]? = some a ∧ s.heap.PlainList a vs.toArray ∧ RepAll s.heap ρ (Mut C st.σ ρ) vs l ∧ C.s₀.heap.get? a = none
  inj : ∀ (i j : Nat) (a : Addr) (l l' : List PV), st.σ[i]? = some (some l) → st.σ[j]? = some (some l') → ρ[i]? = some a → ρ[j]? = some a → i = j
  len : ρ.length = st.σ.length

/-- what a context brings along, once for all -/
structure Ok (C : Ctx) : Prop where
  kind : C.env.scope.kind = .function
  globals : C.env.globals = mainGlobals
  builtins : C.env.builtins = builtinsNs
  fresh : C.s₀.heap.get? C.env.locals = none
  soft : ∀ a, C.X a → ∃ o, C.s₀.heap.get? a = some o ∧ Soft o
  handled : C.A.handled = none
  tok : 0 < C.s₀.toks
  capart : ∀ x y c, C.env.cells.lookup x = some c → C.env.cells.lookup y = some c → x = y

structure Le (C : Ctx) (st : St) (ρ : List Addr) (s : Shared) (st' : St) (ρ' : List Addr) (s' : Shared) : Prop where
  keep : ∀ a o, s.heap.get? a = some o → ¬ Mut C st.σ ρ a → s'.heap.get? a = some o ∧ ¬ Mut C st'.σ ρ' a
  rho : ∀ (i : Nat) (a : Addr), ρ[i]? = some a → ρ'[i]? = some a
  ex : ∀ a o, s.heap.get? a = some o → ∃ o', s'.heap.get? a = some o'

theorem Le.refl {C : Ctx} {st : St} {ρ : List Addr} {s : Shared} : Le C st ρ s st ρ s := ⟨fun _ _ h n => ⟨h, n⟩, fun _ _ h => h, fun _ o h => ⟨o, h⟩⟩
theorem Le.trans {C : Ctx} {st st' st'' : St} {ρ ρ' ρ'' : List Addr} {s s' s'' : Shared} (x : Le C st ρ s st' ρ' s') (y : Le C st' ρ' s' st'' ρ'' s'') : Le C st ρ s st'' ρ'' s'' :=
  ⟨fun a o h n => y.keep a o (x.keep a o h n).1 (x.keep a o h n).2, fun i a h => y.rho i a (x.rho i a h), fun a o h => let ⟨o', h'⟩ := x.ex a o h; y.ex a o' h'⟩

mutual
theorem reads_step {h h' : Heap} {O : Addr → Prop} (hO : ∀ a o, O a → h.get? a = some o → Soft o) (hk : ∀ a o, h.get? a = some o → ¬ O a → h'.get? a = some o) :
    ∀ {v : Value} {d : PyData} {as : List Addr}, Reads h v d as → (∀ a ∈ as, ¬ O a) → Reads h' v d as
  | _, _, _, .none, _ => .none
  | _, _, _, .bool b, _ => .bool b
  | _, _, _, .int i t, _ => .int i t
  | _, _, _, .str x t, _ => .str x t
  | _, _, _, .list h1 h2 h3 h4, n => .list (hk _ _ h1 (n _ List.mem_cons_self)) h2 h3 (readsAll_step hO hk h4 fun a ha => n a (List.mem_cons_of_mem _ ha))
  | _, _, _, .tuple h1 h2 h3 h4, n => .tuple (hk _ _ h1 (fun q => by
      rcases hO _ _ q h1 with ⟨_, _, e⟩ | ⟨_, e⟩ | ⟨e, _⟩
      · rw [h3] at e; cases e
      · rw [h3] at e; cases e
      · rw [h2] at e; exact absurd e (by decide))) h2 h3 (readsAll_step hO hk h4 n)
  | _, _, _, .dict h1 h2 h3 h4 h5, n => .dict (hk _ _ h1 (n _ (by simp))) h2 h3 (readsAll_step hO hk h4 fun a ha => n a (by simp [ha])) (readsAll_step hO hk h5 fun a ha => n a (by simp [ha]))
theorem readsAll_step {h h' : Heap} {O : Addr → Prop} (hO : ∀ a o, O a → h.get? a = some o → Soft o) (hk : ∀ a o, h.get? a = some o → ¬ O a → h'.get? a = some o) :
    ∀ {vs : List Value} {ds : List PyData} {as : List Addr}, ReadsAll h vs ds as → (∀ a ∈ as, ¬ O a) → ReadsAll h' vs ds as
  | _, _, _, .nil, _ => .nil
  | _, _, _, .cons h1 h2, n => .cons (reads_step hO hk h1 fun a ha => n a (List.mem_append_left _ ha)) (readsAll_step hO hk h2 fun a ha => n a (List.mem_append_right _ ha))
end
mutual
theorem reads_has {h : Heap} : ∀ {v : Value} {d : PyData} {as : List Addr}, Reads h v d as → ∀ a ∈ as, ∃ o, h.get? a = some o
  | _, _, _, .none, _, h => nomatch h
  | _, _, _, .bool b, _, h => nomatch h
  | _, _, _, .int i t, _, h => nomatch h
  | _, _, _, .str x t, _, h => nomatch h
  | _, _, _, .list h1 h2 h3 h4, a, h => by
    rcases List.mem_cons.mp h with rfl | h
    · exact ⟨_, h1⟩
    · exact readsAll_has h4 a h
  | _, _, _, .tuple h1 h2 h3 h4, a, h => readsAll_has h4 a h
  | _, _, _, .dict h1 h2 h3 h4 h5, a, h => by
    rcases List.mem_append.mp h with h | h
    · rcases List.mem_cons.mp h with rfl | h
      · exact ⟨_, h1⟩
      · exact readsAll_has h4 a h
    · exact readsAll_has h5 a h
theorem readsAll_has {h : Heap} : ∀ {vs : List Value} {ds : List PyData} {as : List Addr}, ReadsAll h vs ds as → ∀ a ∈ as, ∃ o, h.get? a = some o
  | _, _, _, .nil, _, h => nomatch h
  | _, _, _, .cons h1 h2, a, h => by
    rcases List.mem_append.mp h with h | h
    · exact reads_has h1 a h
    · exact readsAll_has h2 a h
end

/-- from one world to a later one -/
structure Grow (h : Heap) (ρ : List Addr) (O : Addr → Prop) (h' : Heap) (ρ' : List Addr) (O' : Addr → Prop) : Prop where
  soft : ∀ a o, O a → h.get? a = some o → Soft o
  keep : ∀ a o, h.get? a = some o → ¬ O a → h'.get? a = some o ∧ ¬ O' a
  rho : ∀ (i : Nat) (a : Addr), ρ[i]? = some a → ρ'[i]? = some a

theorem Rep.grow {h h' : Heap} {ρ ρ' : List Addr} {O O' : Addr → Prop} (g : Grow h ρ O h' ρ' O') {v : Value} : ∀ {d : PV}, Rep h ρ O v d → Rep h' ρ' O' v d
  | .dat _, ⟨as, r, n, hd⟩ => ⟨as, reads_step g.soft (fun a o e q => (g.keep a o e q).1) r n, fun a ha => (by
      obtain ⟨o, ho⟩ := reads_has r a ha
      exact (g.keep a o ho (n a ha)).2), hd⟩
  | .own _, ⟨a, e, q⟩ => ⟨a, g.rho _ _ e, q⟩
  | .val _, e => e
  | .mt _ _, ⟨a, o, t, pv, p, l, li, b, e, ho, hc, hd, ob, hb, hbc, n, hbd⟩ =>
    ⟨a, o, t, pv, p, l, li, b, e, (g.keep a o ho fun q => by
      rcases g.soft _ _ q ho with ⟨_, _, e⟩ | ⟨_, e⟩ | ⟨e, _⟩
      · rw [hd] at e; cases e
      · rw [hd] at e; cases e
      · rw [hc] at e; exact absurd e (by decide)).1, hc, hd, ob, (g.keep b ob hb fun q => by
      rcases g.soft _ _ q hb with ⟨_, _, e⟩ | ⟨_, e⟩ | ⟨e, _⟩
      · rw [hbd] at e; cases e
      · rw [hbd] at e; cases e
      · rw [hbc] at e; exact absurd e (by decide)).1, hbc, n, hbd⟩
  | .rng _ _ _, ⟨r, t, u, q, e, ho⟩ => ⟨r, t, u, q, e, (g.keep r _ ho fun q => by
      rcases g.soft _ _ q ho with ⟨_, _, e⟩ | ⟨_, e⟩ | ⟨e, _⟩
      · cases e
      · cases e
      · exact absurd (show Value.type "range" = Value.type "list" from e) (by decide)).1⟩

theorem RepAll.grow {h h' : Heap} {ρ ρ' : List Addr} {O O' : Addr → Prop} (g : Grow h ρ O h' ρ' O') : ∀ {vs : List Value} {ds : List PV}, RepAll h ρ O vs ds → RepAll h' ρ' O' vs ds
  | [], [], _ => trivial
  | _ :: _, _ :: _, ⟨a, b⟩ => ⟨a.grow g, b.grow g⟩
  | [], _ :: _, h => h.elim
  | _ :: _, [], h => h.elim

theorem Inv.soft {C : Ctx} {st : St} {ρ : List Addr} {s : Shared} (hC : Ok C) (I : Inv C st ρ s) : ∀ a o, Mut C st.σ ρ a → s.heap.get? a = some o → Soft o := by
  intro a o hm ho
  rcases hm with rfl | ⟨x, hx⟩ | hx | ⟨i, l, h1, h2⟩
  · obtain ⟨m, ⟨o', es, ep, h1, h2, _⟩, _⟩ := I.ns
    rw [h1] at ho; cases ho
    exact .inl ⟨_, _, h2⟩
  · obtain ⟨u, ⟨o', h1, h2⟩, _⟩ := I.cell x a hx
    rw [h1] at ho; cases ho
    exact .inr (.inl ⟨_, h2⟩)
  · obtain ⟨o', h1, h2⟩ := hC.soft a hx
    rw [I.keep _ _ h1] at ho; cases ho
    exact h2
  · obtain ⟨a', vs, e1, ⟨n, g1⟩, _⟩ := I.own i l h1
    rw [h2] at e1; cases e1
    rw [g1] at ho; cases ho
    exact .inr (.inr ⟨rfl, _, _, rfl⟩)

theorem Inv.grow {C : Ctx} {st st' : St} {ρ ρ' : List Addr} {s s' : Shared} (hC : Ok C) (I : Inv C st ρ s) (L : Le C st ρ s st' ρ' s') : Grow s.heap ρ (Mut C st.σ ρ) s'.heap ρ' (Mut C st'.σ ρ') :=
  ⟨I.soft hC, L.keep, L.rho⟩

/-- a change that keeps all that was -/
theorem Inv.keeps {C : Ctx} {st : St} {ρ : List Addr} {s : Shared} (hC : Ok C) (I : Inv C st ρ s) {h' : Heap} {tk : Nat} (hk : ∀ b o, s.heap.get? b = some o → h'.get? b = some o) (htk : s.toks ≤ tk) :
    Inv C st ρ { s with heap := h', toks := tk } ∧ Le C st ρ s st ρ { s with heap := h', toks := tk } := by
  have L : Le C st ρ s st ρ { s with heap := h', toks := tk } := ⟨fun a o e n => ⟨hk a o e, n⟩, fun _ _ e => e, fun a o e => ⟨o, hk a o e⟩⟩
  have g := I.grow hC L
  refine ⟨⟨?_, fun b o e => hk _ _ (I.keep b o e), Nat.le_trans I.tok htk, ?_, ?_, ?_, I.inj, I.len⟩, L⟩
  · obtain ⟨h, tk', e⟩ := I.same; exact ⟨h', tk, by rw [e]⟩
  · obtain ⟨m, h1, h2⟩ := I.ns
    exact ⟨m, h1.keeps hk, fun x d e k => let ⟨v, e1, e2⟩ := h2 x d e k; ⟨v, e1, e2.grow g⟩⟩
  · intro x c hx
    obtain ⟨u, h1, h2⟩ := I.cell x c hx
    exact ⟨u, h1.keeps hk, fun d e k => let ⟨v, e1, e2⟩ := h2 d e k; ⟨v, e1, e2.grow g⟩⟩
  · intro i l hi
    obtain ⟨a, vs, e1, ⟨n, g1⟩, e3, e4⟩ := I.own i l hi
    exact ⟨a, vs, e1, ⟨n, hk _ _ g1⟩, e3.grow g, e4⟩

/-! judgements -/
abbrev RelT (α β : Type) := Heap → List Addr → (Addr → Prop) → α → β → Prop

def Post {α β : Type} (R : RelT α β) (C : Ctx) (st : St) (ρ : List Addr) (s : Shared) (Q : β → St → Prop) (v : α) (s' : Shared) : Prop :=
  ∃ d st' ρ', Inv C st' ρ' s' ∧ Le C st ρ s st' ρ' s' ∧ R s'.heap ρ' (Mut C st'.σ ρ') v d ∧ Q d st'

def NoE : Value → Shared → Prop := fun _ _ => False

def AG {α β : Type} (R : RelT α β) (C : Ctx) (t : Sem α) (st : St) (Q : β → St → Prop) : Prop :=
  ∀ s ρ, Inv C st ρ s → wpAny (model C.prog C.w) C.A t (Post R C st ρ s Q) NoE s

def BoolR : RelT Bool Bool := fun _ _ _ a b => a = b
def UnitR : RelT Unit Unit := fun _ _ _ _ _ => True

inductive Fl where
  | next | brk | cont
  | ret (d : PV)
def FlR : RelT Flow Fl := fun h ρ O f g => match f, g with
  | .next, .next => True
  | .brk, .brk => True
  | .cont, .cont => True
  | .ret v, .ret d => Rep h ρ O v d
  | _, _ => False

abbrev AV (C : Ctx) (t : Sem Value) (st : St) (Q : PV → St → Prop) : Prop := AG Rep C t st Q
abbrev AE (C : Ctx) (e : Expr) (st : St) (Q : PV → St → Prop) : Prop := AG Rep C (eval e C.env) st Q
abbrev AT (C : Ctx) (e : Expr) (st : St) (Q : Bool → St → Prop) : Prop := AG BoolR C (isTrue e C.env (eval e C.env)) st Q
abbrev AS (C : Ctx) (b : List Stmt) (st : St) (Q : Fl → St → Prop) : Prop := AG FlR C (execs b C.env) st Q
abbrev AX (C : Ctx) (b : Stmt) (st : St) (Q : Fl → St → Prop) : Prop := AG FlR C (exec b C.env) st Q

theorem Post.le {α β : Type} {R : RelT α β} {C : Ctx} {st st₁ : St} {ρ ρ₁ : List Addr} {s s₁ : Shared} {Q : β → St → Prop} (L : Le C st ρ s st₁ ρ₁ s₁) {v : α} {s' : Shared} (h : Post R C st₁ ρ₁ s₁ Q v s') : Post R C st ρ s Q v s' :=
  let ⟨d, st', ρ', h1, h2, h3, h4⟩ := h; ⟨d, st', ρ', h1, L.trans h2, h3, h4⟩

theorem AG.mono {α β : Type} {R : RelT α β} {C : Ctx} {t : Sem α} {st : St} {Q Q' : β → St → Prop} (h : AG R C t st Q) (hq : ∀ b st', Q b st' → Q' b st') : AG R C t st Q' :=
  fun s ρ I => wpAny_mono (h s ρ I) (fun _ _ ⟨d, st', ρ', h1, h2, h3, h4⟩ => ⟨d, st', ρ', h1, h2, h3, hq _ _ h4⟩) fun _ _ x => x

/-- the walk's step: a tree ahead, the rest told at its answer -/
theorem AG.bind {α β γ δ : Type} {R : RelT α β} {R' : RelT γ δ} {C : Ctx} {t : Sem α} {f : α → Sem γ} {st : St} {Q : δ → St → Prop}
    (h : AG R C t st (fun b st' => ∀ a s ρ, Inv C st' ρ s → R s.heap ρ (Mut C st'.σ ρ) a b → wpAny (model C.prog C.w) C.A (f a) (Post R' C st' ρ s Q) NoE s)) : AG R' C (t >>= f) st Q :=
  fun s ρ I => wpAny_bind (wpAny_mono (h s ρ I) (fun a s' ⟨_, _, _, h1, h2, h3, h4⟩ => wpAny_mono (h4 a s' _ h1 h3) (fun _ _ p => p.le h2) fun _ _ x => x) fun _ _ x => x)

/-- to use a judgement inside a wpAny walk -/
theorem AG.use {α β : Type} {R : RelT α β} {C : Ctx} {t : Sem α} {st : St} {Q : β → St → Prop} {s : Shared} {ρ : List Addr} (h : AG R C t st Q) (I : Inv C st ρ s) {P : α → Shared → Prop}
    (k : ∀ a s' d st' ρ', Inv C st' ρ' s' → Le C st ρ s st' ρ' s' → R s'.heap ρ' (Mut C st'.σ ρ') a d → Q d st' → P a s') : wpAny (model C.prog C.w) C.A t P NoE s :=
  wpAny_mono (h s ρ I) (fun a s' ⟨d, st', ρ', h1, h2, h3, h4⟩ => k a s' d st' ρ' h1 h2 h3 h4) fun _ _ x => x

theorem AG.ret {α β : Type} {R : RelT α β} {C : Ctx} {st : St} {Q : β → St → Prop} {a : α} {b : β} (hr : ∀ h ρ O, R h ρ O a b) (h : Q b st) : AG R C (pure a) st Q :=
  fun _ _ I => wpAny_pure ⟨b, st, _, I, .refl, hr _ _ _, h⟩

end Mine

end
section
open PySem PySem.W PyProof.Rows PySem.Calls
namespace Mine
set_option linter.all false

section
variable {C : Ctx} {st : St} {Q : PV → St → Prop}

/-- a global's value, told at the base -/
def GlobIs (h : Heap) (x : Str) (v : Value) : Prop :=
  ∃ mg mb, h.Ns mainGlobals mg ∧ h.Ns builtinsNs mb ∧ (mg x = some v ∨ (mg x = none ∧ mb x = some v))
theorem GlobIs.keeps {h h' : Heap} {x : Str} {v : Value} (g : GlobIs h x v) (hk : ∀ b o, h.get? b = some o → h'.get? b = some o) : GlobIs h' x v :=
  let ⟨mg, mb, a, b, c⟩ := g; ⟨mg, mb, a.keeps hk, b.keeps hk, c⟩

theorem AE_local (hC : Ok C) {x : Str} {pos : Pos} {d : PV} (hk : C.env.kindOf x = some .local) (hv : st.m.lookup x = some d) (h : Q d st)
    (hd : (x == ("__debug__" : Str)) = false := by decide) : AE C (.Name x pos) st Q := fun s ρ I => by
  obtain ⟨m, h1, h2⟩ := I.ns
  obtain ⟨v, e1, e2⟩ := h2 x d hv hk
  exact wpAny_Name (wpAny_loadName_local hC.kind hk h1 e1 ⟨d, st, ρ, I, .refl, e2, h⟩) hd

theorem AE_cell (hC : Ok C) {x : Str} {pos : Pos} {d : PV} {c : Addr} (hk : C.env.kindOf x = some .cell) (hc : C.env.cells.lookup x = some c) (hv : st.m.lookup x = some d) (h : Q d st)
    (hd : (x == ("__debug__" : Str)) = false := by decide) : AE C (.Name x pos) st Q := fun s ρ I => by
  obtain ⟨u, h1, h2⟩ := I.cell x c hc
  obtain ⟨v, e1, e2⟩ := h2 d hv hk
  subst e1
  exact wpAny_Name (wpAny_loadName_cell hC.kind hk hc h1 ⟨d, st, ρ, I, .refl, e2, h⟩) hd

theorem AE_global (hC : Ok C) {x : Str} {pos : Pos} {v : Value} (hk : C.env.kindOf x = some .globalImplicit) (hg : GlobIs C.s₀.heap x v) (h : Q (.val v) st)
    (hd : (x == ("__debug__" : Str)) = false := by decide) : AE C (.Name x pos) st Q := fun s ρ I => by
  obtain ⟨mg, mb, h1, h2, h3⟩ := hg.keeps I.keep
  refine Name_function_global hC.kind hk ?_ hd
  rcases h3 with h3 | ⟨h3, h4⟩
  · exact loadGlobal_global (by rw [hC.globals]; exact h1) h3 ⟨.val v, st, ρ, I, .refl, rfl, h⟩
  · exact loadGlobal_builtin (by rw [hC.globals]; exact h1) h3 (by rw [hC.builtins]; exact h2) h4 ⟨.val v, st, ρ, I, .refl, rfl, h⟩

theorem Inv.toks (hC : Ok C) {ρ : List Addr} {s : Shared} (I : Inv C st ρ s) {k : Nat} (hk : s.toks ≤ k) : Inv C st ρ { s with toks := k } ∧ Le C st ρ s st ρ { s with toks := k } :=
  I.keeps hC (h' := s.heap) (fun _ _ e => e) hk

theorem Inv.push (hC : Ok C) {ρ : List Addr} {s : Shared} (I : Inv C st ρ s) (o : Obj) : Inv C st ρ { s with heap := s.heap.push o } ∧ Le C st ρ s st ρ { s with heap := s.heap.push o } :=
  I.keeps hC (h' := s.heap.push o) (fun _ _ e => Heap.get?_push_of_some o e) (Nat.le_refl _)

/-- a value without an address -/
theorem Post.plain (hC : Ok C) {ρ : List Addr} {s : Shared} (I : Inv C st ρ s) {k : Nat} (hk : s.toks ≤ k) {v : Value} {d : PyData} (hr : Reads s.heap v d []) (h : Q (.dat d) st) (hd : nod d = true := by rfl) : Post Rep C st ρ s Q v { s with toks := k } :=
  ⟨.dat d, st, ρ, (I.toks hC hk).1, (I.toks hC hk).2, ⟨[], hr, (fun _ ha => nomatch ha), hd⟩, h⟩

theorem AE_int (hC : Ok C) {i : Int} {k : Nat} {pos : Pos} (h : Q (.dat (.int i)) st) : AE C (.Constant (.int i) k pos) st Q := fun s ρ I =>
  wpAny_Constant_int (I.toks hC (Nat.le_succ _) |> fun _ => Post.plain hC I (Nat.le_succ _) (.int i _) h)
theorem AE_str (hC : Ok C) {x : Str} {k : Nat} {pos : Pos} (h : Q (.dat (.str x)) st) : AE C (.Constant (.str x) k pos) st Q := fun s ρ I =>
  Constant_str (Post.plain hC I (Nat.le_succ _) (.str x _) h)
theorem AE_none (hC : Ok C) {k : Nat} {pos : Pos} (h : Q (.dat .none) st) : AE C (.Constant .none k pos) st Q := fun s ρ I =>
  wpAny_pure (Post.plain hC I (k := s.toks) (Nat.le_refl _) .none h)
theorem AE_bool (hC : Ok C) {b : Bool} {k : Nat} {pos : Pos} (h : Q (.dat (.bool b)) st) : AE C (.Constant (.bool b) k pos) st Q := fun s ρ I =>
  wpAny_pure (Post.plain hC I (k := s.toks) (Nat.le_refl _) (.bool b) h)

def ABin (C : Ctx) (op : Operator) (da db : PV) (st : St) (Q : PV → St → Prop) : Prop :=
  ∀ a b s ρ, Inv C st ρ s → Rep s.heap ρ (Mut C st.σ ρ) a da → Rep s.heap ρ (Mut C st.σ ρ) b db → wpAny (model C.prog C.w) C.A (binaryOp op a b) (Post Rep C st ρ s Q) NoE s
def ACmp (C : Ctx) (op : CmpOp) (da db : PV) (st : St) (Q : PV → St → Prop) : Prop :=
  ∀ a b s ρ, Inv C st ρ s → Rep s.heap ρ (Mut C st.σ ρ) a da → Rep s.heap ρ (Mut C st.σ ρ) b db → wpAny (model C.prog C.w) C.A (compareOp op a b) (Post Rep C st ρ s Q) NoE s
def ATru (C : Ctx) (da : PV) (st : St) (Q : Bool → St → Prop) : Prop :=
  ∀ a s ρ, Inv C st ρ s → Rep s.heap ρ (Mut C st.σ ρ) a da → wpAny (model C.prog C.w) C.A (truthy a) (Post BoolR C st ρ s Q) NoE s
def AUn (C : Ctx) (op : UnaryOp) (da : PV) (st : St) (Q : PV → St → Prop) : Prop :=
  ∀ a s ρ, Inv C st ρ s → Rep s.heap ρ (Mut C st.σ ρ) a da → wpAny (model C.prog C.w) C.A (unaryOp op a) (Post Rep C st ρ s Q) NoE s

theorem AE_BinOp (hC : Ok C) {l r : Expr} {op : Operator} {pos : Pos} (h : AE C l st fun da st₁ => AE C r st₁ fun db st₂ => ABin C op da db st₂ Q) : AE C (.BinOp l op r pos) st Q := fun s ρ I =>
  wpAny_BinOp (h.use I fun a s₁ da st₁ ρ₁ I₁ L₁ r₁ h₁ => h₁.use I₁ fun b s₂ db st₂ ρ₂ I₂ L₂ r₂ h₂ =>
    wpAny_mono (h₂ a b s₂ ρ₂ I₂ (r₁.grow (I₁.grow hC L₂)) r₂) (fun _ _ p => (p.le L₂).le L₁) fun _ _ x => x)

theorem AE_Compare (hC : Ok C) {l r : Expr} {op : CmpOp} {pos : Pos} (h : AE C l st fun da st₁ => AE C r st₁ fun db st₂ => ACmp C op da db st₂ Q)
    (hm : behindInMarks op r = false := by with_unfolding_all rfl) : AE C (.Compare l [op] [r] pos) st Q := fun s ρ I =>
  wpAny_Compare1 (h.use I fun a s₁ da st₁ ρ₁ I₁ L₁ r₁ h₁ => h₁.use I₁ fun b s₂ db st₂ ρ₂ I₂ L₂ r₂ h₂ =>
    wpAny_mono (h₂ a b s₂ ρ₂ I₂ (r₁.grow (I₁.grow hC L₂)) r₂) (fun _ _ p => (p.le L₂).le L₁) fun _ _ x => x) hm

theorem AT_Compare (hC : Ok C) {Q : Bool → St → Prop} {l r : Expr} {op : CmpOp} {pos : Pos} (h : AE C l st fun da st₁ => AE C r st₁ fun db st₂ => ACmp C op da db st₂ fun dc st₃ => ATru C dc st₃ Q)
    (hm : behindInMarks op r = false := by with_unfolding_all rfl) : AT C (.Compare l [op] [r] pos) st Q := fun s ρ I =>
  wpAny_isTrue_Compare1 (h.use I fun a s₁ da st₁ ρ₁ I₁ L₁ r₁ h₁ => h₁.use I₁ fun b s₂ db st₂ ρ₂ I₂ L₂ r₂ h₂ =>
    wpAny_mono (h₂ a b s₂ ρ₂ I₂ (r₁.grow (I₁.grow hC L₂)) r₂) (fun c s₃ ⟨dc, st₃, ρ₃, I₃, L₃, r₃, h₃⟩ =>
      wpAny_mono (h₃ c s₃ ρ₃ I₃ r₃) (fun _ _ p => ((p.le L₃).le L₂).le L₁) fun _ _ x => x) fun _ _ x => x) hm

theorem ATru_bool {Q : Bool → St → Prop} {b : Bool} (h : Q b st) : ATru C (.dat (.bool b)) st Q := fun a s ρ I r => by
  obtain ⟨as, r, _⟩ := r
  cases r
  exact wpAny_truthy_bool ⟨b, st, ρ, I, .refl, rfl, h⟩
theorem ATru_none {Q : Bool → St → Prop} (h : Q false st) : ATru C (.dat .none) st Q := fun a s ρ I r => by
  obtain ⟨as, r, _⟩ := r
  cases r
  exact wpAny_pure ⟨false, st, ρ, I, .refl, rfl, h⟩

theorem AT_not {Q : Bool → St → Prop} {x : Expr} {pos : Pos} (h : AT C x st fun b st₁ => Q (!b) st₁) : AT C (.UnaryOp .Not x pos) st Q := fun s ρ I => by
  show wpAny _ _ (isTrue x C.env (eval x C.env) >>= fun b => pure !b) _ _ s
  exact wpAny_bind (h.use I fun a s₁ b st₁ ρ₁ I₁ L₁ r₁ h₁ => wpAny_pure ⟨_, st₁, ρ₁, I₁, L₁, congrArg not r₁, h₁⟩)

def AAll (C : Ctx) (op : BoolOp) (es : List Expr) (st : St) (Q : Bool → St → Prop) : Prop := AG BoolR C (allTrue op es C.env) st Q
theorem AT_BoolOp {Q : Bool → St → Prop} {op : BoolOp} {es : List Expr} {pos : Pos} (h : AAll C op es st Q) : AT C (.BoolOp op es pos) st Q := h
theorem AAll_nil {Q : Bool → St → Prop} {op : BoolOp} (h : Q (op == .And) st) : AAll C op [] st Q := fun s ρ I => wpAny_pure ⟨_, st, ρ, I, .refl, rfl, h⟩
theorem AAll_and {Q : Bool → St → Prop} {e : Expr} {es : List Expr} (h : AT C e st fun b st₁ => if b then AAll C .And es st₁ Q else Q false st₁) : AAll C .And (e :: es) st Q := fun s ρ I => by
  show wpAny _ _ (isTrue e C.env (eval e C.env) >>= fun b => match BoolOp.And, b with | .And, false => pure false | .Or, true => pure true | _, _ => allTrue .And es C.env) _ _ s
  refine wpAny_bind (h.use I fun a s₁ b st₁ ρ₁ I₁ L₁ r₁ h₁ => ?_)
  have e : a = b := r₁
  subst e
  cases a with
  | false => exact wpAny_pure ⟨false, st₁, ρ₁, I₁, L₁, rfl, h₁⟩
  | true => exact wpAny_mono (h₁ s₁ ρ₁ I₁) (fun _ _ p => p.le L₁) fun _ _ x => x
theorem AAll_or {Q : Bool → St → Prop} {e : Expr} {es : List Expr} (h : AT C e st fun b st₁ => if b then Q true st₁ else AAll C .Or es st₁ Q) : AAll C .Or (e :: es) st Q := fun s ρ I => by
  show wpAny _ _ (isTrue e C.env (eval e C.env) >>= fun b => match BoolOp.Or, b with | .And, false => pure false | .Or, true => pure true | _, _ => allTrue .Or es C.env) _ _ s
  refine wpAny_bind (h.use I fun a s₁ b st₁ ρ₁ I₁ L₁ r₁ h₁ => ?_)
  have e : a = b := r₁
  subst e
  cases a with
  | true => exact wpAny_pure ⟨true, st₁, ρ₁, I₁, L₁, rfl, h₁⟩
  | false => exact wpAny_mono (h₁ s₁ ρ₁ I₁) (fun _ _ p => p.le L₁) fun _ _ x => x

/-- a test that is a plain value -/
theorem AT_plain {Q : Bool → St → Prop} {e : Expr} (h : AE C e st fun d st₁ => ATru C d st₁ Q)
    (he : ∀ whole, isTrue e C.env whole = (do let v ← whole; standAt e.pos; holding [v] (truthy v)) := by intro _; rfl) : AT C e st Q := fun s ρ I => by
  rw [he]
  exact wpAny_bind (h.use I fun a s₁ d st₁ ρ₁ I₁ L₁ r₁ h₁ => wpAny_bind (wpAny_standAt (wpAny_holding (wpAny_mono (h₁ a s₁ ρ₁ I₁ r₁) (fun _ _ p => p.le L₁) fun _ _ x => x))))

theorem AE_IfExp {t b o : Expr} {pos : Pos} (h : AT C t st fun c st₁ => if c then AE C b st₁ Q else AE C o st₁ Q) : AE C (.IfExp t b o pos) st Q := fun s ρ I => by
  show wpAny _ _ (isTrue t C.env (eval t C.env) >>= fun c => if c then eval b C.env else eval o C.env) _ _ s
  refine wpAny_bind (h.use I fun a s₁ c st₁ ρ₁ I₁ L₁ r₁ h₁ => ?_)
  have e : a = c := r₁
  subst e
  cases a with
  | false => exact wpAny_mono (h₁ s₁ ρ₁ I₁) (fun _ _ p => p.le L₁) fun _ _ x => x
  | true => exact wpAny_mono (h₁ s₁ ρ₁ I₁) (fun _ _ p => p.le L₁) fun _ _ x => x

def ABo (C : Ctx) (op : BoolOp) (pos : Pos) (es : List Expr) (st : St) (Q : PV → St → Prop) : Prop := AG Rep C (boolOp pos op (evalEach es C.env)) st Q
theorem AE_BoolOp {op : BoolOp} {es : List Expr} {pos : Pos} (h : ABo C op pos es st Q) : AE C (.BoolOp op es pos) st Q := h
theorem ABo_last {op : BoolOp} {pos : Pos} {e : Expr} (h : AE C e st Q) : ABo C op pos [e] st Q := h
theorem ABo_and (hC : Ok C) {pos : Pos} {e e' : Expr} {es : List Expr} (h : AE C e st fun d st₁ => ATru C d st₁ fun b st₂ => if b then ABo C .And pos (e' :: es) st₂ Q else Q d st₂) : ABo C .And pos (e :: e' :: es) st Q := fun s ρ I => by
  show wpAny _ _ (eval e C.env >>= fun v => standAt pos >>= fun _ => holding [v] (truthy v) >>= fun t => match BoolOp.And, t with | .And, false => pure v | .Or, true => pure v | _, _ => boolOp pos .And (evalEach (e' :: es) C.env)) _ _ s
  refine wpAny_bind (h.use I fun a s₁ d st₁ ρ₁ I₁ L₁ r₁ h₁ => wpAny_bind (wpAny_standAt (wpAny_bind (wpAny_holding (wpAny_mono (h₁ a s₁ ρ₁ I₁ r₁) (fun t s₂ ⟨b, st₂, ρ₂, I₂, L₂, r₂, h₂⟩ => ?_) fun _ _ x => x)))))
  have e : t = b := r₂
  subst e
  cases t with
  | false => exact wpAny_pure ⟨d, st₂, ρ₂, I₂, L₁.trans L₂, r₁.grow (I₁.grow hC L₂), h₂⟩
  | true => exact wpAny_mono (h₂ s₂ ρ₂ I₂) (fun _ _ p => (p.le L₂).le L₁) fun _ _ x => x
theorem ABo_or (hC : Ok C) {pos : Pos} {e e' : Expr} {es : List Expr} (h : AE C e st fun d st₁ => ATru C d st₁ fun b st₂ => if b then Q d st₂ else ABo C .Or pos (e' :: es) st₂ Q) : ABo C .Or pos (e :: e' :: es) st Q := fun s ρ I => by
  show wpAny _ _ (eval e C.env >>= fun v => standAt pos >>= fun _ => holding [v] (truthy v) >>= fun t => match BoolOp.Or, t with | .And, false => pure v | .Or, true => pure v | _, _ => boolOp pos .Or (evalEach (e' :: es) C.env)) _ _ s
  refine wpAny_bind (h.use I fun a s₁ d st₁ ρ₁ I₁ L₁ r₁ h₁ => wpAny_bind (wpAny_standAt (wpAny_bind (wpAny_holding (wpAny_mono (h₁ a s₁ ρ₁ I₁ r₁) (fun t s₂ ⟨b, st₂, ρ₂, I₂, L₂, r₂, h₂⟩ => ?_) fun _ _ x => x)))))
  have e : t = b := r₂
  subst e
  cases t with
  | true => exact wpAny_pure ⟨d, st₂, ρ₂, I₂, L₁.trans L₂, r₁.grow (I₁.grow hC L₂), h₂⟩
  | false => exact wpAny_mono (h₂ s₂ ρ₂ I₂) (fun _ _ p => (p.le L₂).le L₁) fun _ _ x => x

theorem AE_Unary (hC : Ok C) {op : UnaryOp} {x : Expr} {pos : Pos} (h : AE C x st fun d st₁ => AUn C op d st₁ Q) : AE C (.UnaryOp op x pos) st Q := fun s ρ I => by
  show wpAny _ _ (eval x C.env >>= fun v => standAt pos >>= fun _ => holding [v] (unaryOp op v)) _ _ s
  exact wpAny_bind (h.use I fun a s₁ d st₁ ρ₁ I₁ L₁ r₁ h₁ => wpAny_bind (wpAny_standAt (wpAny_holding (wpAny_mono (h₁ a s₁ ρ₁ I₁ r₁) (fun _ _ p => p.le L₁) fun _ _ x => x))))
end

/-! statements -/
section
variable {C : Ctx} {st : St} {Q : Fl → St → Prop}

theorem AS_nil (h : Q .next st) : AS C [] st Q := fun s ρ I => wpAny_execs_nil ⟨.next, st, ρ, I, .refl, trivial, h⟩

theorem AS_cons {x : Stmt} {rest : List Stmt} (h : AX C x st fun f st₁ => match f with | .next => AS C rest st₁ Q | f => Q f st₁) : AS C (x :: rest) st Q := fun s ρ I =>
  wpAny_execs_cons (h.use I fun f s₁ g st₁ ρ₁ I₁ L₁ r₁ h₁ => by
    cases f <;> cases g <;> first
      | exact r₁.elim
      | exact wpAny_mono (h₁ s₁ ρ₁ I₁) (fun _ _ p => p.le L₁) fun _ _ x => x
      | exact ⟨_, st₁, ρ₁, I₁, L₁, r₁, h₁⟩)

theorem AX_If {t : Expr} {b o : List Stmt} {pos : Pos} (h : AT C t st fun c st₁ => if c then AS C b st₁ Q else AS C o st₁ Q) : AX C (.If t b o pos) st Q := fun s ρ I =>
  wpAny_If (h.use I fun a s₁ c st₁ ρ₁ I₁ L₁ r₁ h₁ => by
    have e : a = c := r₁
    subst e
    cases a with
    | false => exact wpAny_mono (h₁ s₁ ρ₁ I₁) (fun _ _ p => p.le L₁) fun _ _ x => x
    | true => exact wpAny_mono (h₁ s₁ ρ₁ I₁) (fun _ _ p => p.le L₁) fun _ _ x => x)

theorem AX_Return {e : Expr} {pos : Pos} (h : AE C e st fun d st₁ => Q (.ret d) st₁) : AX C (.Return (some e) pos) st Q := fun s ρ I =>
  wpAny_Return_some (h.use I fun _ _ d st₁ ρ₁ I₁ L₁ r₁ h₁ => ⟨.ret d, st₁, ρ₁, I₁, L₁, r₁, h₁⟩)

theorem AX_Continue {pos : Pos} (h : Q .cont st) : AX C (.Continue pos) st Q := fun s ρ I => wpAny_bind (wpAny_standAt (wpAny_pure ⟨.cont, st, ρ, I, .refl, trivial, h⟩))
theorem AX_Break {pos : Pos} (h : Q .brk st) : AX C (.Break pos) st Q := fun s ρ I => wpAny_bind (wpAny_standAt (wpAny_pure ⟨.brk, st, ρ, I, .refl, trivial, h⟩))
theorem AX_Pass {pos : Pos} (h : Q .next st) : AX C (.Pass pos) st Q := fun s ρ I => wpAny_Pass ⟨.next, st, ρ, I, .refl, trivial, h⟩

def St.set (st : St) (x : Str) (d : PV) : St := { st with m := (x, d) :: st.m }

def ASt (C : Ctx) (x : Str) (d : PV) (st : St) (Q : St → Prop) : Prop :=
  ∀ v s ρ, Inv C st ρ s → Rep s.heap ρ (Mut C st.σ ρ) v d → wpAny (model C.prog C.w) C.A (storeName C.env x v) (fun _ s' => ∃ st' ρ', Inv C st' ρ' s' ∧ Le C st ρ s st' ρ' s' ∧ Q st') NoE s

theorem lookup_set {m : List (Str × PV)} {x y : Str} {d : PV} : List.lookup y ((x, d) :: m) = if y = x then some d else m.lookup y := by
  rw [List.lookup_cons]
  by_cases h : y = x
  · subst h; simp
  · have : (y == x) = false := by simpa using h
    rw [this, if_neg h]

theorem ASt_local (hC : Ok C) {x : Str} {d : PV} {Q : St → Prop} (hk : C.env.kindOf x = some .local) (h : Q (st.set x d)) : ASt C x d st Q := fun v s ρ I r => by
  obtain ⟨m, hn, hm⟩ := I.ns
  refine wpAny_storeName_local hk hn (fun h' hn' hs' => ?_) (by rw [hC.kind]; rfl)
  have hLe : Le C st ρ s (st.set x d) ρ { s with heap := h', toks := s.toks + 1 } :=
    ⟨fun a o e n => ⟨(hs'.2 a (fun q => n (.inl q))).trans e, n⟩, fun _ _ e => e, fun a o e => by
      by_cases q : a = C.env.locals
      · obtain ⟨o', _, _, h1, _⟩ := hn'; exact ⟨o', q ▸ h1⟩
      · exact ⟨o, (hs'.2 a q).trans e⟩⟩
  have g := I.grow hC hLe
  refine ⟨st.set x d, ρ, ⟨?_, ?_, Nat.le_succ_of_le I.tok, ?_, ?_, ?_, I.inj, I.len⟩, hLe, h⟩
  · obtain ⟨h₁, tk, e⟩ := I.same; exact ⟨h', _, by rw [e]⟩
  · intro b o e
    exact (hs'.2 b (fun q => by rw [q, hC.fresh] at e; cases e)).trans (I.keep b o e)
  · refine ⟨_, hn', fun y dy e ky => ?_⟩
    rw [St.set, lookup_set] at e
    by_cases hy : y = x
    · rw [if_pos hy] at e; cases e
      exact ⟨v, if_pos hy, r.grow g⟩
    · rw [if_neg hy] at e
      obtain ⟨v', e1, e2⟩ := hm y dy e ky
      exact ⟨v', by rw [if_neg hy]; exact e1, e2.grow g⟩
  · intro y c hc
    obtain ⟨u, hu, hd⟩ := I.cell y c hc
    refine ⟨u, hu.sameBut hs' (fun q => ?_), fun dy e ky => ?_⟩
    · obtain ⟨o1, g1, g2⟩ := hu
      obtain ⟨o2, es, ep, g3, g4, _⟩ := hn
      rw [q, g3] at g1; cases g1
      rw [g4] at g2; cases g2
    · rw [St.set, lookup_set] at e
      by_cases hy : y = x
      · rw [hy, hk] at ky; cases ky
      · rw [if_neg hy] at e
        obtain ⟨v', e1, e2⟩ := hd dy e ky
        exact ⟨v', e1, e2.grow g⟩
  · intro i l hi
    obtain ⟨a, vs, e1, ⟨n, g1⟩, e3, e4⟩ := I.own i l hi
    refine ⟨a, vs, e1, ⟨n, (hs'.2 a (fun q => ?_)).trans g1⟩, e3.grow g, e4⟩
    obtain ⟨o2, es, ep, g4, g5, _⟩ := hn
    rw [q, g4] at g1; cases g1
    cases g5

theorem ASt_cell (hC : Ok C) {x : Str} {d : PV} {c : Addr} {Q : St → Prop} (hk : C.env.kindOf x = some .cell) (hc : C.env.cells.lookup x = some c) (hf : C.s₀.heap.get? c = none) (h : Q (st.set x d)) : ASt C x d st Q := fun v s ρ I r => by
  obtain ⟨u, hu, hd⟩ := I.cell x c hc
  refine wpAny_storeName_cell hC.kind hk hc hu fun h' hu' hs' => ?_
  have hLe : Le C st ρ s (st.set x d) ρ { s with heap := h' } :=
    ⟨fun a o e n => ⟨(hs'.2 a (fun q => n (.inr (.inl ⟨x, q ▸ hc⟩)))).trans e, n⟩, fun _ _ e => e, fun a o e => by
      by_cases q : a = c
      · obtain ⟨o', h1, _⟩ := hu'; exact ⟨o', q ▸ h1⟩
      · exact ⟨o, (hs'.2 a q).trans e⟩⟩
  have g := I.grow hC hLe
  refine ⟨st.set x d, ρ, ⟨?_, ?_, I.tok, ?_, ?_, ?_, I.inj, I.len⟩, hLe, h⟩
  · obtain ⟨h₁, tk, e⟩ := I.same; exact ⟨h', tk, by rw [e]⟩
  · intro b o e
    exact (hs'.2 b (fun q => by rw [q, hf] at e; cases e)).trans (I.keep b o e)
  · obtain ⟨m, hn, hm⟩ := I.ns
    refine ⟨m, hn.sameBut hs' (fun q => ?_), fun y dy e ky => ?_⟩
    · obtain ⟨o1, g1, g2⟩ := hu
      obtain ⟨o2, es, ep, g3, g4, _⟩ := hn
      rw [q, g1] at g3; cases g3
      rw [g4] at g2; cases g2
    · rw [St.set, lookup_set] at e
      by_cases hy : y = x
      · rw [hy, hk] at ky; cases ky
      · rw [if_neg hy] at e
        obtain ⟨v', e1, e2⟩ := hm y dy e ky
        exact ⟨v', e1, e2.grow g⟩
  · intro y cy hcy
    by_cases hy : y = x
    · subst hy
      rw [hc] at hcy; cases hcy
      refine ⟨some v, hu', fun dy e ky => ?_⟩
      rw [St.set, lookup_set, if_pos rfl] at e; cases e
      exact ⟨v, rfl, r.grow g⟩
    · obtain ⟨u', h1, h2⟩ := I.cell y cy hcy
      refine ⟨u', h1.sameBut hs' (fun q => hy (hC.capart _ _ _ hcy (q ▸ hc))), fun dy e ky => ?_⟩
      rw [St.set, lookup_set, if_neg hy] at e
      obtain ⟨v', e1, e2⟩ := h2 dy e ky
      exact ⟨v', e1, e2.grow g⟩
  · intro i l hi
    obtain ⟨a, vs, e1, ⟨n, g1⟩, e3, e4⟩ := I.own i l hi
    refine ⟨a, vs, e1, ⟨n, (hs'.2 a (fun q => ?_)).trans g1⟩, e3.grow g, e4⟩
    obtain ⟨o1, g4, g5⟩ := hu
    rw [q, g4] at g1; cases g1
    cases g5

theorem AX_Assign {x : Str} {pos' pos : Pos} {e : Expr} (h : AE C e st fun d st₁ => ASt C x d st₁ fun st₂ => Q .next st₂)
    (hs : swapsWith e (some (.Name x pos')) pos.line C.env = pure false := by rfl) : AX C (.Assign [.Name x pos'] e pos) st Q := fun s ρ I =>
  wpAny_Assign_Name (h.use I fun v s₁ d st₁ ρ₁ I₁ L₁ r₁ h₁ => wpAny_mono (h₁ v s₁ ρ₁ I₁ r₁) (fun _ s₂ ⟨st₂, ρ₂, I₂, L₂, h₂⟩ => ⟨.next, st₂, ρ₂, I₂, L₁.trans L₂, trivial, h₂⟩) fun _ _ x => x) hs

/-- what is known less of -/
def Wk (st st' : St) : Prop := st'.σ = st.σ ∧ ∀ x d, st'.m.lookup x = some d → st.m.lookup x = some d
theorem Inv.weak {st' : St} {ρ : List Addr} {s : Shared} (I : Inv C st ρ s) (h : Wk st st') : Inv C st' ρ s := by
  obtain ⟨m, σ⟩ := st
  obtain ⟨m', σ'⟩ := st'
  obtain ⟨e, hw⟩ := h
  dsimp only at e hw
  subst e
  exact ⟨I.same, I.keep, I.tok, let ⟨n, a, b⟩ := I.ns; ⟨n, a, fun x d e k => b x d (hw x d e) k⟩, fun x c hc => let ⟨u, a, b⟩ := I.cell x c hc; ⟨u, a, fun d e k => b d (hw x d e) k⟩, I.own, I.inj, I.len⟩
theorem Le.weak {st' st₁ : St} {ρ ρ₁ : List Addr} {s s₁ : Shared} (L : Le C st₁ ρ₁ s₁ st ρ s) (h : Wk st st') : Le C st₁ ρ₁ s₁ st' ρ s := by
  obtain ⟨m, σ⟩ := st
  obtain ⟨m', σ'⟩ := st'
  obtain ⟨e, hw⟩ := h
  dsimp only at e hw
  subst e
  exact ⟨L.keep, L.rho, L.ex⟩
theorem AG.weak {α β : Type} {R : RelT α β} {t : Sem α} {st' : St} {Q : β → St → Prop} (hw : Wk st st') (h : AG R C t st' Q) : AG R C t st Q := fun s ρ I =>
  wpAny_mono (h s ρ (I.weak hw)) (fun _ _ p => p.le (Le.weak .refl hw)) fun _ _ x => x

theorem Wk.of {m m' : List (Str × PV)} {σ : List (Option (List PV))} (h : ∀ x d, m'.lookup x = some d → m.lookup x = some d) : Wk ⟨m, σ⟩ ⟨m', σ⟩ := ⟨rfl, h⟩
theorem lk_nil {m : List (Str × PV)} : ∀ x d, ([] : List (Str × PV)).lookup x = some d → m.lookup x = some d := fun _ _ h => nomatch h
theorem lk_cons {m m' : List (Str × PV)} {x : Str} {d : PV} (h : m.lookup x = some d) (hr : ∀ x d, m'.lookup x = some d → m.lookup x = some d) : ∀ y e, ((x, d) :: m').lookup y = some e → m.lookup y = some e := fun y e hy => by
  rw [lookup_set] at hy
  by_cases q : y = x
  · rw [if_pos q] at hy; cases hy; rw [q]; exact h
  · rw [if_neg q] at hy; exact hr y e hy

theorem noE_noted {M : Model} {A : Around} {env : Env} {E : Value → Shared → Prop} : ∀ e s, NoE e s → notedBy M A env E e s := fun _ _ x => x.elim

theorem AX_While {t : Expr} {b : List Stmt} {pos : Pos} (I : Nat → St → Prop) (n : Nat) (h0 : ∃ st', Wk st st' ∧ I n st')
    (turn : ∀ n st, I n st → AT C t st fun c st₁ => if c then AS C b st₁ (fun f st₂ => match f with
        | .next | .cont => ∃ m, m < n ∧ ∃ st₃, Wk st₂ st₃ ∧ I m st₃
        | .brk => Q .next st₂
        | .ret d => Q (.ret d) st₂) else Q .next st₁) : AX C (.While t b [] pos) st Q := fun s ρ Iv => by
  obtain ⟨st', hw, hI⟩ := h0
  refine wpAny_While (codeAny_whileLoop (fun n s₁ => ∃ st₁ ρ₁, Inv C st₁ ρ₁ s₁ ∧ Le C st ρ s st₁ ρ₁ s₁ ∧ I n st₁) (fun n s₁ ⟨st₁, ρ₁, I₁, L₁, h₁⟩ => ?_) n ⟨st', ρ, Iv.weak hw, Le.weak .refl hw, hI⟩)
  refine wpAny_mono (turn n st₁ h₁ s₁ ρ₁ I₁) (fun c s₂ ⟨c', st₂, ρ₂, I₂, L₂, r₂, h₂⟩ => ?_) noE_noted
  have e : c = c' := r₂
  subst e
  cases c with
  | false => exact wpAny_execs_nil ⟨.next, st₂, ρ₂, I₂, L₁.trans L₂, trivial, h₂⟩
  | true =>
    refine wpAny_mono (h₂ s₂ ρ₂ I₂) (fun f s₃ ⟨g, st₃, ρ₃, I₃, L₃, r₃, h₃⟩ => ?_) noE_noted
    cases f <;> cases g <;> first
      | exact r₃.elim
      | (obtain ⟨m, hm, st₄, hw4, hI4⟩ := h₃; exact ⟨m, hm, st₄, ρ₃, I₃.weak hw4, ((L₁.trans L₂).trans L₃).weak hw4, hI4⟩)
      | exact ⟨.next, st₃, ρ₃, I₃, (L₁.trans L₂).trans L₃, trivial, h₃⟩
      | exact ⟨_, st₃, ρ₃, I₃, (L₁.trans L₂).trans L₃, r₃, h₃⟩
end
end Mine

end
section
open PySem PySem.W PyProof.Rows PySem.Calls
namespace Mine
set_option linter.all false

/-! one object changed that no datum reads -/
def Odd (o : Obj) : Prop := (∃ es n, o.data = .dict es n) ∨ ∃ vs ty, o.data = .fields vs ∧ o.cls = .type ty ∧ ty ≠ "re.Match" ∧ ty ≠ "range"
theorem Odd.seq {o : Obj} (h : Odd o) {vs : Array Value} {n : Nat} (e : o.data = .seq vs n) : False := by
  rcases h with ⟨_, _, q⟩ | ⟨_, _, q, _⟩ <;> (rw [e] at q; cases q)

mutual
theorem reads_but {h h' : Heap} {I : Addr} {oI : Obj} (hI : h.get? I = some oI) (hodd : Odd oI) (hk : ∀ a o, a ≠ I → h.get? a = some o → h'.get? a = some o) :
    ∀ {v : Value} {d : PyData} {as : List Addr}, Reads h v d as → nod d = true → Reads h' v d as
  | _, _, _, .none, _ => .none
  | _, _, _, .bool b, _ => .bool b
  | _, _, _, .int i t, _ => .int i t
  | _, _, _, .str x t, _ => .str x t
  | _, _, _, .list h1 h2 h3 h4, hd => .list (hk _ _ (by rintro rfl; rw [hI] at h1; cases h1; exact hodd.seq h3) h1) h2 h3 (readsAll_but hI hodd hk h4 hd)
  | _, _, _, .tuple h1 h2 h3 h4, hd => .tuple (hk _ _ (by rintro rfl; rw [hI] at h1; cases h1; exact hodd.seq h3) h1) h2 h3 (readsAll_but hI hodd hk h4 hd)
  | _, _, _, .dict .., hd => nomatch hd
theorem readsAll_but {h h' : Heap} {I : Addr} {oI : Obj} (hI : h.get? I = some oI) (hodd : Odd oI) (hk : ∀ a o, a ≠ I → h.get? a = some o → h'.get? a = some o) :
    ∀ {vs : List Value} {ds : List PyData} {as : List Addr}, ReadsAll h vs ds as → nodAll ds = true → ReadsAll h' vs ds as
  | _, _, _, .nil, _ => .nil
  | _, _, _, .cons h1 h2, hd => .cons (reads_but hI hodd hk h1 (Bool.and_eq_true_iff.mp hd).1) (readsAll_but hI hodd hk h2 (Bool.and_eq_true_iff.mp hd).2)
end

theorem Rep.but {h h' : Heap} {ρ : List Addr} {O : Addr → Prop} {I : Addr} {oI : Obj} (hI : h.get? I = some oI) (hodd : Odd oI) (hk : ∀ a o, a ≠ I → h.get? a = some o → h'.get? a = some o) {v : Value} : ∀ {d : PV}, Rep h ρ O v d → Rep h' ρ O v d
  | .dat _, ⟨as, r, n, hd⟩ => ⟨as, reads_but hI hodd hk r hd, n, hd⟩
  | .own _, x => x
  | .val _, e => e
  | .mt _ _, ⟨a, o, t, pv, p, l, li, b, e, ho, hc, hd, ob, hb, hbc, n, hbd⟩ =>
    ⟨a, o, t, pv, p, l, li, b, e, hk a o (by
        rintro rfl; rw [hI] at ho; cases ho
        rcases hodd with ⟨_, _, q⟩ | ⟨_, _, _, e, ne, _⟩
        · rw [hd] at q; cases q
        · rw [hc] at e; cases e; exact ne rfl) ho, hc, hd,
      ob, hk b ob (by rintro rfl; rw [hI] at hb; cases hb; exact hodd.seq hbd) hb, hbc, n, hbd⟩
  | .rng _ _ _, ⟨r, t, u, q, e, ho⟩ => ⟨r, t, u, q, e, hk r _ (by rintro rfl; have ho' : h.get? r = some _ := ho; rw [hI] at ho'; cases ho'; (rcases hodd with ⟨_, _, q⟩ | ⟨_, _, _, e, _, ne⟩); cases q; (cases e; exact ne rfl)) ho⟩
theorem RepAll.but {h h' : Heap} {ρ : List Addr} {O : Addr → Prop} {I : Addr} {oI : Obj} (hI : h.get? I = some oI) (hodd : Odd oI) (hk : ∀ a o, a ≠ I → h.get? a = some o → h'.get? a = some o) :
    ∀ {vs : List Value} {ds : List PV}, RepAll h ρ O vs ds → RepAll h' ρ O vs ds
  | [], [], _ => trivial
  | _ :: _, _ :: _, ⟨a, b⟩ => ⟨a.but hI hodd hk, b.but hI hodd hk⟩
  | [], _ :: _, h => h.elim
  | _ :: _, [], h => h.elim

theorem Inv.but {C : Ctx} {st : St} {ρ : List Addr} {s : Shared} (J : Inv C st ρ s) {I : Addr} {oI : Obj} (hI : s.heap.get? I = some oI) (hodd : Odd oI) (hm : ¬ Mut C st.σ ρ I) (hb : C.s₀.heap.get? I = none)
    {h' : Heap} {tk : Nat} (hk : ∀ a o, a ≠ I → s.heap.get? a = some o → h'.get? a = some o) (htk : s.toks ≤ tk) : Inv C st ρ { s with heap := h', toks := tk } := by
  refine ⟨?_, fun b o e => hk b o (by rintro rfl; rw [hb] at e; cases e) (J.keep b o e), Nat.le_trans J.tok htk, ?_, ?_, ?_, J.inj, J.len⟩
  · obtain ⟨h, tk', e⟩ := J.same; exact ⟨h', tk, by rw [e]⟩
  · obtain ⟨m, h1, h2⟩ := J.ns
    refine ⟨m, ?_, fun x d e k => let ⟨v, e1, e2⟩ := h2 x d e k; ⟨v, e1, e2.but hI hodd hk⟩⟩
    obtain ⟨o, es, ep, g1, g2⟩ := h1
    exact ⟨o, es, ep, hk _ _ (fun q => hm (.inl q.symm)) g1, g2⟩
  · intro x c hx
    obtain ⟨u, ⟨o, g1, g2⟩, h2⟩ := J.cell x c hx
    exact ⟨u, ⟨o, hk _ _ (fun q => hm (.inr (.inl ⟨x, q ▸ hx⟩))) g1, g2⟩, fun d e k => let ⟨v, e1, e2⟩ := h2 d e k; ⟨v, e1, e2.but hI hodd hk⟩⟩
  · intro i l hi
    obtain ⟨a, vs, e1, ⟨n, g1⟩, e3, e4⟩ := J.own i l hi
    exact ⟨a, vs, e1, ⟨n, hk _ _ (fun q => hm (.inr (.inr (.inr ⟨i, l, hi, q ▸ e1⟩)))) g1⟩, e3.but hI hodd hk, e4⟩

/-! items of a read list -/
theorem readsAll_len {h : Heap} : ∀ {vs : List Value} {ds : List PyData} {as : List Addr}, ReadsAll h vs ds as → vs.length = ds.length
  | _, _, _, .nil => rfl
  | _, _, _, .cons _ h2 => by rw [List.length_cons, List.length_cons, readsAll_len h2]
theorem readsAll_get {h : Heap} : ∀ {vs : List Value} {ds : List PyData} {as : List Addr}, ReadsAll h vs ds as → ∀ (i : Nat) (v : Value), vs[i]? = some v → ∃ d bs, ds[i]? = some d ∧ Reads h v d bs ∧ ∀ a ∈ bs, a ∈ as
  | _, _, _, .nil, i, v, e => by simp at e
  | _, _, _, .cons h1 h2, 0, v, e => by
    simp at e; subst e
    exact ⟨_, _, rfl, h1, fun a ha => List.mem_append_left _ ha⟩
  | _, _, _, .cons h1 h2, i + 1, v, e => by
    simp at e
    obtain ⟨d, bs, e1, e2, e3⟩ := readsAll_get h2 i v e
    exact ⟨d, bs, by simpa using e1, e2, fun a ha => List.mem_append_right _ (e3 a ha)⟩
theorem readsAll_getD {h : Heap} {vs : List Value} {ds : List PyData} {as : List Addr} (r : ReadsAll h vs ds as) (i : Nat) (d : PyData) (e : ds[i]? = some d) : ∃ v bs, vs[i]? = some v ∧ Reads h v d bs ∧ ∀ a ∈ bs, a ∈ as := by
  have hl := readsAll_len r
  have hi : i < vs.length := by rw [hl]; exact (List.getElem?_eq_some_iff.mp e).1
  obtain ⟨d', bs, e1, e2, e3⟩ := readsAll_get r i vs[i] (by simp [hi])
  rw [e] at e1; cases e1
  exact ⟨_, bs, by simp [hi], e2, e3⟩

theorem nodAll_get : ∀ {ds : List PyData}, nodAll ds = true → ∀ (i : Nat) (d : PyData), ds[i]? = some d → nod d = true
  | [], _, i, d, e => by simp at e
  | x :: r, h, 0, d, e => by simp at e; subst e; exact (Bool.and_eq_true_iff.mp h).1
  | x :: r, h, i + 1, d, e => by simp at e; exact nodAll_get (Bool.and_eq_true_iff.mp h).2 i d e
/-! iterators -/
def strItems (x : Str) : List PyData := x.cps.toList.map fun c => .str ⟨#[c]⟩
def rngItems (a b c : Int) : List PyData := (List.range (Builtin.Range.rangeSize a b c).toNat).map fun k : Nat => .int (a + k * c)

inductive ItAt (O : Addr → Prop) (h : Heap) (I : Addr) : List PyData → Prop
  | list {l i xs as rest} : h.IsListIter I l i → Reads h (.ref l) (.list xs) as → ((∀ a ∈ as, ¬ O a) ∧ nodAll xs = true) → rest = xs.drop i → ItAt O h I rest
  | tuple {l i xs as rest} : h.IsTupleIter I l i → Reads h (.ref l) (.tuple xs) as → ((∀ a ∈ as, ¬ O a) ∧ nodAll xs = true) → rest = xs.drop i → ItAt O h I rest
  | strA {x t i rest} : h.IsStrIter I "str_ascii_iterator" x t i → rest = (x.cps.toList.drop i).map (fun c => PyData.str ⟨#[c]⟩) → ItAt O h I rest
  | strW {x t i rest} : h.IsStrIter I "str_iterator" x t i → rest = (x.cps.toList.drop i).map (fun c => PyData.str ⟨#[c]⟩) → ItAt O h I rest
  | range {x left step rest} : IsRangeIter h I x left step → rest = (List.range left.toNat).map (fun k : Nat => PyData.int (x + k * step)) → ItAt O h I rest

def loose : List String := ["list_iterator", "tuple_iterator", "str_ascii_iterator", "str_iterator", "range_iterator"]
theorem ItAt.obj {O : Addr → Prop} {h : Heap} {I : Addr} {r : List PyData} (x : ItAt O h I r) : ∃ o vs ty, h.get? I = some o ∧ o.data = .fields vs ∧ o.cls = .type ty ∧ ty ∈ loose := by
  cases x with
  | list a _ _ _ => obtain ⟨o, a, b, c⟩ := a; exact ⟨o, _, _, a, c, b, by decide⟩
  | tuple a _ _ _ => obtain ⟨o, a, b, c⟩ := a; exact ⟨o, _, _, a, c, b, by decide⟩
  | strA a _ => obtain ⟨o, a, b, c⟩ := a; exact ⟨o, _, _, a, c, b, by decide⟩
  | strW a _ => obtain ⟨o, a, b, c⟩ := a; exact ⟨o, _, _, a, c, b, by decide⟩
  | range a _ => exact ⟨_, _, "range_iterator", a, rfl, rfl, by decide⟩
theorem ItAt.odd {O : Addr → Prop} {h : Heap} {I : Addr} {r : List PyData} (x : ItAt O h I r) : ∃ o, h.get? I = some o ∧ Odd o := by
  obtain ⟨o, vs, ty, a, b, c, d⟩ := x.obj
  refine ⟨o, a, .inr ⟨vs, ty, b, c, ?_, ?_⟩⟩
  · rintro rfl; exact absurd d (by decide)
  · rintro rfl; exact absurd d (by decide)

theorem ItAt.grow {h h' : Heap} {ρ ρ' : List Addr} {O O' : Addr → Prop} (g : Grow h ρ O h' ρ' O') {I : Addr} (hI : ¬ O I) {r : List PyData} (x : ItAt O h I r) : ItAt O' h' I r := by
  have up : ∀ {d : PyData} {v : Value} {as : List Addr}, Reads h v d as → (∀ a ∈ as, ¬ O a) → Reads h' v d as ∧ ∀ a ∈ as, ¬ O' a := fun r n =>
    ⟨reads_step g.soft (fun a o e q => (g.keep a o e q).1) r n, fun a ha => by obtain ⟨o, ho⟩ := reads_has r a ha; exact (g.keep a o ho (n a ha)).2⟩
  cases x with
  | list a b c d => obtain ⟨o, a1, a2⟩ := a; exact .list ⟨o, (g.keep _ _ a1 hI).1, a2⟩ (up b c.1).1 ⟨(up b c.1).2, c.2⟩ d
  | tuple a b c d => obtain ⟨o, a1, a2⟩ := a; exact .tuple ⟨o, (g.keep _ _ a1 hI).1, a2⟩ (up b c.1).1 ⟨(up b c.1).2, c.2⟩ d
  | strA a d => obtain ⟨o, a1, a2⟩ := a; exact .strA ⟨o, (g.keep _ _ a1 hI).1, a2⟩ d
  | strW a d => obtain ⟨o, a1, a2⟩ := a; exact .strW ⟨o, (g.keep _ _ a1 hI).1, a2⟩ d
  | range a d => exact .range (g.keep _ _ a hI).1 d

section
variable {prog : Program} {w : World} {A : Around} {E : Value → Shared → Prop} {s : Shared} {O : Addr → Prop} {ρ : List Addr} {I : Addr}

theorem drop_cons {α : Type} {xs : List α} {i : Nat} {x : α} {r : List α} (e : x :: r = xs.drop i) : xs[i]? = some x ∧ r = xs.drop (i + 1) := by
  have h1 : (xs.drop i)[0]? = some x := by rw [← e]; rfl
  refine ⟨by simpa using h1, ?_⟩
  have := congrArg (List.drop 1) e
  simpa [List.drop_drop, Nat.add_comm] using this
theorem drop_nil {α : Type} {xs : List α} {i : Nat} (e : [] = xs.drop i) : xs[i]? = none := by
  have := congrArg List.length e
  simp at this
  simp; omega

theorem range_cons {n : Nat} {x step : Int} : (List.range (n + 1)).map (fun k : Nat => PyData.int (x + k * step)) = PyData.int x :: (List.range n).map (fun k : Nat => PyData.int (x + step + k * step)) := by
  rw [List.range_succ_eq_map, List.map_cons, List.map_map]
  congr 1
  · simp
  · apply List.map_congr_left
    intro k _
    simp only [Function.comp]
    congr 1
    push_cast
    rw [Int.add_mul, Int.one_mul]
    omega

theorem ItAt.next {x : PyData} {r : List PyData} (it : ItAt O s.heap I (x :: r)) {Q : Option Value → Shared → Prop}
    (hQ : ∀ v h' tk, Rep h' ρ O v (.dat x) → ItAt O h' I r → (∀ a o, a ≠ I → s.heap.get? a = some o → h'.get? a = some o) → s.toks ≤ tk → Q (some v) { s with heap := h', toks := tk }) :
    wpAny (model prog w) A (pyNext (.ref I)) Q E s := by
  obtain ⟨oI, hI, hodd⟩ := it.odd
  cases it with
  | @list l i xs as _ a b c d =>
    obtain ⟨e1, e2⟩ := drop_cons d
    cases b with
    | list h1 h2 h3 h4 =>
      obtain ⟨v, bs, f1, f2, f3⟩ := readsAll_getD h4 i x e1
      refine wpAny_pyNext_list_item a ⟨_, h1, h2, _, h3⟩ (by simpa using f1) fun h' a' hs' => ?_
      have hk : ∀ a o, a ≠ I → s.heap.get? a = some o → h'.get? a = some o := fun a o n e => (hs'.2 a n).trans e
      exact hQ v h' s.toks ⟨bs, reads_but hI hodd hk f2 (nodAll_get c.2 i x e1), fun q hq => c.1 q (List.mem_cons_of_mem _ (f3 q hq)), nodAll_get c.2 i x e1⟩ (.list a' (reads_but hI hodd hk (.list h1 h2 h3 h4) c.2) c e2) hk (Nat.le_refl _)
  | @tuple l i xs as _ a b c d =>
    obtain ⟨e1, e2⟩ := drop_cons d
    cases b with
    | tuple h1 h2 h3 h4 =>
      obtain ⟨v, bs, f1, f2, f3⟩ := readsAll_getD h4 i x e1
      refine wpAny_pyNext_tuple_item a ⟨_, h1, h2, _, h3⟩ (by simpa using f1) fun h' a' hs' => ?_
      have hk : ∀ a o, a ≠ I → s.heap.get? a = some o → h'.get? a = some o := fun a o n e => (hs'.2 a n).trans e
      exact hQ v h' s.toks ⟨bs, reads_but hI hodd hk f2 (nodAll_get c.2 i x e1), fun q hq => c.1 q (f3 q hq), nodAll_get c.2 i x e1⟩ (.tuple a' (reads_but hI hodd hk (.tuple h1 h2 h3 h4) c.2) c e2) hk (Nat.le_refl _)
  | @strA y t i _ a d =>
    cases hd : y.cps.toList.drop i with
    | nil => rw [hd] at d; cases d
    | cons c cs =>
      rw [hd] at d
      simp only [List.map_cons, List.cons.injEq] at d
      obtain ⟨e1, e2⟩ := drop_cons hd.symm
      refine wpAny_pyNext_ascii_item a (c := c) (by simpa using e1) fun h' a' hs' => ?_
      have hk : ∀ a o, a ≠ I → s.heap.get? a = some o → h'.get? a = some o := fun a o n e => (hs'.2 a n).trans e
      exact hQ _ h' _ ⟨[], by rw [d.1]; exact .str _ _, (fun _ h => nomatch h), by rw [d.1]; rfl⟩ (.strA a' (by rw [d.2, e2])) hk (Nat.le_succ _)
  | @strW y t i _ a d =>
    cases hd : y.cps.toList.drop i with
    | nil => rw [hd] at d; cases d
    | cons c cs =>
      rw [hd] at d
      simp only [List.map_cons, List.cons.injEq] at d
      obtain ⟨e1, e2⟩ := drop_cons hd.symm
      refine wpAny_pyNext_wide_item a (c := c) (by simpa using e1) fun h' a' hs' => ?_
      have hk : ∀ a o, a ≠ I → s.heap.get? a = some o → h'.get? a = some o := fun a o n e => (hs'.2 a n).trans e
      exact hQ _ h' _ ⟨[], by rw [d.1]; exact .str _ _, (fun _ h => nomatch h), by rw [d.1]; rfl⟩ (.strW a' (by rw [d.2, e2])) hk (Nat.le_succ _)
  | @range y left step _ a d =>
    cases hn : left.toNat with
    | zero => rw [hn] at d; cases d
    | succ n =>
      rw [hn, range_cons] at d
      simp only [List.cons.injEq] at d
      refine wpAny_pyNext_range_item a (by omega) fun h' a' hs' => ?_
      have hk : ∀ a o, a ≠ I → s.heap.get? a = some o → h'.get? a = some o := fun a o n e => (hs'.2 a n).trans e
      exact hQ _ h' _ ⟨[], by rw [d.1]; exact .int _ _, (fun _ h => nomatch h), by rw [d.1]; rfl⟩ (.range a' (by rw [d.2, show (left - 1).toNat = n by omega])) hk (Nat.le_succ _)

theorem ItAt.stop (hh : A.handled = none) (it : ItAt O s.heap I []) {Q : Option Value → Shared → Prop}
    (hQ : ∀ h', (∀ a o, a ≠ I → s.heap.get? a = some o → h'.get? a = some o) → Q none { s with heap := h' }) : wpAny (model prog w) A (pyNext (.ref I)) Q E s := by
  have hQ' : ∀ h', Heap.ExtBut I s.heap h' → Q none { s with heap := h' } := fun h' x => hQ h' x
  cases it with
  | list a b c d =>
    have e := drop_nil d
    cases b with
    | list h1 h2 h3 h4 =>
      have hl := readsAll_len h4
      exact wpAny_pyNext_list_end hh a ⟨_, h1, h2, _, h3⟩ (by simp at e hl ⊢; omega) hQ'
  | tuple a b c d =>
    have e := drop_nil d
    cases b with
    | tuple h1 h2 h3 h4 =>
      have hl := readsAll_len h4
      exact wpAny_pyNext_tuple_end hh a ⟨_, h1, h2, _, h3⟩ (by simp at e hl ⊢; omega) hQ'
  | @strA y t i _ a d =>
    have e : [] = y.cps.toList.drop i := (List.map_eq_nil_iff.mp d.symm).symm
    exact wpAny_pyNext_ascii_end hh a (by have := drop_nil e; simpa using this) hQ'
  | @strW y t i _ a d =>
    have e : [] = y.cps.toList.drop i := (List.map_eq_nil_iff.mp d.symm).symm
    exact wpAny_pyNext_wide_end hh a (by have := drop_nil e; simpa using this) hQ'
  | @range y left step _ a d =>
    have e := congrArg List.length d
    simp at e
    exact wpAny_pyNext_range_end hh a (by omega) hQ'

theorem ItAt.self {r : List PyData} (it : ItAt O s.heap I r) {Q : Value → Shared → Prop} (h : Q (.ref I) s) : wpAny (model prog w) A (pyIter (.ref I)) Q E s := by
  cases it with
  | list a _ _ _ => exact wpAny_pyIter_listiter a h
  | tuple a _ _ _ => exact wpAny_pyIter_tupleiter a h
  | strA a _ => exact wpAny_pyIter_striter_ascii a h
  | strW a _ => exact wpAny_pyIter_striter_wide a h
  | range a _ => exact wpAny_pyIter_rangeiter a h

theorem ItAt.lets {r : List PyData} (it : ItAt O s.heap I r) {t : Expr} {v : Value} {Q : Unit → Shared → Prop} (h : Q () s) : wpAny (model prog w) A (letOwnedTupleGo t (.ref I) v) Q E s := by
  obtain ⟨o, vs, ty, a, b, c, d⟩ := it.obj
  have key : wpAny (model prog w) A (do
      let (.ref r, .ref a) := (Value.ref I, v) | return
      let o ← load r
      match o.cls, o.data with
      | .type n, .fields vs =>
        if ["enumerate", "zip", "dict_itemiterator", "dict_reverseitemiterator", "odict_iterator", "itertools.zip_longest", "itertools.pairwise"].contains n && vs[0]? == some (rawInt a) then
          rule "for.unpacks-the-owned-tuple"
          updateField r 0 .none
      | _, _ => pure () : Sem Unit) Q E s := by
    cases v with
    | ref q =>
      refine wpAny_bind (wpAny_load a ?_)
      rw [b, c]
      have : (["enumerate", "zip", "dict_itemiterator", "dict_reverseitemiterator", "odict_iterator", "itertools.zip_longest", "itertools.pairwise"].contains ty) = false := by
        revert d; revert ty
        intro ty _ d
        simp only [loose, List.mem_cons, List.mem_singleton, List.not_mem_nil, or_false] at d
        rcases d with rfl | rfl | rfl | rfl | rfl <;> decide
      simp only [this, Bool.false_and, Bool.false_eq_true, if_false]
      exact wpAny_pure h
    | _ => exact wpAny_pure h
  unfold letOwnedTupleGo
  split
  · exact key
  · exact key
  · exact wpAny_pure h
end

/-! what can be walked over -/
def AItr (C : Ctx) (d : PV) (xs : List PyData) (st : St) : Prop :=
  ∀ v s ρ, Inv C st ρ s → Rep s.heap ρ (Mut C st.σ ρ) v d → ∀ (Q : Value → Shared → Prop),
    (∀ I h' tk, s.heap.get? I = none → (∀ a o, s.heap.get? a = some o → h'.get? a = some o) → s.toks ≤ tk → ItAt (Mut C st.σ ρ) h' I xs → Q (.ref I) { s with heap := h', toks := tk }) → wpAny (model C.prog C.w) C.A (pyIter v) Q NoE s

theorem get?_size (h : Heap) : h.get? h.objs.size = none := by
  cases e : h.get? h.objs.size with
  | none => rfl
  | some o => exact absurd (Heap.lt_size e) (Nat.lt_irrefl _)

section
variable {C : Ctx} {st : St}
theorem AItr_list {xs : List PyData} : AItr C (.dat (.list xs)) xs st := fun v s ρ I ⟨as, r, n, hd⟩ Q hQ => by
  cases r with
  | list h1 h2 h3 h4 =>
    refine wpAny_pyIter_list ⟨_, h1, h2, _, h3⟩ (hQ _ _ s.toks (get?_size _) (fun a o e => Heap.get?_push_of_some _ e) (Nat.le_refl _) ?_)
    exact .list ⟨_, Heap.get?_push_size _ rfl, rfl, rfl⟩ (Reads.keeps (fun a o e => Heap.get?_push_of_some _ e) (.list h1 h2 h3 h4)) ⟨n, hd⟩ rfl
theorem AItr_tuple {xs : List PyData} : AItr C (.dat (.tuple xs)) xs st := fun v s ρ I ⟨as, r, n, hd⟩ Q hQ => by
  cases r with
  | tuple h1 h2 h3 h4 =>
    refine wpAny_pyIter_tuple ⟨_, h1, h2, _, h3⟩ (hQ _ _ s.toks (get?_size _) (fun a o e => Heap.get?_push_of_some _ e) (Nat.le_refl _) ?_)
    exact .tuple ⟨_, Heap.get?_push_size _ rfl, rfl, rfl⟩ (Reads.keeps (fun a o e => Heap.get?_push_of_some _ e) (.tuple h1 h2 h3 h4)) ⟨n, hd⟩ rfl
theorem AItr_str {x : Str} : AItr C (.dat (.str x)) (strItems x) st := fun v s ρ I ⟨as, r, n, hd⟩ Q hQ => by
  cases r with
  | str _ t =>
    cases ha : x.cps.all (· < 128)
    · exact wpAny_pyIter_wide ha (hQ _ _ s.toks (get?_size _) (fun a o e => Heap.get?_push_of_some _ e) (Nat.le_refl _) (.strW (i := 0) ⟨_, Heap.get?_push_size _ rfl, rfl, rfl⟩ rfl))
    · exact wpAny_pyIter_ascii ha (hQ _ _ s.toks (get?_size _) (fun a o e => Heap.get?_push_of_some _ e) (Nat.le_refl _) (.strA (i := 0) ⟨_, Heap.get?_push_size _ rfl, rfl, rfl⟩ rfl))
theorem AItr_rng {a b c : Int} (hs : Builtin.Range.small a b c = true) : AItr C (.rng a b c) (rngItems a b c) st := fun v s ρ I ⟨r, t, u, q, e, hr⟩ Q hQ => by
  subst e
  exact wpAny_pyIter_range hr hs (hQ _ _ s.toks (get?_size _) (fun a o e => Heap.get?_push_of_some _ e) (Nat.le_refl _) (.range (Heap.get?_push_size _ rfl) rfl))

/-! assignment to a target -/
def AAsg (C : Ctx) (t : Expr) (d : PV) (st : St) (Q : St → Prop) : Prop :=
  ∀ v s ρ, Inv C st ρ s → Rep s.heap ρ (Mut C st.σ ρ) v d → wpAny (model C.prog C.w) C.A (assign t C.env v) (fun _ s' => ∃ st' ρ', Inv C st' ρ' s' ∧ Le C st ρ s st' ρ' s' ∧ Q st') NoE s
theorem AAsg_name {x : Str} {pos : Pos} {d : PV} {Q : St → Prop} (h : ASt C x d st Q) : AAsg C (.Name x pos) d st Q := fun v s ρ I r => PySem.wpAny_assign_Name (h v s ρ I r)

/-- names in a row, values in a row -/
def AAsgs (C : Ctx) : List Expr → List PV → St → (St → Prop) → Prop
  | t :: ts, d :: ds, st, Q => AAsg C t d st fun st' => AAsgs C ts ds st' Q
  | [], [], st, Q => Q st
  | _, _, _, _ => False

theorem AAsgs_wp (hC : Ok C) {Q : St → Prop} : ∀ (ts : List Expr) (ds : List PV) (vs : List Value) (st : St) (s : Shared) (ρ : List Addr), AAsgs C ts ds st Q → RepAll s.heap ρ (Mut C st.σ ρ) vs ds → Inv C st ρ s →
    (∀ t ∈ ts, ∀ e p, t ≠ .Starred e p) → wpAny (model C.prog C.w) C.A (assignInOrder ((assignEach ts C.env).map (·.2)) vs) (fun _ s' => ∃ st' ρ', Inv C st' ρ' s' ∧ Le C st ρ s st' ρ' s' ∧ Q st') NoE s
  | [], [], [], st, s, ρ, h, r, I, _ => wpAny_pure ⟨st, ρ, I, .refl, h⟩
  | t :: ts, d :: ds, v :: vs, st, s, ρ, h, r, I, hn => by
    have e : assignEach (t :: ts) C.env = (false, assign t C.env) :: assignEach ts C.env := by
      cases t <;> first | rfl | exact absurd rfl (hn _ List.mem_cons_self _ _)
    rw [e]
    show wpAny _ _ (holding vs (assign t C.env v) >>= fun _ => assignInOrder ((assignEach ts C.env).map (·.2)) vs) _ _ s
    refine wpAny_bind (wpAny_holding (wpAny_mono (h v s ρ I r.1) (fun _ s₁ ⟨st₁, ρ₁, I₁, L₁, h₁⟩ => ?_) fun _ _ x => x))
    exact wpAny_mono (AAsgs_wp hC ts ds vs st₁ s₁ ρ₁ h₁ (r.2.grow (I.grow hC L₁)) I₁ fun t ht => hn t (List.mem_cons_of_mem _ ht)) (fun _ _ ⟨st₂, ρ₂, I₂, L₂, h₂⟩ => ⟨st₂, ρ₂, I₂, L₁.trans L₂, h₂⟩) fun _ _ x => x
  | [], _ :: _, _, _, _, _, h, _, _, _ => h.elim
  | _ :: _, [], _, _, _, _, h, _, _, _ => h.elim
  | [], [], _ :: _, _, _, _, _, r, _, _ => r.elim
  | _ :: _, _ :: _, [], _, _, _, _, r, _, _ => r.elim

theorem repAll_dat {h : Heap} {ρ : List Addr} {O : Addr → Prop} : ∀ {vs : List Value} {ds : List PyData} {as : List Addr}, ReadsAll h vs ds as → (∀ a ∈ as, ¬ O a) → nodAll ds = true → RepAll h ρ O vs (ds.map .dat)
  | _, _, _, .nil, _, _ => trivial
  | _, _, _, .cons h1 h2, n, hd => ⟨⟨_, h1, fun a ha => n a (List.mem_append_left _ ha), (Bool.and_eq_true_iff.mp hd).1⟩, repAll_dat h2 (fun a ha => n a (List.mem_append_right _ ha)) (Bool.and_eq_true_iff.mp hd).2⟩

def plainTargets : List Expr → Bool
  | [] => true
  | .Starred .. :: _ => false
  | _ :: r => plainTargets r
theorem plainTargets_of : ∀ {ts : List Expr}, plainTargets ts = true → ∀ t ∈ ts, ∀ e p, t ≠ .Starred e p
  | t :: r, h, t', ht, e, p => by
    rcases List.mem_cons.mp ht with rfl | ht
    · rintro rfl; cases h
    · exact plainTargets_of (ts := r) (by cases t <;> first | exact h | cases h) t' ht e p
theorem assignEach_len {env : Env} : ∀ ts : List Expr, (assignEach ts env).length = ts.length
  | [] => rfl
  | t :: r => by cases t <;> (show (assignEach r env).length + 1 = _; rw [assignEach_len r]; rfl)
theorem assignEach_star {env : Env} : ∀ {ts : List Expr}, plainTargets ts = true → (assignEach ts env).findIdx? (·.1) = none
  | [], _ => rfl
  | t :: r, h => by
    have e : assignEach (t :: r) env = (false, assign t env) :: assignEach r env := by cases t <;> first | rfl | cases h
    have hr : plainTargets r = true := by cases t <;> first | exact h | cases h
    rw [e, List.findIdx?_cons]
    simp [assignEach_star (env := env) hr]

theorem AAsg_tuple (hC : Ok C) {ts : List Expr} {k : Nat} {pos : Pos} {xs : List PyData} {Q : St → Prop} (h : AAsgs C ts (xs.map .dat) st Q) (hlen : ts.length = xs.length) (hp : plainTargets ts = true := by rfl) : AAsg C (.Tuple ts k pos) (.dat (.tuple xs)) st Q := fun v s ρ I ⟨as, r, n, hd⟩ => by
  cases r with
  | @tuple a o items _ _ _ h1 h2 h3 h4 =>
    have hl := readsAll_len h4
    refine wpAny_assign_Tuple hC.handled ⟨_, h1, h2, _, h3⟩ (by rw [assignEach_len]; simp at hl; omega) (assignEach_star hp) fun h' hx => ?_
    have hk : ∀ b o, s.heap.get? b = some o → h'.get? b = some o := fun b o e => hx b o (Nat.ne_of_lt (Heap.lt_size e)) e
    have J := I.keeps hC (h' := h') (tk := s.toks) hk (Nat.le_refl _)
    exact wpAny_mono (AAsgs_wp hC ts _ _ st _ ρ h (repAll_dat (ReadsAll.keeps hk h4) n hd) J.1 (plainTargets_of hp)) (fun _ _ ⟨st₂, ρ₂, I₂, L₂, h₂⟩ => ⟨st₂, ρ₂, I₂, J.2.trans L₂, h₂⟩) fun _ _ x => x
end

/-! for -/
section
variable {C : Ctx} {st : St} {Q : Fl → St → Prop}

def ForBody (C : Ctx) (t : Expr) (b : List Stmt) (xs : List PyData) (st : St) (Q : Fl → St → Prop) : Prop :=
  ∃ J : List PyData → St → Prop, (∃ st', Wk st st' ∧ J xs st') ∧
    (∀ x r st, J (x :: r) st → AAsg C t (.dat x) st fun st₁ => AS C b st₁ fun f st₂ => match f with
        | .next | .cont => ∃ st₃, Wk st₂ st₃ ∧ J r st₃
        | .brk => Q .next st₂
        | .ret d => Q (.ret d) st₂) ∧
    ∀ st, J [] st → Q .next st

theorem AX_For (hC : Ok C) {t it : Expr} {b : List Stmt} {pos : Pos} (h : AE C it st fun d st₁ => ∃ xs, AItr C d xs st₁ ∧ ForBody C t b xs st₁ Q)
    (hs : ∀ x, foldedSetIterable it C.env x = pure x := by intro _; rfl) : AX C (.For t it b [] pos) st Q := fun s ρ Iv => by
  refine wpAny_For (h.use Iv fun v s₁ d st₁ ρ₁ I₁ L₁ r₁ ⟨xs, hit, J, ⟨st', hw, hJ⟩, turn, fin⟩ => ?_) hs
  refine hit v s₁ ρ₁ I₁ r₁ _ fun I h₂ tk₂ hfr hk₂ htk₂ it₂ => ?_
  have K₂ := I₁.keeps hC (h' := h₂) (tk := tk₂) hk₂ htk₂
  have hbase : C.s₀.heap.get? I = none := by
    cases e : C.s₀.heap.get? I with
    | none => rfl
    | some o => rw [I₁.keep _ _ e] at hfr; cases hfr
  have hnm : ¬ Mut C st₁.σ ρ₁ I := fun hm => by
    obtain ⟨o, ho⟩ : ∃ o, s₁.heap.get? I = some o := by
      rcases hm with rfl | ⟨x, hx⟩ | hx | ⟨i, l, h1, h2⟩
      · obtain ⟨m, ⟨o, _, _, h1, _⟩, _⟩ := I₁.ns; exact ⟨o, h1⟩
      · obtain ⟨u, ⟨o, h1, _⟩, _⟩ := I₁.cell x I hx; exact ⟨o, h1⟩
      · obtain ⟨o, h1, _⟩ := hC.soft I hx; exact ⟨o, I₁.keep _ _ h1⟩
      · obtain ⟨a, vs, e1, ⟨n, g1⟩, _⟩ := I₁.own i l h1
        rw [h2] at e1; cases e1; exact ⟨_, g1⟩
    rw [hfr] at ho; cases ho
  refine codeAny_forLoop_any (fun n s₃ => ∃ st₃ ρ₃ r, n = List.length r ∧ Inv C st₃ ρ₃ s₃ ∧ Le C st ρ s st₃ ρ₃ s₃ ∧ ItAt (Mut C st₃.σ ρ₃) s₃.heap I r ∧ ¬ Mut C st₃.σ ρ₃ I ∧ J r st₃ ∧ (∀ a o, s.heap.get? a = some o → a ≠ I)) ?_ xs.length
    ⟨st', ρ₁, xs, rfl, K₂.1.weak hw, (L₁.trans K₂.2).weak hw, ?_, ?_, hJ, ?_⟩
  · rintro n s₃ ⟨st₃, ρ₃, r, rfl, I₃, L₃, it₃, hn₃, hJ₃, hne⟩
    obtain ⟨oI, hI, hodd⟩ := it₃.odd
    cases r with
    | nil =>
      refine it₃.stop hC.handled fun h₄ hk₄ => ?_
      have I₄ := I₃.but hI hodd hn₃ hbase (h' := h₄) (tk := s₃.toks) hk₄ (Nat.le_refl _)
      refine wpAny_execs_nil ⟨.next, st₃, ρ₃, I₄, ⟨fun a o e q => ?_, L₃.rho, fun a o e => let ⟨o', h'⟩ := L₃.ex a o e; ⟨o', hk₄ a o' (hne a o e) h'⟩⟩, trivial, fin _ hJ₃⟩
      have := L₃.keep a o e q
      exact ⟨hk₄ a o (hne a o e) this.1, this.2⟩
    | cons x r =>
      refine it₃.next (ρ := ρ₃) fun v h₄ tk₄ rv it₄ hk₄ htk₄ => ?_
      have I₄ := I₃.but hI hodd hn₃ hbase (h' := h₄) (tk := tk₄) hk₄ htk₄
      refine it₄.lets ?_
      refine wpAny_mono (turn x r st₃ hJ₃ v _ ρ₃ I₄ rv) (fun _ s₅ ⟨st₅, ρ₅, I₅, L₅, h₅⟩ => ?_) noE_noted
      refine wpAny_mono (h₅ s₅ ρ₅ I₅) (fun f s₆ ⟨g, st₆, ρ₆, I₆, L₆, r₆, h₆⟩ => ?_) noE_noted
      have L₄₆ := L₅.trans L₆
      have Lall : Le C st ρ s st₆ ρ₆ s₆ := ⟨fun a o e q => by
        have h1 := L₃.keep a o e q
        exact L₄₆.keep a o (hk₄ a o (hne a o e) h1.1) h1.2, fun i a e => L₄₆.rho i a (L₃.rho i a e), fun a o e => let ⟨o', h'⟩ := L₃.ex a o e; L₄₆.ex a o' (hk₄ a o' (hne a o e) h')⟩
      obtain ⟨oI₄, hI₄, hodd₄⟩ := it₄.odd
      cases f <;> cases g <;> first
        | exact r₆.elim
        | (obtain ⟨st₇, hw₇, hJ₇⟩ := h₆
           refine ⟨r.length, Nat.lt_succ_self _, st₇, ρ₆, r, rfl, I₆.weak hw₇, Lall.weak hw₇, ?_, ?_, hJ₇, hne⟩
           · have := it₄.grow (I₄.grow hC L₄₆) hn₃
             rw [← hw₇.1] at this; exact this
           · have := (L₄₆.keep I oI₄ hI₄ hn₃).2
             rw [← hw₇.1] at this; exact this)
        | exact ⟨.next, st₆, ρ₆, I₆, Lall, trivial, h₆⟩
        | exact ⟨_, st₆, ρ₆, I₆, Lall, r₆, h₆⟩
  · rw [hw.1]; exact it₂
  · rw [hw.1]; exact hnm
  · rintro a o e rfl
    obtain ⟨o', h'⟩ := L₁.ex a o e
    rw [hfr] at h'; cases h'
end
end Mine

end
section
open PySem PySem.W PyProof.Rows PySem.Calls
namespace Mine
set_option linter.all false

section
variable {C : Ctx} {st : St} {Q : PV → St → Prop}

/-! expressions in a row -/
def AEs (C : Ctx) (pos : Pos) (es : List Expr) (st : St) (Q : List PV → St → Prop) : Prop := AG RepAll C (spliced (backTo pos (starEach es C.env))) st Q
theorem AEs_nil {pos : Pos} {Q : List PV → St → Prop} (h : Q [] st) : AEs C pos [] st Q := fun s ρ I => wpAny_pure ⟨[], st, ρ, I, .refl, trivial, h⟩
theorem AEs_cons (hC : Ok C) {pos : Pos} {e : Expr} {es : List Expr} {Q : List PV → St → Prop} (h : AE C e st fun d st₁ => AEs C pos es st₁ fun ds st₂ => Q (d :: ds) st₂)
    (he : starEach (e :: es) C.env = (false, eval e C.env) :: starEach es C.env := by rfl) : AEs C pos (e :: es) st Q := fun s ρ I => by
  rw [he]
  show wpAny _ _ (spliced ((false, eval e C.env) :: backTo pos (starEach es C.env))) _ _ s
  exact spliced_cons (h.use I fun a s₁ d st₁ ρ₁ I₁ L₁ r₁ h₁ => AG.use h₁ I₁ fun b s₂ ds st₂ ρ₂ I₂ L₂ r₂ h₂ =>
    ⟨d :: ds, st₂, ρ₂, I₂, L₁.trans L₂, ⟨r₁.grow (I₁.grow hC L₂), r₂⟩, h₂⟩)

theorem repAll_reads {h : Heap} {ρ : List Addr} {O : Addr → Prop} : ∀ {vs : List Value} {xs : List PyData}, RepAll h ρ O vs (xs.map .dat) → ∃ as, ReadsAll h vs xs as ∧ (∀ a ∈ as, ¬ O a) ∧ nodAll xs = true
  | [], [], _ => ⟨[], .nil, (fun _ h => nomatch h), rfl⟩
  | _ :: _, _ :: _, ⟨⟨as, r, n, hd⟩, b⟩ => by
    obtain ⟨bs, r', n', hd'⟩ := repAll_reads b
    exact ⟨as ++ bs, .cons r r', fun a ha => (List.mem_append.mp ha).elim (n a) (n' a), Bool.and_eq_true_iff.mpr ⟨hd, hd'⟩⟩
  | [], _ :: _, h => h.elim
  | _ :: _, [], h => h.elim
theorem repAll_len {h : Heap} {ρ : List Addr} {O : Addr → Prop} : ∀ {vs : List Value} {ds : List PV}, RepAll h ρ O vs ds → vs.length = ds.length
  | [], [], _ => rfl
  | _ :: _, _ :: _, ⟨_, b⟩ => by rw [List.length_cons, List.length_cons, repAll_len b]
  | [], _ :: _, h => h.elim
  | _ :: _, [], h => h.elim
theorem repAll_get {h : Heap} {ρ : List Addr} {O : Addr → Prop} : ∀ {vs : List Value} {ds : List PV}, RepAll h ρ O vs ds → ∀ (i : Nat) (d : PV), ds[i]? = some d → ∃ v, vs[i]? = some v ∧ Rep h ρ O v d
  | [], [], _, i, d, e => by simp at e
  | v :: _, _ :: _, ⟨a, b⟩, 0, d, e => by simp at e; subst e; exact ⟨v, rfl, a⟩
  | _ :: _, _ :: _, ⟨a, b⟩, i + 1, d, e => by simp at e ⊢; exact repAll_get b i d e
  | [], _ :: _, h, _, _, _ => h.elim
  | _ :: _, [], h, _, _, _ => h.elim
theorem repAll_append {h : Heap} {ρ : List Addr} {O : Addr → Prop} : ∀ {vs : List Value} {ds : List PV} {ws : List Value} {es : List PV}, RepAll h ρ O vs ds → RepAll h ρ O ws es → RepAll h ρ O (vs ++ ws) (ds ++ es)
  | [], [], _, _, _, r => r
  | _ :: _, _ :: _, _, _, ⟨a, b⟩, r => ⟨a, repAll_append b r⟩
  | [], _ :: _, _, _, h, _ => h.elim
  | _ :: _, [], _, _, h, _ => h.elim
theorem repAll_set {h : Heap} {ρ : List Addr} {O : Addr → Prop} {v : Value} {d : PV} (hr : Rep h ρ O v d) : ∀ {vs : List Value} {ds : List PV} (i : Nat), RepAll h ρ O vs ds → RepAll h ρ O (vs.set i v) (ds.set i d)
  | [], [], _, _ => trivial
  | _ :: _, _ :: _, 0, ⟨a, b⟩ => ⟨hr, b⟩
  | _ :: _, _ :: _, i + 1, ⟨a, b⟩ => ⟨a, repAll_set hr i b⟩
  | [], _ :: _, _, h => h.elim
  | _ :: _, [], _, h => h.elim
theorem repAll_take {h : Heap} {ρ : List Addr} {O : Addr → Prop} : ∀ {vs : List Value} {ds : List PV} (i : Nat), RepAll h ρ O vs ds → RepAll h ρ O (vs.take i) (ds.take i)
  | [], [], i, _ => by simp; trivial
  | _ :: _, _ :: _, 0, _ => trivial
  | _ :: _, _ :: _, i + 1, ⟨a, b⟩ => ⟨a, repAll_take i b⟩
  | [], _ :: _, _, h => h.elim
  | _ :: _, [], _, h => h.elim

theorem mut_has (hC : Ok C) {ρ : List Addr} {s : Shared} (I : Inv C st ρ s) {a : Addr} (h : Mut C st.σ ρ a) : ∃ o, s.heap.get? a = some o := by
  rcases h with rfl | ⟨x, hx⟩ | hx | ⟨i, l, h1, h2⟩
  · obtain ⟨m, ⟨o, _, _, h1, _⟩, _⟩ := I.ns; exact ⟨o, h1⟩
  · obtain ⟨u, ⟨o, h1, _⟩, _⟩ := I.cell x a hx; exact ⟨o, h1⟩
  · obtain ⟨o, h1, _⟩ := hC.soft a hx; exact ⟨o, I.keep _ _ h1⟩
  · obtain ⟨a', vs, e1, ⟨n, g1⟩, _⟩ := I.own i l h1
    rw [h2] at e1; cases e1; exact ⟨_, g1⟩

/-- a new list that nobody will write -/
theorem Post.list (hC : Ok C) {ρ : List Addr} {s : Shared} (I : Inv C st ρ s) {vs : List Value} {xs : List PyData} (hr : RepAll s.heap ρ (Mut C st.σ ρ) vs (xs.map .dat)) {n : Nat} (h : Q (.dat (.list xs)) st) :
    Post Rep C st ρ s Q (.ref s.heap.objs.size) { s with heap := s.heap.push { cls := .type "list", data := .seq vs.toArray n } } := by
  obtain ⟨as, r, na, hd⟩ := repAll_reads hr
  have J := I.push hC { cls := .type "list", data := .seq vs.toArray n }
  refine ⟨.dat (.list xs), st, ρ, J.1, J.2, ⟨s.heap.objs.size :: as, .list (Heap.get?_push_size _ rfl) rfl rfl (ReadsAll.keeps (fun _ _ e => Heap.get?_push_of_some _ e) r), fun a ha => ?_, hd⟩, h⟩
  rcases List.mem_cons.mp ha with rfl | ha
  · intro hm
    obtain ⟨o, ho⟩ := mut_has hC I hm
    exact absurd (Heap.lt_size ho) (Nat.lt_irrefl _)
  · exact na a ha
theorem Post.tuple (hC : Ok C) {ρ : List Addr} {s : Shared} (I : Inv C st ρ s) {vs : List Value} {xs : List PyData} (hr : RepAll s.heap ρ (Mut C st.σ ρ) vs (xs.map .dat)) {n : Nat} (h : Q (.dat (.tuple xs)) st) :
    Post Rep C st ρ s Q (.ref s.heap.objs.size) { s with heap := s.heap.push { cls := .type "tuple", data := .seq vs.toArray n } } := by
  obtain ⟨as, r, na, hd⟩ := repAll_reads hr
  have J := I.push hC { cls := .type "tuple", data := .seq vs.toArray n }
  exact ⟨.dat (.tuple xs), st, ρ, J.1, J.2, ⟨as, .tuple (Heap.get?_push_size _ rfl) rfl rfl (ReadsAll.keeps (fun _ _ e => Heap.get?_push_of_some _ e) r), na, hd⟩, h⟩

def St.new (st : St) (l : List PV) : St := { st with σ := st.σ ++ [some l] }
/-- a new list of the frame's own -/
theorem Post.own (hC : Ok C) {ρ : List Addr} {s : Shared} (I : Inv C st ρ s) {vs : List Value} {ds : List PV} (hr : RepAll s.heap ρ (Mut C st.σ ρ) vs ds) {n : Nat} (h : Q (.own st.σ.length) (st.new ds)) :
    Post Rep C st ρ s Q (.ref s.heap.objs.size) { s with heap := s.heap.push { cls := .type "list", data := .seq vs.toArray n } } := by
  have J := I.push hC { cls := .type "list", data := .seq vs.toArray n }
  have hfree : ∀ a, (∃ o, s.heap.get? a = some o) → a ≠ s.heap.objs.size := fun a ⟨o, ho⟩ q => absurd (Heap.lt_size ho) (by rw [q]; exact Nat.lt_irrefl _)
  have hmut : ∀ a, Mut C (st.σ ++ [some ds]) (ρ ++ [s.heap.objs.size]) a ↔ Mut C st.σ ρ a ∨ a = s.heap.objs.size := by
    intro a
    constructor
    · rintro (h | h | h | ⟨i, l, h1, h2⟩)
      · exact .inl (.inl h)
      · exact .inl (.inr (.inl h))
      · exact .inl (.inr (.inr (.inl h)))
      · by_cases hi : i < st.σ.length
        · rw [List.getElem?_append_left hi] at h1
          rw [List.getElem?_append_left (by rw [I.len]; exact hi)] at h2
          exact .inl (.inr (.inr (.inr ⟨i, l, h1, h2⟩)))
        · have hi' : i = st.σ.length := by
            have := (List.getElem?_eq_some_iff.mp h1).1
            simp at this; omega
          subst hi'
          rw [← I.len] at h2
          simp at h2
          exact .inr h2.symm
    · rintro ((h | h | h | ⟨i, l, h1, h2⟩) | rfl)
      · exact .inl h
      · exact .inr (.inl h)
      · exact .inr (.inr (.inl h))
      · refine .inr (.inr (.inr ⟨i, l, ?_, ?_⟩))
        · rw [List.getElem?_append_left (List.getElem?_eq_some_iff.mp h1).1]; exact h1
        · rw [List.getElem?_append_left (List.getElem?_eq_some_iff.mp h2).1]; exact h2
      · exact .inr (.inr (.inr ⟨st.σ.length, ds, by simp, by rw [← I.len]; simp⟩))
  have L : Le C st ρ s (st.new ds) (ρ ++ [s.heap.objs.size]) { s with heap := s.heap.push { cls := .type "list", data := .seq vs.toArray n } } :=
    ⟨fun a o e q => ⟨Heap.get?_push_of_some _ e, fun hm => ((hmut a).mp hm).elim q fun z => hfree a ⟨o, e⟩ z⟩,
      fun i a e => by rw [List.getElem?_append_left (List.getElem?_eq_some_iff.mp e).1]; exact e, fun a o e => ⟨o, Heap.get?_push_of_some _ e⟩⟩
  have g := I.grow hC L
  have hself : (s.heap.push { cls := .type "list", data := .seq vs.toArray n }).PlainList s.heap.objs.size vs.toArray := ⟨n, Heap.get?_push_size _ rfl⟩
  have hnone : C.s₀.heap.get? s.heap.objs.size = none := by
    cases e : C.s₀.heap.get? s.heap.objs.size with
    | none => rfl
    | some o => exact absurd (Heap.lt_size (I.keep _ _ e)) (Nat.lt_irrefl _)
  refine ⟨.own st.σ.length, st.new ds, ρ ++ [s.heap.objs.size], ⟨J.1.same, J.1.keep, J.1.tok, ?_, ?_, ?_, ?_, ?_⟩, L, ⟨s.heap.objs.size, by rw [← I.len]; simp, rfl⟩, h⟩
  · obtain ⟨m, h1, h2⟩ := I.ns
    exact ⟨m, h1.push _, fun x d e k => let ⟨v, e1, e2⟩ := h2 x d e k; ⟨v, e1, e2.grow g⟩⟩
  · intro x c hx
    obtain ⟨u, h1, h2⟩ := I.cell x c hx
    exact ⟨u, h1.keeps (fun b o e => Heap.get?_push_of_some _ e), fun d e k => let ⟨v, e1, e2⟩ := h2 d e k; ⟨v, e1, e2.grow g⟩⟩
  · intro i l hi
    by_cases hlt : i < st.σ.length
    · have hi' : st.σ[i]? = some (some l) := by
        have : (st.σ ++ [some ds])[i]? = some (some l) := hi
        rwa [List.getElem?_append_left hlt] at this
      obtain ⟨a, ws, e1, ⟨n', g1⟩, e3, e4⟩ := I.own i l hi'
      exact ⟨a, ws, by rw [List.getElem?_append_left (by rw [I.len]; exact hlt)]; exact e1, ⟨n', Heap.get?_push_of_some _ g1⟩, e3.grow g, e4⟩
    · have hi2 : (st.σ ++ [some ds])[i]? = some (some l) := hi
      have hi' : i = st.σ.length := by
        have := (List.getElem?_eq_some_iff.mp hi2).1
        simp at this; omega
      subst hi'
      simp at hi2
      subst hi2
      exact ⟨s.heap.objs.size, vs, by rw [← I.len]; simp, hself, hr.grow g, hnone⟩
  · intro i j a l l' hi hj ei ej
    have key : ∀ (k : Nat) (lk : List PV), (st.σ ++ [some ds])[k]? = some (some lk) → (ρ ++ [s.heap.objs.size])[k]? = some a → (k < st.σ.length ∧ st.σ[k]? = some (some lk) ∧ ρ[k]? = some a ∧ a ≠ s.heap.objs.size) ∨ (k = st.σ.length ∧ a = s.heap.objs.size) := by
      intro k lk h1 h2
      by_cases hlt : k < st.σ.length
      · rw [List.getElem?_append_left hlt] at h1
        rw [List.getElem?_append_left (by rw [I.len]; exact hlt)] at h2
        exact .inl ⟨hlt, h1, h2, hfree a (mut_has hC I (.inr (.inr (.inr ⟨k, lk, h1, h2⟩))))⟩
      · have hk : k = st.σ.length := by
          have := (List.getElem?_eq_some_iff.mp h1).1
          simp at this; omega
        subst hk
        rw [← I.len] at h2
        simp at h2
        exact .inr ⟨rfl, h2.symm⟩
    rcases key i l hi ei with ⟨_, a1, a2, a3⟩ | ⟨a1, a2⟩ <;> rcases key j l' hj ej with ⟨_, b1, b2, b3⟩ | ⟨b1, b2⟩
    · exact I.inj i j a l l' a1 b1 a2 b2
    · exact absurd b2 a3
    · exact absurd a2 b3
    · omega
  · show (ρ ++ [s.heap.objs.size]).length = (st.σ ++ [some ds]).length
    rw [List.length_append, List.length_append, I.len]; rfl

theorem newList_step {M : Model} {A : Around} {E : Value → Shared → Prop} {s : Shared} {vs : List Value} {Q : Value → Shared → Prop} (h : Q (.ref s.heap.objs.size) { s with heap := s.heap.push { cls := .type "list", data := .seq vs.toArray } }) (hsz : vs.length ≤ sizeLine) : wpAny M A (newList vs) Q E s :=
  wpAny_newObj_type h (by show vs.toArray.size ≤ sizeLine; rw [List.size_toArray]; exact hsz)
theorem newTuple_step {M : Model} {A : Around} {E : Value → Shared → Prop} {s : Shared} {vs : List Value} {Q : Value → Shared → Prop} (h : Q (.ref s.heap.objs.size) { s with heap := s.heap.push { cls := .type "tuple", data := .seq vs.toArray } }) (hsz : vs.length ≤ sizeLine) : wpAny M A (newTuple vs) Q E s :=
  wpAny_newObj_type h (by show vs.toArray.size ≤ sizeLine; rw [List.size_toArray]; exact hsz)

theorem AE_List (hC : Ok C) {es : List Expr} {pos : Pos} (h : AEs C pos es st fun ds st₁ => ds.length ≤ sizeLine ∧ ∃ xs, ds = xs.map .dat ∧ Q (.dat (.list xs)) st₁) : AE C (.List es pos) st Q := fun s ρ I =>
  List_ (h.use I fun vs s₁ ds st₁ ρ₁ I₁ L₁ r₁ ⟨hsz, xs, e, h₁⟩ => newList_step (by subst e; exact (Post.list hC I₁ r₁ h₁).le L₁) (by rw [repAll_len r₁]; exact hsz))
theorem AE_ListOwn (hC : Ok C) {es : List Expr} {pos : Pos} (h : AEs C pos es st fun ds st₁ => ds.length ≤ sizeLine ∧ Q (.own st₁.σ.length) (st₁.new ds)) : AE C (.List es pos) st Q := fun s ρ I =>
  List_ (h.use I fun vs s₁ ds st₁ ρ₁ I₁ L₁ r₁ ⟨hsz, h₁⟩ => newList_step ((Post.own hC I₁ r₁ h₁).le L₁) (by rw [repAll_len r₁]; exact hsz))
theorem AE_Tuple (hC : Ok C) {es : List Expr} {k : Nat} {pos : Pos} (h : AEs C pos es st fun ds st₁ => ds.length ≤ sizeLine ∧ ∃ xs, ds = xs.map .dat ∧ Q (.dat (.tuple xs)) st₁) : AE C (.Tuple es k pos) st Q := fun s ρ I =>
  Tuple_ (h.use I fun vs s₁ ds st₁ ρ₁ I₁ L₁ r₁ ⟨hsz, xs, e, h₁⟩ => newTuple_step (by subst e; exact (Post.tuple hC I₁ r₁ h₁).le L₁) (by rw [repAll_len r₁]; exact hsz))

/-! an own list written -/
def St.upd (st : St) (i : Nat) (l : List PV) : St := { st with σ := st.σ.set i (some l) }

theorem Inv.upd (hC : Ok C) {ρ : List Addr} {s : Shared} (I : Inv C st ρ s) {i : Nat} {l l' : List PV} {a : Addr} {vs' : List Value} {h' : Heap} {tk : Nat} (hi : st.σ[i]? = some (some l)) (ha : ρ[i]? = some a)
    (hl' : h'.PlainList a vs'.toArray) (hs' : Heap.SameBut a s.heap h') (hr : RepAll s.heap ρ (Mut C st.σ ρ) vs' l') (htk : s.toks ≤ tk) :
    Inv C (st.upd i l') ρ { s with heap := h', toks := tk } ∧ Le C st ρ s (st.upd i l') ρ { s with heap := h', toks := tk } := by
  have hlt := (List.getElem?_eq_some_iff.mp hi).1
  have hset : ∀ (j : Nat) (m : List PV), (st.σ.set i (some l'))[j]? = some (some m) → (j = i ∧ m = l') ∨ (j ≠ i ∧ st.σ[j]? = some (some m)) := by
    intro j m h
    rw [List.getElem?_set] at h
    by_cases q : i = j
    · rw [if_pos q] at h
      subst q
      rw [if_pos hlt] at h
      cases h
      exact .inl ⟨rfl, rfl⟩
    · rw [if_neg q] at h
      exact .inr ⟨fun e => q e.symm, h⟩
  have hmut : ∀ b, Mut C (st.σ.set i (some l')) ρ b ↔ Mut C st.σ ρ b := by
    intro b
    constructor
    · rintro (h | h | h | ⟨j, m, h1, h2⟩)
      · exact .inl h
      · exact .inr (.inl h)
      · exact .inr (.inr (.inl h))
      · rcases hset j m h1 with ⟨rfl, _⟩ | ⟨_, h⟩
        · exact .inr (.inr (.inr ⟨_, l, hi, h2⟩))
        · exact .inr (.inr (.inr ⟨j, m, h, h2⟩))
    · rintro (h | h | h | ⟨j, m, h1, h2⟩)
      · exact .inl h
      · exact .inr (.inl h)
      · exact .inr (.inr (.inl h))
      · by_cases q : j = i
        · subst q
          exact .inr (.inr (.inr ⟨j, l', by rw [List.getElem?_set_self hlt], h2⟩))
        · exact .inr (.inr (.inr ⟨j, m, by rw [List.getElem?_set_ne (fun e => q e.symm)]; exact h1, h2⟩))
  have hma : Mut C st.σ ρ a := .inr (.inr (.inr ⟨i, l, hi, ha⟩))
  obtain ⟨a', vs, e1, hpl, _, hbase⟩ := I.own i l hi
  rw [ha] at e1; cases e1
  have hk : ∀ b o, b ≠ a → s.heap.get? b = some o → h'.get? b = some o := fun b o n e => (hs'.2 b n).trans e
  have L : Le C st ρ s (st.upd i l') ρ { s with heap := h', toks := tk } :=
    ⟨fun b o e q => ⟨hk b o (fun z => q (z ▸ hma)) e, fun z => q ((hmut b).mp z)⟩, fun _ _ e => e, fun b o e => by
      by_cases z : b = a
      · obtain ⟨n, hn⟩ := hl'; exact ⟨_, z ▸ hn⟩
      · exact ⟨o, hk b o z e⟩⟩
  have g := I.grow hC L
  obtain ⟨np, hpl⟩ := hpl
  refine ⟨⟨?_, fun b o e => hk b o (by rintro rfl; rw [hbase] at e; cases e) (I.keep b o e), Nat.le_trans I.tok htk, ?_, ?_, ?_, ?_, ?_⟩, L⟩
  · obtain ⟨h, tk', e⟩ := I.same; exact ⟨h', tk, by rw [e]⟩
  · obtain ⟨m, h1, h2⟩ := I.ns
    refine ⟨m, h1.sameBut hs' (fun z => ?_), fun x d e k => let ⟨v, e1, e2⟩ := h2 x d e k; ⟨v, e1, e2.grow g⟩⟩
    obtain ⟨o, es, ep, g1, g2, _⟩ := h1
    rw [z, hpl] at g1; cases g1; cases g2
  · intro x c hx
    obtain ⟨u, h1, h2⟩ := I.cell x c hx
    refine ⟨u, h1.sameBut hs' (fun z => ?_), fun d e k => let ⟨v, e1, e2⟩ := h2 d e k; ⟨v, e1, e2.grow g⟩⟩
    obtain ⟨o, g1, g2⟩ := h1
    rw [z, hpl] at g1; cases g1; cases g2
  · intro j m hj
    rcases hset j m hj with ⟨rfl, rfl⟩ | ⟨hne, h⟩
    · exact ⟨a, vs', ha, hl', hr.grow g, hbase⟩
    · obtain ⟨b, ws, f1, ⟨n', f2⟩, f3, f4⟩ := I.own j m h
      exact ⟨b, ws, f1, ⟨n', hk b _ (fun z => hne (I.inj j i b m l h hi f1 (z ▸ ha))) f2⟩, f3.grow g, f4⟩
  · intro j k b m m' hj hk' ej ek
    have up : ∀ (j : Nat) (m : List PV), (st.upd i l').σ[j]? = some (some m) → ∃ m, st.σ[j]? = some (some m) := fun j m h => by
      rcases hset j m h with ⟨rfl, _⟩ | ⟨_, h⟩
      · exact ⟨l, hi⟩
      · exact ⟨m, h⟩
    obtain ⟨m1, h1⟩ := up j m hj
    obtain ⟨m2, h2⟩ := up k m' hk'
    exact I.inj j k b m1 m2 h1 h2 ej ek
  · show ρ.length = (st.σ.set i (some l')).length
    rw [List.length_set]; exact I.len

/-! calls of built-ins -/
def ACallB (C : Ctx) (id : String) (ds : List PV) (st : St) (Q : PV → St → Prop) : Prop :=
  ∀ vs s ρ, Inv C st ρ s → RepAll s.heap ρ (Mut C st.σ ρ) vs ds → wpAny (model C.prog C.w) C.A (call (.builtin id) vs) (Post Rep C st ρ s Q) NoE s
def ACallT (C : Ctx) (T : String) (ds : List PV) (st : St) (Q : PV → St → Prop) : Prop :=
  ∀ vs s ρ, Inv C st ρ s → RepAll s.heap ρ (Mut C st.σ ρ) vs ds → wpAny (model C.prog C.w) C.A (call (.type T) vs) (Post Rep C st ρ s Q) NoE s
def AGm (C : Ctx) (d : PV) (name : Str) (id : String) (st : St) : Prop :=
  ∀ v s ρ, Inv C st ρ s → Rep s.heap ρ (Mut C st.σ ρ) v d → ∀ (pl : Sem Bool) (Q : Value × List Value → Shared → Prop), Q (.builtin id, [v]) s → wpAny (model C.prog C.w) C.A (getMethod v name pl) Q NoE s

theorem starEach_plain {env : Env} {pos : Pos} : ∀ {es : List Expr}, plainTargets es = true → (backTo pos (starEach es env)).any (·.1) = false
  | [], _ => rfl
  | e :: r, h => by
    have e1 : starEach (e :: r) env = (false, eval e env) :: starEach r env := by cases e <;> first | rfl | cases h
    have hr : plainTargets r = true := by cases e <;> first | exact h | cases h
    rw [e1]
    show (false || (backTo pos (starEach r env)).any (·.1)) = false
    rw [starEach_plain (env := env) (pos := pos) hr]; rfl
theorem starEach_cons {env : Env} {e : Expr} {r : List Expr} (h : plainTargets (e :: r) = true) : starEach (e :: r) env = (false, eval e env) :: starEach r env := by cases e <;> first | rfl | cases h

theorem evalArgs_nil' {M : Model} {A : Around} {E : Value → Shared → Prop} {s : Shared} {f : Value} {Q : Args → Shared → Prop} (h : wpAny M A (spliced []) (fun vs s' => Q ⟨vs, []⟩ s') E s) : wpAny M A (evalArgs f true [] []) Q E s := by
  unfold evalArgs
  show wpAny M A (spliced [] >>= _) Q E s
  refine wpAny_bind (wpAny_mono h (fun vs s' h' => ?_) fun _ _ x => x)
  refine wpAny_holding ?_
  exact wpAny_bind (wpAny_pure (wpAny_bind (wpAny_pure (wpAny_pure h'))))
theorem evalArgs_es {f : Value} {pos : Pos} {es : List Expr} {s : Shared} {M : Model} {A : Around} {E : Value → Shared → Prop} {env : Env} {Q : Args → Shared → Prop} (hp : plainTargets es = true)
    (h : wpAny M A (spliced (backTo pos (starEach es env))) (fun vs s' => Q ⟨vs, []⟩ s') E s) : wpAny M A (evalArgs f true (backTo pos (starEach es env)) []) Q E s := by
  cases es with
  | nil => exact evalArgs_nil' h
  | cons e r =>
    rw [starEach_cons hp] at h ⊢
    exact evalArgs_plain h

theorem callWith_B (hC : Ok C) {pos : Pos} {id : String} {first : List Value} {fs : List PV} {es : List Expr} {s : Shared} {ρ : List Addr} (I : Inv C st ρ s) (hf : RepAll s.heap ρ (Mut C st.σ ρ) first fs) (hp : plainTargets es = true)
    (h : AEs C pos es st fun ds st₁ => ACallB C id (fs ++ ds) st₁ Q) : wpAny (model C.prog C.w) C.A (callWith pos (.builtin id) first (backTo pos (starEach es C.env)) []) (Post Rep C st ρ s Q) NoE s :=
  callWith_builtin (starEach_plain hp) (evalArgs_es hp (AG.use h I fun vs s₁ ds st₁ ρ₁ I₁ L₁ r₁ h₁ =>
    wpAny_mono (h₁ _ s₁ ρ₁ I₁ (repAll_append (hf.grow (I.grow hC L₁)) r₁)) (fun _ _ p => p.le L₁) fun _ _ x => x))

/-- a call of a built-in function by its name -/
theorem AE_callB (hC : Ok C) {f : Expr} {es : List Expr} {pos : Pos} {id : String} (h : AE C f st fun d st₁ => d = .val (.builtin id) ∧ AEs C pos es st₁ fun ds st₂ => ACallB C id ds st₂ Q)
    (hp : plainTargets es = true := by rfl)
    (he : eval (.Call f es [] pos) C.env = (do callWith pos (← eval f C.env) [] (backTo pos (starEach es C.env)) []) := by rfl) : AE C (.Call f es [] pos) st Q := fun s ρ I => by
  rw [he]
  refine wpAny_bind (h.use I fun v s₁ d st₁ ρ₁ I₁ L₁ r₁ ⟨e, h₁⟩ => ?_)
  subst e
  have e : v = .builtin id := r₁
  subst e
  exact wpAny_mono (callWith_B hC I₁ (fs := []) trivial hp h₁) (fun _ _ p => p.le L₁) fun _ _ x => x

/-- a method of a value -/
theorem AE_meth (hC : Ok C) {o : Expr} {name : Str} {es : List Expr} {apos pos : Pos} {id : String} (h : AE C o st fun d st₁ => AGm C d name id st₁ ∧ AEs C pos es st₁ fun ds st₂ => ACallB C id (d :: ds) st₂ Q)
    (hp : plainTargets es = true := by rfl)
    (he : ∃ pl, eval (.Call (.Attribute o name apos) es [] pos) C.env = (do
      let ov ← eval o C.env
      standAt apos.atName
      let (f, first) ← holding [ov] (getMethod ov name pl)
      callWith pos f first (backTo pos (starEach es C.env)) []) := by exact ⟨_, rfl⟩) : AE C (.Call (.Attribute o name apos) es [] pos) st Q := fun s ρ I => by
  obtain ⟨pl, he⟩ := he
  rw [he]
  refine wpAny_bind (h.use I fun v s₁ d st₁ ρ₁ I₁ L₁ r₁ ⟨hg, h₁⟩ => wpAny_bind (wpAny_standAt (wpAny_bind (wpAny_holding (hg v s₁ ρ₁ I₁ r₁ pl _ ?_)))))
  exact wpAny_mono (callWith_B hC I₁ (fs := [d]) ⟨r₁, trivial⟩ hp h₁) (fun _ _ p => p.le L₁) fun _ _ x => x
end
end Mine

end
section
open PySem PySem.W PyProof.Rows PySem.Calls
namespace Mine
set_option linter.all false

/-! an own list is written no more -/
def PV.sub (i : Nat) (xs : List PyData) : PV → PV
  | .own j => if j = i then .dat (.list xs) else .own j
  | .dat d => .dat d
  | .val v => .val v
  | .mt x sp => .mt x sp
  | .rng a b c => .rng a b c
def St.freeze (st : St) (i : Nat) (xs : List PyData) : St :=
  { m := st.m.map fun p => (p.1, p.2.sub i xs), σ := (st.σ.set i none).map fun o => o.map fun l => l.map (PV.sub i xs) }

theorem lookup_map_sub {i : Nat} {xs : List PyData} {x : Str} : ∀ m : List (Str × PV), (m.map fun p => (p.1, p.2.sub i xs)).lookup x = (m.lookup x).map (PV.sub i xs)
  | [] => rfl
  | (y, d) :: r => by
    rw [List.map_cons, List.lookup_cons, List.lookup_cons]
    cases x == y with
    | true => rfl
    | false => exact lookup_map_sub r

section
variable {C : Ctx} {st : St}

theorem Inv.freeze (hC : Ok C) {ρ : List Addr} {s : Shared} (I : Inv C st ρ s) {i : Nat} {xs : List PyData} (hi : st.σ[i]? = some (some (xs.map .dat))) :
    Inv C (st.freeze i xs) ρ s ∧ Le C st ρ s (st.freeze i xs) ρ s := by
  have hlt := (List.getElem?_eq_some_iff.mp hi).1
  obtain ⟨a, vs, ha, ⟨n, hpl⟩, hr, hb⟩ := I.own i _ hi
  have hget : ∀ (j : Nat) (l : List PV), (st.freeze i xs).σ[j]? = some (some l) → j ≠ i ∧ ∃ l₀, st.σ[j]? = some (some l₀) ∧ l = l₀.map (PV.sub i xs) := by
    intro j l h
    have h' : ((st.σ.set i none).map fun o => o.map fun l => l.map (PV.sub i xs))[j]? = some (some l) := h
    rw [List.getElem?_map] at h'
    by_cases q : i = j
    · subst q
      rw [List.getElem?_set_self hlt] at h'; cases h'
    · rw [List.getElem?_set_ne q] at h'
      cases e : st.σ[j]? with
      | none => rw [e] at h'; cases h'
      | some o =>
        rw [e] at h'
        cases o with
        | none => cases h'
        | some l₀ => cases h'; exact ⟨fun z => q z.symm, l₀, rfl, rfl⟩
  have hput : ∀ (j : Nat) (l₀ : List PV), j ≠ i → st.σ[j]? = some (some l₀) → (st.freeze i xs).σ[j]? = some (some (l₀.map (PV.sub i xs))) := by
    intro j l₀ q h
    show ((st.σ.set i none).map fun o => o.map fun l => l.map (PV.sub i xs))[j]? = _
    rw [List.getElem?_map, List.getElem?_set_ne (fun z => q z.symm), h]; rfl
  have hmut : ∀ b, Mut C (st.freeze i xs).σ ρ b → Mut C st.σ ρ b ∧ b ≠ a := by
    intro b hm
    have hne : ∀ {o : Obj}, s.heap.get? b = some o → (∀ vs n, o.data ≠ .seq vs n) → b ≠ a := fun h q z => by rw [z, hpl] at h; cases h; exact q _ _ rfl
    rcases hm with h | ⟨x, h⟩ | h | ⟨j, l, h1, h2⟩
    · refine ⟨.inl h, ?_⟩
      obtain ⟨m, ⟨o, es, ep, g1, g2, _⟩, _⟩ := I.ns
      exact hne (h ▸ g1) (fun vs n e => by rw [g2] at e; cases e)
    · refine ⟨.inr (.inl ⟨x, h⟩), ?_⟩
      obtain ⟨u, ⟨o, g1, g2⟩, _⟩ := I.cell x b h
      exact hne g1 (fun vs n e => by rw [g2] at e; cases e)
    · refine ⟨.inr (.inr (.inl h)), ?_⟩
      obtain ⟨o, g1, g2⟩ := hC.soft b h
      rintro rfl
      rw [hb] at g1; cases g1
    · obtain ⟨q, l₀, e, _⟩ := hget j l h1
      exact ⟨.inr (.inr (.inr ⟨j, l₀, e, h2⟩)), fun z => q (I.inj j i a l₀ _ e hi (z ▸ h2) ha)⟩
  have L : Le C st ρ s (st.freeze i xs) ρ s := ⟨fun b o e q => ⟨e, fun z => q (hmut b z).1⟩, fun _ _ e => e, fun b o e => ⟨o, e⟩⟩
  have g := I.grow hC L
  obtain ⟨as, rr, nn, hdd⟩ := repAll_reads hr
  have hown : Rep s.heap ρ (Mut C (st.freeze i xs).σ ρ) (.ref a) (.dat (.list xs)) := by
    refine ⟨a :: as, .list hpl rfl rfl rr, fun b hb' hm => ?_, hdd⟩
    rcases List.mem_cons.mp hb' with rfl | hb'
    · exact (hmut b hm).2 rfl
    · exact nn b hb' (hmut b hm).1
  have hsub : ∀ {v : Value} {d : PV}, Rep s.heap ρ (Mut C st.σ ρ) v d → Rep s.heap ρ (Mut C (st.freeze i xs).σ ρ) v (d.sub i xs) := by
    intro v d r
    cases d with
    | own j =>
      show Rep s.heap ρ (Mut C (st.freeze i xs).σ ρ) v (if j = i then .dat (.list xs) else .own j)
      by_cases q : j = i
      · rw [if_pos q]
        obtain ⟨b, e1, e2⟩ := r
        rw [q, ha] at e1; cases e1
        rw [e2]; exact hown
      · rw [if_neg q]; exact r.grow g
    | dat d => exact Rep.grow g (d := .dat d) r
    | val u => exact Rep.grow g (d := .val u) r
    | mt x sp => exact Rep.grow g (d := .mt x sp) r
    | rng x y z => exact Rep.grow g (d := .rng x y z) r
  have hsubs : ∀ {vs : List Value} {ds : List PV}, RepAll s.heap ρ (Mut C st.σ ρ) vs ds → RepAll s.heap ρ (Mut C (st.freeze i xs).σ ρ) vs (ds.map (PV.sub i xs)) := by
    intro vs
    induction vs with
    | nil => intro ds r; cases ds with | nil => trivial | cons => exact r.elim
    | cons v vs ih => intro ds r; cases ds with | nil => exact r.elim | cons d ds => exact ⟨hsub r.1, ih r.2⟩
  refine ⟨⟨I.same, I.keep, I.tok, ?_, ?_, ?_, ?_, ?_⟩, L⟩
  · obtain ⟨m, h1, h2⟩ := I.ns
    refine ⟨m, h1, fun x d e k => ?_⟩
    rw [St.freeze, lookup_map_sub] at e
    cases e0 : st.m.lookup x with
    | none => rw [e0] at e; cases e
    | some d₀ =>
      rw [e0] at e; cases e
      obtain ⟨v, e1, e2⟩ := h2 x d₀ e0 k
      exact ⟨v, e1, hsub e2⟩
  · intro x c hx
    obtain ⟨u, h1, h2⟩ := I.cell x c hx
    refine ⟨u, h1, fun d e k => ?_⟩
    rw [St.freeze, lookup_map_sub] at e
    cases e0 : st.m.lookup x with
    | none => rw [e0] at e; cases e
    | some d₀ =>
      rw [e0] at e; cases e
      obtain ⟨v, e1, e2⟩ := h2 d₀ e0 k
      exact ⟨v, e1, hsub e2⟩
  · intro j l hj
    obtain ⟨q, l₀, e, rfl⟩ := hget j l hj
    obtain ⟨b, ws, f1, f2, f3, f4⟩ := I.own j l₀ e
    exact ⟨b, ws, f1, f2, hsubs f3, f4⟩
  · intro j k b l l' hj hk ej ek
    obtain ⟨_, l₁, e1, _⟩ := hget j l hj
    obtain ⟨_, l₂, e2, _⟩ := hget k l' hk
    exact I.inj j k b l₁ l₂ e1 e2 ej ek
  · show ρ.length = ((st.σ.set i none).map _).length
    rw [List.length_map, List.length_set]; exact I.len

theorem AG.freeze {α β : Type} {R : RelT α β} (hC : Ok C) {t : Sem α} {Q : β → St → Prop} (i : Nat) {xs : List PyData} (hi : st.σ[i]? = some (some (xs.map .dat))) (h : AG R C t (st.freeze i xs) Q) : AG R C t st Q := fun s ρ I =>
  have J := I.freeze hC hi
  wpAny_mono (h s ρ J.1) (fun _ _ p => p.le J.2) fun _ _ x => x

/-- a value that is the frame's own list, handed on as a datum -/
theorem AE.frozen (hC : Ok C) {e : Expr} {Q : PV → St → Prop} (h : AE C e st fun d st₁ => ∃ i xs, d = .own i ∧ st₁.σ[i]? = some (some (xs.map .dat)) ∧ Q (.dat (.list xs)) (st₁.freeze i xs)) : AE C e st Q := fun s ρ I =>
  h.use I fun v s₁ d st₁ ρ₁ I₁ L₁ r₁ ⟨i, xs, e, hi, h₁⟩ => by
    subst e
    have J := I₁.freeze hC hi
    refine ⟨.dat (.list xs), st₁.freeze i xs, ρ₁, J.1, L₁.trans J.2, ?_, h₁⟩
    obtain ⟨a, e1, e2⟩ := r₁
    obtain ⟨a', vs, ha, ⟨n, hpl⟩, hr, hb⟩ := I₁.own i _ hi
    rw [e1] at ha; cases ha
    -- by the same way as in Inv.freeze
    obtain ⟨as, rr, nn, hdd⟩ := repAll_reads hr
    have hlt := (List.getElem?_eq_some_iff.mp hi).1
    subst e2
    refine ⟨a :: as, .list hpl rfl rfl rr, fun b hb' hm => ?_, hdd⟩
    rcases List.mem_cons.mp hb' with rfl | hb'
    · rcases hm with h | ⟨x, h⟩ | h | ⟨j, l, h1, h2⟩
      · obtain ⟨m, ⟨o, es, ep, g1, g2, _⟩, _⟩ := I₁.ns
        rw [← h, hpl] at g1; cases g1; cases g2
      · obtain ⟨u, ⟨o, g1, g2⟩, _⟩ := I₁.cell x b h
        rw [hpl] at g1; cases g1; cases g2
      · obtain ⟨o, g1, _⟩ := hC.soft b h
        rw [hb] at g1; cases g1
      · have h1' : ((st₁.σ.set i none).map fun o => o.map fun l => l.map (PV.sub i xs))[j]? = some (some l) := h1
        rw [List.getElem?_map] at h1'
        by_cases q : i = j
        · subst q; rw [List.getElem?_set_self hlt] at h1'; cases h1'
        · rw [List.getElem?_set_ne q] at h1'
          cases e : st₁.σ[j]? with
          | none => rw [e] at h1'; cases h1'
          | some o =>
            rw [e] at h1'
            cases o with
            | none => cases h1'
            | some l₀ => exact q (I₁.inj j i b l₀ _ e hi h2 e1).symm
    · obtain ⟨o, ho⟩ := readsAll_has rr b hb'
      exact (J.2.keep b o ho (nn b hb')).2 hm
end

/-! functions -/
structure Room (n : Nat) (A : Around) : Prop where
  handled : A.handled = none
  depth : A.depth + n ≤ 990
  units : A.units + 70 + 10 * n ≤ 9800

def PV.fz : PV → Bool
  | .own _ => false
  | _ => true

def Fn (prog : Program) (w : World) (B : Heap → Prop) (fa : Addr) (n : Nat) (args : List PV) (Q : PV → Prop) : Prop :=
  ∀ A s X vs, Room n A → B s.heap → 0 < s.toks → (∀ a, X a → ∃ o, s.heap.get? a = some o ∧ Soft o) → RepAll s.heap [] X vs args →
    codeAny (model prog w) A (.call (.ref fa) ⟨vs, []⟩) (fun r s' => ∃ v d h tk, r = .ok (.ret v) ∧ s' = { s with heap := h, toks := tk } ∧ (∀ b o, s.heap.get? b = some o → h.get? b = some o) ∧ s.toks ≤ tk ∧ Rep h [] X v d ∧ Q d) s

theorem Fn.mono {prog : Program} {w : World} {B : Heap → Prop} {fa : Addr} {n : Nat} {args : List PV} {Q Q' : PV → Prop} (h : Fn prog w B fa n args Q) (hq : ∀ d, Q d → Q' d) : Fn prog w B fa n args Q' :=
  fun A s X vs a b c d e => codeAny_mono (h A s X vs a b c d e) fun _ _ ⟨v, d, h, tk, h1, h2, h3, h4, h5, h6⟩ => ⟨v, d, h, tk, h1, h2, h3, h4, h5, hq _ h6⟩

theorem Rep.fz {h : Heap} {ρ ρ' : List Addr} {O O' : Addr → Prop} (hO : ∀ a, O' a → O a) {v : Value} : ∀ {d : PV}, d.fz = true → Rep h ρ O v d → Rep h ρ' O' v d
  | .dat _, _, ⟨as, r, n, hd⟩ => ⟨as, r, fun a ha q => n a ha (hO a q), hd⟩
  | .own _, e, _ => nomatch e
  | .val _, _, e => e
  | .mt _ _, _, e => e
  | .rng _ _ _, _, e => e
theorem RepAll.fz {h : Heap} {ρ ρ' : List Addr} {O O' : Addr → Prop} (hO : ∀ a, O' a → O a) : ∀ {vs : List Value} {ds : List PV}, ds.all PV.fz = true → RepAll h ρ O vs ds → RepAll h ρ' O' vs ds
  | [], [], _, _ => trivial
  | _ :: _, d :: ds, e, ⟨a, b⟩ => by
    rw [List.all_cons, Bool.and_eq_true] at e
    exact ⟨a.fz hO e.1, b.fz hO e.2⟩
  | [], _ :: _, _, h => h.elim
  | _ :: _, [], _, h => h.elim

section
variable {C : Ctx} {st : St} {Q : PV → St → Prop}

/-- a call of a def of the text -/
theorem AE_callF (hC : Ok C) {f : Expr} {es : List Expr} {pos : Pos} {B : Heap → Prop} {n : Nat} (hB : B C.s₀.heap) (hBk : ∀ h h' : Heap, (∀ b o, h.get? b = some o → h'.get? b = some o) → B h → B h') (hroom : Room n C.A)
    {fa : Addr} {o : Obj} {fd : FuncData} (ho : C.s₀.heap.get? fa = some o) (hd : o.data = .func fd)
    (h : AE C f st fun d st₁ => d = .val (.ref fa) ∧ AEs C pos es st₁ fun ds st₂ => ds.all PV.fz = true ∧ Fn C.prog C.w B fa n ds fun d => Q d st₂)
    (hp : plainTargets es = true := by rfl)
    (he : eval (.Call f es [] pos) C.env = (do callWith pos (← eval f C.env) [] (backTo pos (starEach es C.env)) []) := by rfl) : AE C (.Call f es [] pos) st Q := fun s ρ I => by
  rw [he]
  refine wpAny_bind (h.use I fun v s₁ d st₁ ρ₁ I₁ L₁ r₁ ⟨e, h₁⟩ => ?_)
  subst e
  have e : v = .ref fa := r₁
  subst e
  refine callWith_function (o := o) (fd := fd) (evalArgs_es hp (AG.use h₁ I₁ fun vs s₂ ds st₂ ρ₂ I₂ L₂ r₂ ⟨hz, h₂⟩ => ⟨⟨I₂.keep _ _ ho, hd⟩, ?_⟩))
  refine wpAny_call (codeAny_mono (h₂ C.A s₂ (Mut C st₂.σ ρ₂) vs hroom (hBk _ _ I₂.keep hB) (Nat.lt_of_lt_of_le hC.tok I₂.tok) (fun a ha => ?_) (r₂.fz (fun _ q => q) hz)) fun r s₃ ⟨v, d, h', tk, hr, hs, hk, htk, hrep, hq⟩ => ?_)
  · obtain ⟨o, ho⟩ := mut_has hC I₂ ha
    exact ⟨o, ho, I₂.soft hC a o ha ho⟩
  · subst hr hs
    have J := I₂.keeps hC (h' := h') (tk := tk) hk htk
    refine ⟨d, st₂, ρ₂, J.1, (L₁.trans L₂).trans J.2, ?_, hq⟩
    cases d with
    | own i => obtain ⟨a, e, _⟩ := hrep; simp at e
    | dat d => exact hrep
    | val u => exact hrep
    | mt x sp => exact hrep
    | rng x y z => exact hrep
end

theorem cells_lookup_from : ∀ (names : List (Str × NameKind)) (n : Nat) (acc : List (Str × Addr)) (x : Str), names.lookup x = some .cell → ∃ c, (cellsFrom n names acc).lookup x = some c := by
  have mono : ∀ (names : List (Str × NameKind)) (n : Nat) (acc : List (Str × Addr)) (x : Str) (c : Addr), acc.lookup x = some c → ∃ c, (cellsFrom n names acc).lookup x = some c := by
    intro names
    induction names with
    | nil => intro n acc x c h; exact ⟨c, h⟩
    | cons p r ih =>
      intro n acc x c h
      obtain ⟨y, k⟩ := p
      unfold cellsFrom
      split
      · by_cases q : x = y
        · subst q; exact ih (n + 1) ((x, n) :: acc) x n (by rw [List.lookup_cons]; simp)
        · exact ih (n + 1) ((y, n) :: acc) x c (by rw [List.lookup_cons]; have : (x == y) = false := by simpa using q
                                                   rw [this]; exact h)
      · exact ih n acc x c h
  intro names
  induction names with
  | nil => intro n acc x h; cases h
  | cons p r ih =>
    intro n acc x h
    obtain ⟨y, k⟩ := p
    rw [List.lookup_cons] at h
    unfold cellsFrom
    by_cases q : x = y
    · subst q
      simp at h
      subst h
      simp only [beq_self_eq_true, if_true]
      exact mono r (n + 1) ((x, n) :: acc) x n (by rw [List.lookup_cons]; simp)
    · have e : (x == y) = false := by simpa using q
      rw [e] at h
      split
      · exact ih (n + 1) ((y, n) :: acc) x h
      · exact ih n acc x h

/-- what a body is walked in -/
structure In (prog : Program) (w : World) (B : Heap → Prop) (ks : List (Str × NameKind)) (n : Nat) (wr : Bool) (C : Ctx) : Prop where
  ok : Ok C
  prog : C.prog = prog
  w : C.w = w
  base : B C.s₀.heap
  kinds : ∀ x k, ks.lookup x = some k → C.env.kindOf x = some k
  room : Room n C.A
  cell : ∀ x, ks.lookup x = some .cell → ∃ c, C.env.cells.lookup x = some c
  free : wr = true → ∀ x c, C.env.cells.lookup x = some c → C.s₀.heap.get? c = none

theorem bindParams_tok {M : Model} {A : Around} {E : Value → Shared → Prop} {s₀ : Shared} {env : Env} (f : Str × Value → PUnit → Sem (ForInStep PUnit)) (hf : ∀ n v u, f (n, v) u = (do storeName env n v; pure (.yield ⟨⟩))) (hk : env.scope.kind = .function)
    {n : Str} {v : Value} {r : List (Str × Value)} {m cm : Str → Option Value} {s : Shared} {Q : PUnit → Shared → Prop} (x : InCallC s₀ env.locals m env.cells cm s) (hl : env.kindOf n = some .local)
    (hkind : ∀ x ∈ r, env.kindOf x.1 = some .local ∨ (env.kindOf x.1 = some .cell ∧ (env.cells.lookup x.1).isSome = true))
    (h : ∀ s', InCallC s₀ env.locals (bindL env.kindOf ((n, v) :: r) m) env.cells (bindC env.kindOf ((n, v) :: r) cm) s' → 0 < s'.toks → Q ⟨⟩ s') : wpAny M A (forIn ((n, v) :: r) ⟨⟩ f) Q E s := by
  rw [List.forIn_cons, hf]
  refine wpAny_bind (wpAny_bind (wpAny_storeName_local hl x.toInCall.ns (fun h' hn' hs' => wpAny_pure ?_) (by rw [hk]; rfl)))
  have x' : InCallC s₀ env.locals (fun y => if y = n then some v else m y) env.cells cm { s with heap := h', toks := s.toks + 1 } := by
    refine ⟨⟨?_, hn', fun b o e => ?_, x.toInCall.fresh⟩, fun k c hc => ?_, x.apart, x.above⟩
    · obtain ⟨h₁, tk, rfl⟩ := x.toInCall.same
      exact ⟨h', _, rfl⟩
    · exact hs'.extBut b o (Nat.ne_of_lt (Nat.lt_of_lt_of_le (Heap.lt_size e) x.toInCall.fresh)) (x.toInCall.keep b o e)
    · exact (x.cell k c hc).sameBut hs' (Nat.ne_of_gt (x.above k c (mem_of_lookup hc)))
  refine wpAny_mono (wpAny_with_toks (n := 1) (by show 1 ≤ s.toks + 1; omega) (wpAny_bindParams f hf hk r _ _ _ (fun _ s'' => 1 ≤ s''.toks → Q ⟨⟩ s'') x' hkind fun s'' x'' htk => h s'' ?_ htk)) (fun _ _ q => q) fun _ _ q => q
  unfold bindL bindC; rw [if_pos hl, if_pos hl]; exact x''

theorem newEnv_tok {M : Model} {A : Around} {E : Value → Shared → Prop} {s : Shared} {scope : Scope} {globals : Addr} {n : Str} {v : Value} {r : List (Str × Value)} {qual : Str} {func : Option Addr} {code : Value} {builtins : Addr} {Q : Env → Shared → Prop}
    (hk : scope.kind = .function) (hl : scope.names.lookup n = some .local)
    (hkind : ∀ x ∈ r, scope.names.lookup x.1 = some .local ∨ (scope.names.lookup x.1 = some .cell ∧ ((cellsFrom (s.heap.objs.size + 1) scope.names []).lookup x.1).isSome = true))
    (hQ : ∀ env, env = newEnv scope s.heap.objs.size globals (cellsFrom (s.heap.objs.size + 1) scope.names []) qual func code none builtins →
      ∀ s', InCallC s env.locals (bindL env.kindOf ((n, v) :: r) fun _ => none) env.cells (bindC env.kindOf ((n, v) :: r) fun _ => none) s' → 0 < s'.toks → Q env s') :
    wpAny M A (newFunctionEnv scope globals [] ((n, v) :: r) qual func code none builtins) Q E s := by
  simp only [newFunctionEnv, Option.isSome_none, Bool.false_eq_true, if_false]
  refine wpAny_bind (wpAny_alloc ?_)
  refine wpAny_bind (wpAny_layCells _ (fun name kind cells => by cases hkc : kind == NameKind.cell <;> simp [hkc]) _ _ _ _ ?_)
  have ok := cellsFrom_ok scope.names (s.heap.push { cls := .type "frame", data := .dict #[] }) (s.heap.objs.size + 1) [] ⟨fun _ _ hm => (nomatch hm), List.Pairwise.nil⟩ (by rw [Heap.size_push]; exact Nat.le_refl _)
  rw [Heap.size_push] at ok
  rw [show ({ s with heap := s.heap.push { cls := .type "frame", data := .dict #[] } } : Shared).heap.objs.size = s.heap.objs.size + 1 from Heap.size_push ..]
  refine wpAny_bind (bindParams_tok (s₀ := s) (env := newEnv scope s.heap.objs.size globals (cellsFrom (s.heap.objs.size + 1) scope.names []) qual func code none builtins)
    _ (fun _ _ _ => rfl) hk
    ⟨⟨⟨_, _, rfl⟩, (Heap.Ns.new s.heap (.type "frame")).keeps (pushCells_keeps _ _), fun b o e => pushCells_keeps _ _ b o (Heap.get?_push_of_some _ e), Nat.le_refl _⟩,
      fun n c hc => (ok.empty n c (mem_of_lookup hc)).1, ok.apart, fun n c hm => (ok.empty n c hm).2⟩ hl
    hkind fun s' x ht => wpAny_pure (hQ _ rfl s' x ht))

theorem Fn.core {prog : Program} {w : World} {B : Heap → Prop} {fa : Addr} {n : Nat} {args : List PV} {Q : PV → Prop} {fd : FuncData} {body : List Stmt} {ps : List Str}
    (ho : ∀ h, B h → ∃ o, h.get? fa = some o ∧ o.data = .func fd) (hlim : ∀ h, B h → h.NoLimit) (hcd : ∀ h, B h → h.CodeRec fd.code fd.qualname) (hbody : fd.body = .stmts body)
    (hbind : ∀ vs : List Value, vs.length = args.length → bindArgs fd ⟨vs, []⟩ = pure (ps.zip vs)) (hps : ps.length = args.length) (hnd : ps.Nodup)
    (hkind : ∀ x ∈ ps, fd.scope.names.lookup x = some .local ∨ fd.scope.names.lookup x = some .cell)
    (h : ∀ C, In prog w B fd.scope.names n true C → AS C body ⟨ps.zip args, []⟩ fun f _ => match f with
      | .ret d => d.fz = true ∧ Q d
      | .next => Q (.dat .none)
      | _ => False)
    (hclo : fd.closure = [] := by rfl) (hglob : fd.globals = mainGlobals := by rfl) (hbi : fd.builtins = builtinsNs := by rfl)
    (hco : fd.scope.isCoroutine = false := by rfl) (hgen : fd.scope.isGenerator = false := by rfl) (hk : fd.scope.kind = .function := by rfl)  :
    ∀ A s X vs, Room (n + 1) A → B s.heap → (0 < s.toks ∨ ∃ p r, ps = p :: r ∧ fd.scope.names.lookup p = some .local) → (∀ a, X a → ∃ o, s.heap.get? a = some o ∧ Soft o) → RepAll s.heap [] X vs args →
    codeAny (model prog w) A (.call (.ref fa) ⟨vs, []⟩) (fun r s' => ∃ v d h tk, r = .ok (.ret v) ∧ s' = { s with heap := h, toks := tk } ∧ (∀ b o, s.heap.get? b = some o → h.get? b = some o) ∧ s.toks ≤ tk ∧ Rep h [] X v d ∧ Q d) s := by
  intro A s X vs hroom hB htok hX hr
  obtain ⟨o, ho, hd⟩ := ho _ hB
  have hlen := repAll_len hr
  have hl : ps.length = vs.length := by rw [hps, hlen]
  have hfin : codeAny (model prog w) A (.call (.ref fa) ⟨vs, []⟩) (fun r s' => ∃ v d h tk, r = .ok (.ret v) ∧ s' = { s with heap := h, toks := tk } ∧ (∀ b o, s.heap.get? b = some o → h.get? b = some o) ∧ Rep h [] X v d ∧ Q d) s → codeAny (model prog w) A (.call (.ref fa) ⟨vs, []⟩) (fun r s' => ∃ v d h tk, r = .ok (.ret v) ∧ s' = { s with heap := h, toks := tk } ∧ (∀ b o, s.heap.get? b = some o → h.get? b = some o) ∧ s.toks ≤ tk ∧ Rep h [] X v d ∧ Q d) s := fun k =>
    codeAny_mono (codeAny_toks_of (n := s.toks) (Nat.le_refl _) k) fun r s' ⟨ht, v, d, h, tk, h1, h2, h3, h5, h6⟩ => ⟨v, d, h, tk, h1, h2, h3, by subst h2; exact ht, h5, h6⟩
  refine hfin (codeAny_call_function (by have := hroom.depth; show A.depth < 1000; omega) ho hd hco hgen hbody (hcd _ hB) ?_)
  rw [hbind vs hlen, hclo]
  have hks : ∀ x ∈ ps.zip vs, fd.scope.names.lookup x.1 = some .local ∨ (fd.scope.names.lookup x.1 = some .cell ∧ ((cellsFrom (s.heap.objs.size + 1) fd.scope.names []).lookup x.1).isSome = true) := by
    intro x hx
    obtain ⟨y, v⟩ := x
    have hy : y ∈ ps := (List.of_mem_zip hx).1
    rcases hkind y hy with q | q
    · exact .inl q
    · refine .inr ⟨q, ?_⟩
      obtain ⟨c, hc⟩ := cells_lookup_from fd.scope.names (s.heap.objs.size + 1) [] y q
      rw [hc]; rfl
  have enter : ∀ {M : Model} {A : Around} {E : Value → Shared → Prop} {qual : Str} {func : Option Addr} {code : Value} {builtins globals : Addr} {Q : Env → Shared → Prop}, (∀ env, env = newEnv fd.scope s.heap.objs.size globals (cellsFrom (s.heap.objs.size + 1) fd.scope.names []) qual func code none builtins →
      ∀ s', InCallC s env.locals (bindL env.kindOf (ps.zip vs) fun _ => none) env.cells (bindC env.kindOf (ps.zip vs) fun _ => none) s' → s.toks ≤ s'.toks → 0 < s'.toks → Q env s') → wpAny M A (newFunctionEnv fd.scope globals [] (ps.zip vs) qual func code none builtins) Q E s := by
    intro M A E qual func code builtins globals Q hQ
    rcases htok with htok | ⟨p, r, rfl, hp⟩
    · exact wpAny_mono (wpAny_with_toks (n := s.toks) (Nat.le_refl _) (wpAny_newFunctionEnv_cells (Q := fun env s' => s.toks ≤ s'.toks → Q env s') (E := fun e s' => s.toks ≤ s'.toks → E e s') hk hks fun env he s₁ J htk => hQ env he s₁ J htk (Nat.lt_of_lt_of_le htok htk))) (fun _ _ q => q) fun _ _ q => q
    · cases vs with
      | nil => exact absurd hl (by simp)
      | cons v vs =>
        rw [List.zip_cons_cons] at hQ hks ⊢
        exact wpAny_mono (wpAny_with_toks (n := s.toks) (Nat.le_refl _) (newEnv_tok (Q := fun env s' => s.toks ≤ s'.toks → Q env s') (E := fun e s' => s.toks ≤ s'.toks → E e s') hk hp (fun x hx => hks x (List.mem_cons_of_mem _ hx)) fun env he s₁ J h0 htk => hQ env he s₁ J htk h0)) (fun _ _ q => q) fun _ _ q => q
  refine wpAny_pure (enter fun env he s₁ J htk1 htk0 => ?_)
  · subst he
    refine ⟨(hlim _ hB).keeps J.toInCall.keep, codeAny_func ?_⟩
    have henvk : ∀ x, (callEnvC fd s.heap.objs.size fa).kindOf x = fd.scope.names.lookup x := fun _ => rfl
    have key : ∀ x, ((ps.zip vs).lookup x = none ∧ (ps.zip args).lookup x = none) ∨ ∃ v d, (ps.zip vs).lookup x = some v ∧ (ps.zip args).lookup x = some d ∧ Rep s.heap [] X v d := by
      intro x
      clear hbind hkind h hps J hnd hfin htk1 htk0 henvk hks enter htok
      induction ps generalizing vs args with
      | nil => exact .inl ⟨rfl, rfl⟩
      | cons p ps ih =>
        cases vs with
        | nil => exact absurd hl (by simp)
        | cons v vs =>
          cases args with
          | nil => exact hr.elim
          | cons d ds =>
            simp only [List.zip_cons_cons, List.lookup_cons]
            cases x == p with
            | true => exact .inr ⟨v, d, rfl, rfl, hr.1⟩
            | false => exact ih vs hr.2 (by simpa using hlen) (by simpa using hl)
    have hbl : ∀ x, (ps.zip vs).lookup x ≠ none → fd.scope.names.lookup x = some .local → bindL (callEnvC fd s.heap.objs.size fa).kindOf (ps.zip vs) (fun _ => none) x = (ps.zip vs).lookup x := by
      intro x hx hloc
      have gen : ∀ (bs : List (Str × Value)) (m : Str → Option Value), (bs.map (·.1)).Nodup → bindL (callEnvC fd s.heap.objs.size fa).kindOf bs m x = ((bs.lookup x).or (m x)) := by
        intro bs
        induction bs with
        | nil => intro m _; simp [bindL]
        | cons b bs ih =>
          intro m hn
          obtain ⟨y, v⟩ := b
          rw [List.map_cons, List.nodup_cons] at hn
          rw [bindL, ih _ hn.2, List.lookup_cons]
          by_cases q : x = y
          · subst q
            have : bs.lookup x = none := by
              cases e : bs.lookup x with
              | none => rfl
              | some v' => exact absurd (List.mem_map.mpr ⟨(x, v'), mem_of_lookup e, rfl⟩) hn.1
            simp [this, henvk, hloc]
          · have e : (x == y) = false := by simpa using q
            rw [e]
            by_cases z : fd.scope.names.lookup y = some .local
            · simp [henvk, z, q]
            · simp [henvk, z]
      rw [gen _ _ (by rw [List.map_fst_zip (by omega)]; exact hnd)]
      simp
    have hbc : ∀ x, (ps.zip vs).lookup x ≠ none → fd.scope.names.lookup x = some .cell → bindC (callEnvC fd s.heap.objs.size fa).kindOf (ps.zip vs) (fun _ => none) x = (ps.zip vs).lookup x := by
      intro x hx hloc
      have gen : ∀ (bs : List (Str × Value)) (m : Str → Option Value), (bs.map (·.1)).Nodup → bindC (callEnvC fd s.heap.objs.size fa).kindOf bs m x = ((bs.lookup x).or (m x)) := by
        intro bs
        induction bs with
        | nil => intro m _; simp [bindC]
        | cons b bs ih =>
          intro m hn
          obtain ⟨y, v⟩ := b
          rw [List.map_cons, List.nodup_cons] at hn
          rw [bindC, ih _ hn.2, List.lookup_cons]
          by_cases q : x = y
          · subst q
            have : bs.lookup x = none := by
              cases e : bs.lookup x with
              | none => rfl
              | some v' => exact absurd (List.mem_map.mpr ⟨(x, v'), mem_of_lookup e, rfl⟩) hn.1
            simp [this, henvk, hloc]
          · have e : (x == y) = false := by simpa using q
            rw [e]
            by_cases z : fd.scope.names.lookup y = some .local
            · simp [henvk, z]
            · simp [henvk, z, q]
      rw [gen _ _ (by rw [List.map_fst_zip (by omega)]; exact hnd)]
      simp
    let C : Ctx := ⟨prog, w, A.deeper (callEnvC fd s.heap.objs.size fa), callEnvC fd s.heap.objs.size fa, { s with toks := s₁.toks }, X⟩
    have hkeep := J.toInCall.keep
    have hcapart : ∀ x y c, C.env.cells.lookup x = some c → C.env.cells.lookup y = some c → x = y := fun x y c h1 h2 => name_of_addr J.apart (mem_of_lookup h1) (mem_of_lookup h2)
    have hOk : Ok C := ⟨hk, hglob, hbi, get?_size _, hX, hroom.handled, htk0, hcapart⟩
    have hIn : In prog w B fd.scope.names n true C := ⟨hOk, rfl, rfl, hB, fun x k h => h, ⟨hroom.handled, by show A.depth + 1 + n ≤ 990; have := hroom.depth; omega, by show A.units + 3 + 70 + 10 * n ≤ 9800; have := hroom.units; omega⟩,
      fun x hx => cells_lookup_from fd.scope.names (s.heap.objs.size + 1) [] x hx, fun _ x c hc => by
      have := J.above x c (mem_of_lookup hc)
      cases e : s.heap.get? c with
      | none => rfl
      | some o => exact absurd (Heap.lt_size e) (Nat.lt_asymm this)⟩
    have up : ∀ {v : Value} {d : PV}, Rep s.heap [] X v d → Rep s₁.heap [] (Mut C [] []) v d := by
      intro v d r
      refine r.grow ⟨fun a o ha ho => by obtain ⟨o', h1, h2⟩ := hX a ha; rw [h1] at ho; cases ho; exact h2, fun a o e q => ⟨hkeep a o e, fun hm => ?_⟩, fun _ _ e => e⟩
      rcases hm with h | ⟨x, h⟩ | h | ⟨i, l, h1, _⟩
      · exact absurd (Heap.lt_size e) (by rw [h]; exact Nat.lt_irrefl _)
      · exact absurd (Heap.lt_size e) (Nat.lt_asymm (J.above x a (mem_of_lookup h)))
      · exact q h
      · simp at h1
    have I : Inv C ⟨ps.zip args, []⟩ [] s₁ := by
      refine ⟨J.toInCall.same, hkeep, Nat.le_refl _, ⟨_, J.toInCall.ns, fun x d e kx => ?_⟩, fun x c hc => ⟨_, J.cell x c hc, fun d e kx => ?_⟩, fun i l hi => by simp at hi, fun i j a l l' hi => by simp at hi, rfl⟩
      · rcases key x with hn | ⟨v, d', e1, e2, e3⟩
        · rw [hn.2] at e; cases e
        · rw [e] at e2; cases e2
          exact ⟨v, (hbl x (by rw [e1]; simp) kx).trans e1, up e3⟩
      · rcases key x with hn | ⟨v, d', e1, e2, e3⟩
        · rw [hn.2] at e; cases e
        · rw [e] at e2; cases e2
          exact ⟨v, (hbc x (by rw [e1]; simp) kx).trans e1, up e3⟩
    refine wpAny_mono (h C hIn s₁ [] I) (fun f s₂ ⟨g, st₂, ρ₂, I₂, L₂, r₂, h₂⟩ => ?_) fun _ _ x => x.elim
    obtain ⟨h2, tk2, e2⟩ := I₂.same
    cases f <;> cases g <;> first
      | exact r₂.elim
      | exact h₂.elim
      | (subst e2; exact ⟨_, .dat .none, h2, tk2, rfl, rfl, I₂.keep, ⟨[], .none, (fun _ h => nomatch h), rfl⟩, h₂⟩)
      | (subst e2; exact ⟨_, _, h2, tk2, rfl, rfl, I₂.keep, Rep.fz (fun a q => .inr (.inr (.inl q))) h₂.1 r₂, h₂.2⟩)
theorem Fn.of {prog : Program} {w : World} {B : Heap → Prop} {fa : Addr} {n : Nat} {args : List PV} {Q : PV → Prop} {fd : FuncData} {body : List Stmt} {ps : List Str}
    (ho : ∀ h, B h → ∃ o, h.get? fa = some o ∧ o.data = .func fd) (hlim : ∀ h, B h → h.NoLimit) (hcd : ∀ h, B h → h.CodeRec fd.code fd.qualname) (hbody : fd.body = .stmts body)
    (hbind : ∀ vs : List Value, vs.length = args.length → bindArgs fd ⟨vs, []⟩ = pure (ps.zip vs)) (hps : ps.length = args.length) (hnd : ps.Nodup)
    (hkind : ∀ x ∈ ps, fd.scope.names.lookup x = some .local ∨ fd.scope.names.lookup x = some .cell)
    (h : ∀ C, In prog w B fd.scope.names n true C → AS C body ⟨ps.zip args, []⟩ fun f _ => match f with
      | .ret d => d.fz = true ∧ Q d
      | .next => Q (.dat .none)
      | _ => False)
    (hclo : fd.closure = [] := by rfl) (hglob : fd.globals = mainGlobals := by rfl) (hbi : fd.builtins = builtinsNs := by rfl)
    (hco : fd.scope.isCoroutine = false := by rfl) (hgen : fd.scope.isGenerator = false := by rfl) (hk : fd.scope.kind = .function := by rfl) : Fn prog w B fa (n + 1) args Q :=
  fun A s X vs hroom hB htok hX hr => Fn.core ho hlim hcd hbody hbind hps hnd hkind h hclo hglob hbi hco hgen hk A s X vs hroom hB (.inl htok) hX hr

end Mine

end
section
open PySem PySem.W PyProof.Rows PySem.Calls
namespace Mine
set_option linter.all false

/-! comprehensions -/
def closOf (cells : List (Str × Addr)) : List (Str × NameKind) → List (Str × Addr) → List (Str × Addr)
  | [], acc => acc
  | (n, k) :: r, acc => if k == .free then closOf cells r ((n, (cells.lookup n).getD 0) :: acc) else closOf cells r acc

theorem closureFor_of {scope : Scope} {env : Env} (h : ∀ x, (x, NameKind.free) ∈ scope.names → ∃ c, env.cells.lookup x = some c) : closureFor scope env = pure (closOf env.cells scope.names []) := by
  have gen : ∀ (names : List (Str × NameKind)) (acc : List (Str × Addr)), (∀ x, (x, NameKind.free) ∈ names → ∃ c, env.cells.lookup x = some c) →
      (forIn (m := Sem) names acc (fun x cs => match x with
        | (name, kind) => if (kind == NameKind.free) = true then (do let c ← cellOf env name; pure (ForInStep.yield ((name, c) :: cs))) else pure (ForInStep.yield cs))) = pure (closOf env.cells names acc) := by
    intro names
    induction names with
    | nil => intro acc _; rfl
    | cons p r ih =>
      intro acc h
      obtain ⟨n, k⟩ := p
      rw [List.forIn_cons, closOf]
      by_cases hk : (k == NameKind.free) = true
      · have hk' : k = .free := by simpa using hk
        subst hk'
        obtain ⟨c, hc⟩ := h n List.mem_cons_self
        simp only [hk, if_true, cellOf, hc, Option.getD_some, pure_bind]
        exact ih _ fun x hx => h x (List.mem_cons_of_mem _ hx)
      · simp only [hk, if_false, pure_bind, Bool.false_eq_true]
        exact ih _ fun x hx => h x (List.mem_cons_of_mem _ hx)
  unfold closureFor
  have := gen scope.names [] h
  simp only [bind_pure]
  exact this

theorem closOf_lookup {cells : List (Str × Addr)} : ∀ (names : List (Str × NameKind)) (acc : List (Str × Addr)) (x : Str) (c : Addr), (closOf cells names acc).lookup x = some c → acc.lookup x = some c ∨ ((x, NameKind.free) ∈ names ∧ c = (cells.lookup x).getD 0)
  | [], acc, x, c, h => .inl h
  | (n, k) :: r, acc, x, c, h => by
    rw [closOf] at h
    by_cases hk : (k == NameKind.free) = true
    · rw [if_pos hk] at h
      have hk' : k = .free := by simpa using hk
      subst hk'
      rcases closOf_lookup r _ x c h with q | ⟨q1, q2⟩
      · rw [List.lookup_cons] at q
        by_cases z : x = n
        · subst z; simp at q; exact .inr ⟨List.mem_cons_self, q.symm⟩
        · have : (x == n) = false := by simpa using z
          rw [this] at q; exact .inl q
      · exact .inr ⟨List.mem_cons_of_mem _ q1, q2⟩
    · rw [if_neg hk] at h
      rcases closOf_lookup r _ x c h with q | ⟨q1, q2⟩
      · exact .inl q
      · exact .inr ⟨List.mem_cons_of_mem _ q1, q2⟩
theorem closOf_has {cells : List (Str × Addr)} : ∀ (names : List (Str × NameKind)) (acc : List (Str × Addr)) (x : Str), ((x, NameKind.free) ∈ names ∨ ∃ c, acc.lookup x = some c) → ∃ c, (closOf cells names acc).lookup x = some c
  | [], acc, x, h => h.elim (fun q => nomatch q) id
  | (n, k) :: r, acc, x, h => by
    rw [closOf]
    by_cases hk : (k == NameKind.free) = true
    · rw [if_pos hk]
      refine closOf_has r _ x ?_
      have hk' : k = .free := by simpa using hk
      by_cases z : x = n
      · subst z; exact .inr ⟨(cells.lookup x).getD 0, by rw [List.lookup_cons]; simp⟩
      · rcases h with h | ⟨c, h⟩
        · rcases List.mem_cons.mp h with q | q
          · cases q; exact absurd rfl z
          · exact .inl q
        · refine .inr ⟨c, ?_⟩
          rw [List.lookup_cons]
          have : (x == n) = false := by simpa using z
          rw [this]; exact h
    · rw [if_neg hk]
      refine closOf_has r _ x ?_
      rcases h with h | h
      · rcases List.mem_cons.mp h with q | q
        · cases q; exact absurd rfl hk
        · exact .inl q
      · exact .inr h

/-- the kinds within -/
def compKinds (names : List (Str × NameKind)) : List (Str × NameKind) := names.map fun p => if p.2 == .free then (p.1, .cell) else p

theorem lookup_relabel {env : Env} (hf : env.scope.kind = .function) : ∀ (names : List (Str × NameKind)), (∀ x, (x, NameKind.free) ∈ names → env.kindOf x = some .cell) → ∀ (x : Str) (k : NameKind), (compKinds names).lookup x = some k →
    (names.map fun (n, k) => if (k == NameKind.free && env.scope.kind == .function && env.kindOf n == some .cell) then (n, NameKind.cell) else (n, k)).lookup x = some k
  | [], _, x, k, h => nomatch h
  | (n, kn) :: r, hfr, x, k, h => by
    have e : (if (kn == NameKind.free && env.scope.kind == .function && env.kindOf n == some .cell) = true then (n, NameKind.cell) else (n, kn)) = (if (kn == NameKind.free) = true then (n, NameKind.cell) else (n, kn)) := by
      by_cases hk : kn = .free
      · subst hk
        simp [hf, hfr n List.mem_cons_self]
      · have : (kn == NameKind.free) = false := by simpa using hk
        simp [this]
    have h' : List.lookup x ((if (kn == NameKind.free) = true then (n, NameKind.cell) else (n, kn)) :: compKinds r) = some k := h
    show List.lookup x ((if (kn == NameKind.free && env.scope.kind == .function && env.kindOf n == some .cell) = true then (n, NameKind.cell) else (n, kn)) :: _) = some k
    rw [e]
    have ih := lookup_relabel hf r (fun x hx => hfr x (List.mem_cons_of_mem _ hx)) x k
    by_cases hk : (kn == NameKind.free) = true
    · rw [if_pos hk] at h' ⊢
      rw [List.lookup_cons] at h' ⊢
      cases q : x == n with
      | true => rw [q] at h'; exact h'
      | false => rw [q] at h'; exact ih h'
    · rw [if_neg hk] at h' ⊢
      rw [List.lookup_cons] at h' ⊢
      cases q : x == n with
      | true => rw [q] at h'; exact h'
      | false => rw [q] at h'; exact ih h'

def AIfs (C : Ctx) (ifs : List Expr) (st : St) (Q : Bool → St → Prop) : Prop :=
  AG BoolR C (forIn ifs true fun c r => if r = true then do let ok ← isTrue c C.env (eval c C.env); pure (ForInStep.yield ok) else pure (ForInStep.yield r)) st Q
theorem AIfs_nil {C : Ctx} {st : St} {Q : Bool → St → Prop} (h : Q true st) : AIfs C [] st Q := fun s ρ I => wpAny_pure ⟨true, st, ρ, I, .refl, rfl, h⟩
theorem AIfs_one {C : Ctx} {st : St} {Q : Bool → St → Prop} {e : Expr} (h : AT C e st Q) : AIfs C [e] st Q := fun s ρ I => by
  rw [List.forIn_cons]
  refine wpAny_bind ?_
  rw [if_pos rfl]
  refine wpAny_bind (h.use I fun a s₁ b st₁ ρ₁ I₁ L₁ r₁ h₁ => wpAny_pure ?_)
  exact wpAny_pure ⟨b, st₁, ρ₁, I₁, L₁, r₁, h₁⟩

/-- one item through the tests and the element; the own list 0 is the one that is filled -/
def CompStep (C' : Ctx) (x : Str) (ifs : List Expr) (elt : Expr) (cap : List (Str × PV)) (y : PyData) (r : Option PyData) : Prop :=
  ∀ l, AIfs C' ifs ⟨(x, .dat y) :: cap, [some l]⟩ fun b st' => if b then AE C' elt st' (fun d st'' => st'' = ⟨(x, .dat y) :: cap, [some l]⟩ ∧ ∃ z, d = .dat z ∧ r = some z) else st' = ⟨(x, .dat y) :: cap, [some l]⟩ ∧ r = none

theorem lookup_mem {α : Type} : ∀ {l : List (Str × α)} {x : Str} {k : α}, l.lookup x = some k → (x, k) ∈ l := mem_of_lookup

section
variable {prog : Program} {w : World} {B : Heap → Prop} {ks : List (Str × NameKind)} {n : Nat} {wr : Bool} {C : Ctx} {st : St}

theorem comp_core (hIn : In prog w B ks n wr C) (hBk : ∀ h h' : Heap, (∀ b o, h.get? b = some o → h'.get? b = some o) → B h → B h') {elt iter : Expr} {x : Str} {px pos : Pos} {ifs : List Expr} {scope : Scope} {cap : List (Str × PV)} {xs : List PyData} {f : PyData → Option PyData}
    {s : Shared} {ρ : List Addr} (I : Inv C st ρ s) {v : Value} {d : PV} (hv : Rep s.heap ρ (Mut C st.σ ρ) v d) (hit : AItr C d xs st)
    (hkind : scope.kind = .function) (hnc : ∀ y ∈ scope.names, y.2 ≠ .cell) (hfree : ∀ y, (y, NameKind.free) ∈ scope.names → ks.lookup y = some .cell) (hx : (compKinds scope.names).lookup x = some .local)
    (hcap : ∀ y dy, cap.lookup y = some dy → st.m.lookup y = some dy ∧ dy.fz = true ∧ (compKinds scope.names).lookup y = some .cell ∧ (y, NameKind.free) ∈ scope.names) (hsz : xs.length ≤ sizeLine)
    (hstep : ∀ C', In prog w B (compKinds scope.names) n false C' → ∀ y ∈ xs, CompStep C' x ifs elt cap y (f y))
    (RR : Value → Env → Result → Shared → Prop)
    (hR : ∀ D L h tk m as, s.heap.get? D = none → s.heap.get? L = none → (∀ b o, s.heap.get? b = some o → h.get? b = some o) → s.toks ≤ tk → h.Ns L m → Reads h (.ref D) (.list (xs.filterMap f)) as → (∀ a ∈ as, ¬ Mut C st.σ ρ a ∧ a ≠ L) → nodAll (xs.filterMap f) = true →
      ∀ cenv : Env, cenv.locals = L → RR (.ref D) cenv (.ok .next) { s with heap := h, toks := tk }) :
    wpAny (model C.prog C.w) C.A (pyIter v) (fun it s₂ => wpAny (model C.prog C.w) C.A (newList []) (fun acc s₃ =>
      wpAny (model C.prog C.w) C.A (newFunctionEnv scope C.env.globals (closOf C.env.cells scope.names []) [] C.env.qual none .none (some C.env)) (fun cenv s₄ =>
        codeAny (model C.prog C.w) C.A (.compStart (.ListComp elt [⟨.Name x px, iter, ifs, 0⟩] scope pos) 0 it acc { cenv with scope := relabel scope C.env }) (RR acc { cenv with scope := relabel scope C.env }) s₄) NoE s₃) NoE s₂) NoE s := by
  have hC := hIn.ok
  refine hit v s ρ I hv _ fun It h₂ tk₂ hfr hk₂ htk₂ it₂ => ?_
  refine newList_step ?_ (Nat.zero_le _)
  -- the list that is filled
  have hDn : h₂.get? h₂.objs.size = none := get?_size _
  have hD0 : s.heap.get? h₂.objs.size = none := by
    cases e : s.heap.get? h₂.objs.size with
    | none => rfl
    | some o => rw [hk₂ _ _ e] at hDn; cases hDn
  refine wpAny_newFunctionEnv hnc (fun _ h => nomatch h) (fun h₄ hns₄ hsb₄ => ?_) hkind
  show codeAny _ _ (.compStart _ 0 _ _ (compEnvC scope (closOf C.env.cells scope.names []) (h₂.push { cls := .type "list", data := .seq #[] }).objs.size C.env)) _ _
  generalize hLe : (h₂.push { cls := .type "list", data := .seq #[] }).objs.size = L at hns₄ hsb₄ ⊢
  generalize hDe : h₂.objs.size = D at hDn hD0 ⊢
  have hL0 : h₂.get? L = none ∧ L ≠ D := by
    rw [← hLe, ← hDe, Heap.size_push]
    refine ⟨?_, by omega⟩
    cases e : h₂.get? (h₂.objs.size + 1) with
    | none => rfl
    | some o => exact absurd (Heap.lt_size e) (Nat.not_lt_of_le (Nat.le_succ _))
  have hLs : s.heap.get? L = none := by
    cases e : s.heap.get? L with
    | none => rfl
    | some o => rw [hk₂ _ _ e] at hL0; exact nomatch hL0.1
  have up₄ : ∀ b o, h₂.get? b = some o → h₄.get? b = some o := fun b o e =>
    (hsb₄.2 b (fun q => by rw [q, hL0.1] at e; cases e)).trans (Heap.get?_push_of_some _ (Heap.get?_push_of_some _ e))
  have hDpl : h₄.get? D = some { cls := .type "list", data := .seq #[] } := by
    rw [← hDe] at hL0 ⊢
    exact (hsb₄.2 _ (Ne.symm hL0.2)).trans (Heap.get?_push_of_some _ (Heap.get?_push_size _ rfl))
  have hItD : It ≠ D := by
    obtain ⟨o, vs, ty, a, _⟩ := it₂.obj
    rintro rfl; rw [hDn] at a; cases a
  have hItL : It ≠ L := by
    obtain ⟨o, vs, ty, a, _⟩ := it₂.obj
    rintro rfl; rw [hL0.1] at a; cases a
  -- the context within
  let cl := closOf C.env.cells scope.names []
  let C' : Ctx := ⟨C.prog, C.w, C.A, compEnvC scope cl L C.env, s, Mut C st.σ ρ⟩
  have hcellC : ∀ y, (y, NameKind.free) ∈ scope.names → ∃ c, C.env.cells.lookup y = some c := fun y hy => hIn.cell y (hfree y hy)
  have hcl : ∀ y c, cl.lookup y = some c → C.env.cells.lookup y = some c := by
    intro y c h
    rcases closOf_lookup scope.names [] y c h with q | ⟨q1, q2⟩
    · cases q
    · obtain ⟨c', hc'⟩ := hcellC y q1
      rw [hc'] at q2; rw [hc', q2]; rfl
  have hkin : ∀ y k, (compKinds scope.names).lookup y = some k → C'.env.kindOf y = some k := lookup_relabel hC.kind scope.names fun y hy => hIn.kinds y _ (hfree y hy)
  have hOk : Ok C' := ⟨hkind, hC.globals, hC.builtins, hLs, fun a ha => let ⟨o, ho⟩ := mut_has hC I ha; ⟨o, ho, I.soft hC a o ha ho⟩, hC.handled, Nat.lt_of_lt_of_le hC.tok I.tok, fun y z c h1 h2 => hC.capart y z c (hcl y c h1) (hcl z c h2)⟩
  have hIn' : In prog w B (compKinds scope.names) n false C' := ⟨hOk, hIn.prog, hIn.w, hBk _ _ I.keep hIn.base, hkin, hIn.room, fun y hy => by
    refine closOf_has scope.names [] y (.inl ?_)
    have hm := mem_of_lookup hy
    obtain ⟨⟨n', k'⟩, hm1, hm2⟩ := List.mem_map.mp hm
    by_cases q : k' = .free
    · subst q; simp at hm2; subst hm2; exact hm1
    · have : (k' == NameKind.free) = false := by simpa using q
      simp [this] at hm2
      obtain ⟨rfl, rfl⟩ := hm2
      exact absurd rfl (hnc _ hm1), fun e => nomatch e⟩
  have hmutC' : ∀ (l : List PV) a, (∃ o, s.heap.get? a = some o) → ¬ Mut C st.σ ρ a → ¬ Mut C' [some l] [D] a := by
    rintro l a ⟨o, ho⟩ hn (h | ⟨y, h⟩ | h | ⟨i, l', h1, h2⟩)
    · rw [show a = L from h, hLs] at ho; cases ho
    · exact hn (.inr (.inl ⟨y, hcl y a h⟩))
    · exact hn h
    · cases i with
      | zero => simp at h2; rw [← h2, hD0] at ho; cases ho
      | succ i => simp at h2
  have keepS : ∀ b o, s.heap.get? b = some o → h₄.get? b = some o := fun b o e => up₄ b o (hk₂ b o e)
  have I₄ : Inv C' ⟨cap, [some []]⟩ [D] { s with heap := h₄, toks := tk₂ } := by
    refine ⟨⟨h₄, tk₂, rfl⟩, keepS, htk₂, ⟨_, hns₄, fun y dy e k => ?_⟩, fun y c hc => ?_, fun i l hi => ?_, fun i j a l l' hi hj ei ej => ?_, rfl⟩
    · have := hkin y _ (hcap y dy e).2.2.1
      rw [this] at k; cases k
    · obtain ⟨u, hu, hd⟩ := I.cell y c (hcl y c hc)
      refine ⟨u, hu.keeps keepS, fun dy e k => ?_⟩
      obtain ⟨c1, c2, c3, c4⟩ := hcap y dy e
      obtain ⟨v', e1, e2⟩ := hd dy c1 (hIn.kinds y _ (hfree y c4))
      refine ⟨v', e1, ?_⟩
      exact (e2.fz (ρ' := [D]) (O' := Mut C st.σ ρ) (fun _ q => q) c2).grow ⟨I.soft hC, fun a o h1 h2 => ⟨keepS a o h1, hmutC' [] a ⟨o, h1⟩ h2⟩, fun _ _ e => e⟩
    · cases i with
      | zero => simp at hi; subst hi; exact ⟨D, [], rfl, ⟨0, hDpl⟩, trivial, hD0⟩
      | succ i => simp at hi
    · cases i with
      | zero => cases j with
        | zero => rfl
        | succ j => simp at ej
      | succ i => simp at ei
  have it₄ : ItAt (Mut C' [some []] [D]) h₄ It xs := by
    have hnm : ¬ Mut C st.σ ρ It := fun hm => by obtain ⟨o, ho⟩ := mut_has hC I hm; rw [hfr] at ho; cases ho
    have J₂ := I.keeps hC (h' := h₂) (tk := tk₂) hk₂ htk₂
    refine it₂.grow (ρ := []) (ρ' := []) ⟨fun a o ha ho => ?_, fun a o h1 h2 => ⟨up₄ a o h1, ?_⟩, fun _ _ e => e⟩ hnm
    · obtain ⟨o', ho'⟩ := mut_has hC I ha
      rw [hk₂ _ _ ho'] at ho; cases ho
      exact I.soft hC a o ha ho'
    · rintro (h | ⟨y, h⟩ | h | ⟨i, l', g1, g2⟩)
      · rw [show a = L from h, hL0.1] at h1; cases h1
      · exact h2 (.inr (.inl ⟨y, hcl y a h⟩))
      · exact h2 h
      · cases i with
        | zero => simp at g2; rw [← g2, hDn] at h1; cases h1
        | succ i => simp at g2
  have hnIt : ∀ (l : List PV), ¬ Mut C' [some l] [D] It := by
    rintro l (h | ⟨y, h⟩ | h | ⟨i, l', h1, h2⟩)
    · exact hItL h
    · obtain ⟨u, ⟨o, ho, _⟩, _⟩ := I.cell y It (hcl y It h); rw [hfr] at ho; cases ho
    · obtain ⟨o, ho⟩ := mut_has hC I h; rw [hfr] at ho; cases ho
    · cases i with
      | zero => simp at h2; exact hItD h2.symm
      | succ i => simp at h2
  -- the loop
  have loop : codeAny (model C.prog C.w) C.A (.compLoop (.ListComp elt [⟨.Name x px, iter, ifs, 0⟩] scope pos) 0 (.ref It) (.ref D) C'.env) (RR (.ref D) C'.env) { s with heap := h₄, toks := tk₂ } := by
    refine codeAny_compLoop_tests (fun k s₅ => ∃ done rest m, xs = done ++ rest ∧ k = rest.length ∧ Inv C' ⟨m, [some ((done.filterMap f).map .dat)]⟩ [D] s₅ ∧ (∀ y dy, cap.lookup y = some dy → m.lookup y = some dy) ∧ ItAt (Mut C' [some ((done.filterMap f).map .dat)] [D]) s₅.heap It rest) ?_ xs.length
      ⟨[], xs, cap, rfl, rfl, I₄, fun _ _ e => e, it₄⟩
    rintro k s₅ ⟨done, rest, m, hxs, rfl, I₅, hm, it₅⟩
    obtain ⟨oI, hI, hodd⟩ := it₅.odd
    have hIt0 : C'.s₀.heap.get? It = none := hfr
    cases rest with
    | nil =>
      refine it₅.stop hC.handled fun h₆ hk₆ => ?_
      have I₆ := I₅.but hI hodd (hnIt _) hIt0 (h' := h₆) (tk := s₅.toks) hk₆ (Nat.le_refl _)
      rw [List.append_nil] at hxs
      subst hxs
      obtain ⟨a, vs, e1, ⟨nn, hpl⟩, hr, _⟩ := I₆.own 0 _ rfl
      simp at e1; subst e1
      obtain ⟨as, rr, na, hd⟩ := repAll_reads hr
      obtain ⟨m', hns', _⟩ := I₆.ns
      obtain ⟨hh, tt, hsame⟩ := I₅.same
      have htk : s.toks ≤ s₅.toks := I₅.tok
      have := hR D L h₆ s₅.toks m' (D :: as) hD0 hLs I₆.keep htk hns' (.list hpl rfl rfl rr) (fun a ha => ?_) hd C'.env rfl
      · have e : ({ s₅ with heap := h₆ } : Shared) = { s with heap := h₆, toks := s₅.toks } := by rw [hsame]
        rw [e]; exact this
      · rcases List.mem_cons.mp ha with rfl | ha
        · refine ⟨fun hm' => ?_, Ne.symm hL0.2⟩
          obtain ⟨o, ho⟩ := mut_has hC I hm'
          rw [hD0] at ho; cases ho
        · exact ⟨fun hm' => na a ha (.inr (.inr (.inl hm'))), fun q => na a ha (.inl q)⟩
    | cons y rest =>
      refine it₅.next (ρ := [D]) fun vy h₆ tk₆ rv it₆ hk₆ htk₆ => ?_
      have I₆ := I₅.but hI hodd (hnIt _) hIt0 (h' := h₆) (tk := tk₆) hk₆ htk₆
      refine PySem.wpAny_assign_Name (wpAny_mono (ASt_local hOk (Q := fun st' => st' = St.set ⟨m, [some ((done.filterMap f).map .dat)]⟩ x (.dat y)) (hkin x _ hx) rfl vy _ [D] I₆ rv) (fun _ s₇ ⟨st₇, ρ₇, I₇, L₇, e₇⟩ => ?_) noE_noted)
      subst e₇
      have hρ : ρ₇ = [D] := by
        have h1 := I₇.len
        have h2 := L₇.rho 0 D rfl
        cases ρ₇ with
        | nil => simp at h2
        | cons a r => cases r with
          | nil => simp at h2; rw [h2]
          | cons b r => exact absurd h1 (by simp [St.set])
      subst hρ
      have Iw := I₇.weak (st' := ⟨(x, .dat y) :: cap, [some ((done.filterMap f).map .dat)]⟩) ⟨rfl, fun z dz e => by
        rw [lookup_set] at e
        show List.lookup z ((x, PV.dat y) :: m) = some dz
        rw [lookup_set]
        by_cases q : z = x
        · rw [if_pos q] at e ⊢; exact e
        · rw [if_neg q] at e ⊢; exact hm z dz e⟩
      have hy : y ∈ xs := by rw [hxs]; simp
      refine wpAny_mono (hstep C' hIn' y hy ((done.filterMap f).map .dat) s₇ [D] Iw) (fun ok s₈ ⟨b, st₈, ρ₈, I₈, L₈, r₈, h₈⟩ => ?_) noE_noted
      have e : ok = b := r₈
      subst e
      have hxs' : xs = (done ++ [y]) ++ rest := by rw [hxs]; simp
      have it₇ := it₆.grow (I₆.grow hOk L₇) (hnIt _)
      have itOf : ∀ {st₉ : St} {ρ₉ : List Addr} {s₉ : Shared}, Le C' ⟨(x, .dat y) :: cap, [some ((done.filterMap f).map .dat)]⟩ [D] s₇ st₉ ρ₉ s₉ → ItAt (Mut C' st₉.σ ρ₉) s₉.heap It rest := fun L₉ => it₇.grow (Iw.grow hOk L₉) (hnIt _)
      have rhoOf : ∀ {st₉ : St} {ρ₉ : List Addr} {s₉ : Shared} {l : List PV}, Inv C' st₉ ρ₉ s₉ → Le C' ⟨(x, .dat y) :: cap, [some ((done.filterMap f).map .dat)]⟩ [D] s₇ st₉ ρ₉ s₉ → st₉.σ = [some l] → ρ₉ = [D] := by
        intro st₉ ρ₉ s₉ l I₉ L₉ hσ
        have h1 := I₉.len
        have h2 := L₉.rho 0 D rfl
        rw [hσ] at h1
        cases ρ₉ with
        | nil => simp at h2
        | cons a r => cases r with
          | nil => simp at h2; rw [h2]
          | cons b r => simp at h1
      have hxc : ∀ z dz, cap.lookup z = some dz → List.lookup z ((x, PV.dat y) :: cap) = some dz := fun z dz e => by
        rw [lookup_set, if_neg]
        · exact e
        · rintro rfl
          have := (hcap _ _ e).2.2.1
          rw [hx] at this; cases this
      cases ok with
      | false =>
        obtain ⟨rfl, hn⟩ := h₈
        have hρ := rhoOf I₈ L₈ rfl
        subst hρ
        have hf : (done ++ [y]).filterMap f = done.filterMap f := by rw [List.filterMap_append]; simp [hn]
        refine ⟨rest.length, Nat.lt_succ_self _, done ++ [y], rest, (x, .dat y) :: cap, hxs', rfl, ?_, hxc, ?_⟩
        · rw [hf]; exact I₈
        · rw [hf]; exact itOf L₈
      | true =>
        refine wpAny_mono (h₈ s₈ ρ₈ I₈) (fun z s₉ ⟨dz, st₉, ρ₉, I₉, L₉, r₉, h₉, pz, e₁, e₂⟩ => ?_) noE_noted
        subst h₉ e₁
        have L₇₉ := L₈.trans L₉
        have hρ := rhoOf I₉ L₇₉ rfl
        subst hρ
        obtain ⟨a, vs, e1, hpl, hr, _⟩ := I₉.own 0 _ rfl
        simp at e1; subst e1
        have hlen : vs.length ≤ sizeLine := by
          have h1 := repAll_len hr
          have h2 : (List.filterMap f done).length ≤ done.length := List.length_filterMap_le _ _
          have h3 : xs.length = done.length + (rest.length + 1) := by rw [hxs]; simp
          rw [List.length_map] at h1
          omega
        refine wpAny_list_append_plain hpl (fun h' hpl' hs' => ?_) (by simpa using hlen)
        have e3 : vs.toArray.push z = (vs ++ [z]).toArray := by simp
        rw [e3] at hpl'
        have J := I₉.upd hOk (i := 0) (l' := (done.filterMap f).map .dat ++ [.dat pz]) (tk := s₉.toks) rfl rfl hpl' hs' (repAll_append hr ⟨r₉, trivial⟩) (Nat.le_refl _)
        have hf : ((done ++ [y]).filterMap f).map PV.dat = (done.filterMap f).map .dat ++ [.dat pz] := by rw [List.filterMap_append]; simp [e₂]
        refine ⟨rest.length, Nat.lt_succ_self _, done ++ [y], rest, (x, .dat y) :: cap, hxs', rfl, ?_, hxc, ?_⟩
        · rw [hf]; exact J.1
        · rw [hf]; exact itOf (L₇₉.trans J.2)
  refine codeAny_compStart_list loop ?_
  exact it₄.self loop

def CompOk (ks : List (Str × NameKind)) (scope : Scope) (x : Str) (cap : List (Str × PV)) (st : St) : Prop :=
  scope.kind = .function ∧ (∀ y ∈ scope.names, y.2 ≠ .cell) ∧ (∀ y, (y, NameKind.free) ∈ scope.names → ks.lookup y = some .cell) ∧ (compKinds scope.names).lookup x = some .local ∧
  (∀ y dy, cap.lookup y = some dy → st.m.lookup y = some dy ∧ dy.fz = true ∧ (compKinds scope.names).lookup y = some .cell ∧ (y, NameKind.free) ∈ scope.names) ∧ (∀ y ∈ scope.names, y.2 = .local → scope.names.lookup y.1 = some .local)

theorem AE_ListComp {Q : PV → St → Prop} (hIn : In prog w B ks n wr C) (hBk : ∀ h h' : Heap, (∀ b o, h.get? b = some o → h'.get? b = some o) → B h → B h') {elt iter : Expr} {x : Str} {px pos : Pos} {ifs : List Expr} {scope : Scope} (cap : List (Str × PV))
    (h : AE C iter st fun d st₁ => ∃ xs f, AItr C d xs st₁ ∧ CompOk ks scope x cap st₁ ∧ xs.length ≤ sizeLine ∧ (∀ C', In prog w B (compKinds scope.names) n false C' → ∀ y ∈ xs, CompStep C' x ifs elt cap y (f y)) ∧ Q (.dat (.list (xs.filterMap f))) st₁)
    (hs : ∀ x, foldedSetIterable iter C.env x = pure x := by intro _; rfl) : AE C (.ListComp elt [⟨.Name x px, iter, ifs, 0⟩] scope pos) st Q := fun s ρ I => by
  rw [eval_ListComp]
  by_cases hc : ∀ y, (y, NameKind.free) ∈ scope.names → ks.lookup y = some .cell
  · by_cases hc2 : scope.kind = .function ∧ ∀ y ∈ scope.names, y.2 = .local → scope.names.lookup y.1 = some .local
    · refine wpAny_comprehension_free (cl := closOf C.env.cells scope.names []) rfl hs (closureFor_of fun y hy => hIn.cell y (hc y hy)) hc2.1 hc2.2 ?_
      refine h.use I fun v s₁ d st₁ ρ₁ I₁ L₁ r₁ ⟨xs, f, hit, ⟨o1, o2, o3, o4, o5, o6⟩, hsz, hstep, hQ⟩ => ?_
      refine comp_core hIn hBk I₁ r₁ hit o1 o2 o3 o4 o5 hsz hstep (fun acc cenv => compPost (model C.prog C.w) C.A NoE none (Post Rep C st ρ s Q) acc cenv.locals) ?_
      intro D L h' tk m as hD hL hk htk hns hr hna hd cenv hcl
      subst hcl
      refine ⟨m, hns, fun h'' hs'' => ?_⟩
      have hk' : ∀ b o, s₁.heap.get? b = some o → h''.get? b = some o := fun b o e => (hs''.2 b (by rintro rfl; rw [hL] at e; cases e)).trans (hk b o e)
      have J := I₁.keeps hIn.ok (h' := h'') (tk := tk) hk' htk
      obtain ⟨oL, es, ep, g1, g2, _⟩ := hns
      exact ⟨.dat (.list (xs.filterMap f)), st₁, ρ₁, J.1, L₁.trans J.2, ⟨as, reads_step (O := fun a => a = cenv.locals) (fun a o q e => by rw [q, g1] at e; cases e; exact .inl ⟨_, _, g2⟩) (fun a o e q => (hs''.2 a q).trans e) hr (fun a ha => (hna a ha).2), fun a ha => (hna a ha).1, hd⟩, hQ⟩
    · have k' : wpAny (model C.prog C.w) C.A (eval iter C.env) (fun _ _ => False) NoE s := h.use I fun v s₁ d st₁ ρ₁ I₁ L₁ r₁ ⟨xs, f, hit, ⟨o1, o2, o3, o4, o5, o6⟩, _⟩ => absurd ⟨o1, o6⟩ hc2
      unfold comprehension
      exact wpAny_bind (wpAny_mono k' (fun _ _ x => x.elim) fun _ _ x => x)
  · have k' : wpAny (model C.prog C.w) C.A (eval iter C.env) (fun _ _ => False) NoE s := h.use I fun v s₁ d st₁ ρ₁ I₁ L₁ r₁ ⟨xs, f, hit, ⟨o1, o2, o3, o4, o5, o6⟩, _⟩ => absurd o3 hc
    unfold comprehension
    exact wpAny_bind (wpAny_mono k' (fun _ _ x => x.elim) fun _ _ x => x)

/-- name = [..]: the store comes ahead of the loop's names' end -/
theorem AX_AssignComp {Q : Fl → St → Prop} (hIn : In prog w B ks n wr C) (hBk : ∀ h h' : Heap, (∀ b o, h.get? b = some o → h'.get? b = some o) → B h → B h') {elt iter : Expr} {x y : Str} {px py pos spos : Pos} {ifs : List Expr} {scope : Scope} (cap : List (Str × PV))
    (hc : (∀ y, (y, NameKind.free) ∈ scope.names → ks.lookup y = some .cell) ∧ scope.kind = .function ∧ ∀ y ∈ scope.names, y.2 = .local → scope.names.lookup y.1 = some .local)
    (h : AE C iter st fun d st₁ => ∃ xs f, AItr C d xs st₁ ∧ CompOk ks scope x cap st₁ ∧ xs.length ≤ sizeLine ∧ (∀ C', In prog w B (compKinds scope.names) n false C' → ∀ y ∈ xs, CompStep C' x ifs elt cap y (f y)) ∧ ASt C y (.dat (.list (xs.filterMap f))) st₁ fun st₂ => Q .next st₂)
    (hsw : swapsWith (.ListComp elt [⟨.Name x px, iter, ifs, 0⟩] scope pos) (some (.Name y py)) spos.line C.env = pure true)
    (hs : ∀ x, foldedSetIterable iter C.env x = pure x := by intro _; rfl) : AX C (.Assign [.Name y py] (.ListComp elt [⟨.Name x px, iter, ifs, 0⟩] scope pos) spos) st Q := fun s ρ I => by
  rw [exec_Assign_Name_used _ _ _ _ hsw]
  refine wpAny_bind (wpAny_standAt (wpAny_bind ?_))
  show wpAny _ _ (do let _ ← comprehension (.ListComp elt [⟨.Name x px, iter, ifs, 0⟩] scope pos) scope C.env _ (newList []) false (eval iter C.env) (some (assign (.Name y py) C.env))) _ _ s
  refine wpAny_bind (wpAny_mono (wpAny_comprehension_free (Q := fun _ s' => Post FlR C st ρ s Q .next s') (cl := closOf C.env.cells scope.names []) rfl hs (closureFor_of fun y hy => hIn.cell y (hc.1 y hy)) hc.2.1 hc.2.2 ?_) (fun _ s' hq => wpAny_pure (wpAny_pure hq)) fun _ _ e => e)
  refine h.use I fun v s₁ d st₁ ρ₁ I₁ L₁ r₁ ⟨xs, f, hit, ⟨o1, o2, o3, o4, o5, o6⟩, hsz, hstep, hQ⟩ => ?_
  refine comp_core hIn hBk I₁ r₁ hit o1 o2 o3 o4 o5 hsz hstep (fun acc cenv => compPost (model C.prog C.w) C.A NoE (some (assign (.Name y py) C.env)) (fun _ s' => Post FlR C st ρ s Q .next s') acc cenv.locals) ?_
  intro D L h' tk m as hD hL hk htk hns hr hna hd cenv hcl
  subst hcl
  have J := I₁.keeps hIn.ok (h' := h') (tk := tk) hk htk
  refine PySem.wpAny_assign_Name (wpAny_mono (hQ (.ref D) _ ρ₁ J.1 ⟨as, hr, fun a ha => (hna a ha).1, hd⟩) (fun _ s₂ ⟨st₂, ρ₂, I₂, L₂, h₂⟩ => ?_) fun _ _ x => x)
  obtain ⟨oL, es, ep, g1, g2⟩ := hns
  have hnm : ¬ Mut C st₁.σ ρ₁ cenv.locals := fun hm => by obtain ⟨o, ho⟩ := mut_has hIn.ok I₁ hm; rw [hL] at ho; cases ho
  have hL2 := L₂.keep _ _ g1 hnm
  refine ⟨m, ⟨oL, es, ep, hL2.1, g2⟩, fun h'' hs'' => ?_⟩
  have hbase : C.s₀.heap.get? cenv.locals = none := by
    cases e : C.s₀.heap.get? cenv.locals with
    | none => rfl
    | some o => rw [I₁.keep _ _ e] at hL; cases hL
  have I₃ := I₂.but hL2.1 (.inl ⟨_, _, g2.1⟩) hL2.2 hbase (h' := h'') (tk := s₂.toks) (fun a o q e => (hs''.2 a q).trans e) (Nat.le_refl _)
  have hne : ∀ a o, s₁.heap.get? a = some o → a ≠ cenv.locals := fun a o e q => by rw [q, hL] at e; cases e
  refine ⟨.next, st₂, ρ₂, I₃, L₁.trans ⟨fun a o e q => ?_, fun i a e => L₂.rho i a e, fun a o e => ?_⟩, trivial, h₂⟩
  · have := (J.2.trans L₂).keep a o e q
    exact ⟨(hs''.2 a (hne a o e)).trans this.1, this.2⟩
  · obtain ⟨o', ho'⟩ := (J.2.trans L₂).ex a o e
    exact ⟨o', (hs''.2 a (hne a o e)).trans ho'⟩
end
end Mine

end
section
open PySem PySem.W PyProof.Rows PySem.Calls
namespace Mine
set_option linter.all false

section
variable {C : Ctx} {st : St} {Q : PV → St → Prop}

abbrev pint (i : Int) : PV := .dat (.int i)
abbrev pstr (x : Str) : PV := .dat (.str x)
abbrev pbool (b : Bool) : PV := .dat (.bool b)
abbrev pnone : PV := .dat .none
abbrev plist (l : List PyData) : PV := .dat (.list l)
abbrev ptup (l : List PyData) : PV := .dat (.tuple l)

theorem rep_int {h : Heap} {ρ : List Addr} {O : Addr → Prop} {v : Value} {i : Int} (r : Rep h ρ O v (pint i)) : ∃ t, v = .int i t := by obtain ⟨_, r, _⟩ := r; cases r; exact ⟨_, rfl⟩
theorem rep_str {h : Heap} {ρ : List Addr} {O : Addr → Prop} {v : Value} {x : Str} (r : Rep h ρ O v (pstr x)) : ∃ t, v = .str x t := by obtain ⟨_, r, _⟩ := r; cases r; exact ⟨_, rfl⟩
theorem rep_bool {h : Heap} {ρ : List Addr} {O : Addr → Prop} {v : Value} {b : Bool} (r : Rep h ρ O v (pbool b)) : v = .bool b := by obtain ⟨_, r, _⟩ := r; cases r; rfl
theorem rep_none {h : Heap} {ρ : List Addr} {O : Addr → Prop} {v : Value} (r : Rep h ρ O v pnone) : v = .none := by obtain ⟨_, r, _⟩ := r; cases r; rfl
theorem rep_list {h : Heap} {ρ : List Addr} {O : Addr → Prop} {v : Value} {xs : List PyData} (r : Rep h ρ O v (plist xs)) : ∃ a vs, v = .ref a ∧ h.IsList a vs.toArray ∧ RepAll h ρ O vs (xs.map .dat) := by
  obtain ⟨as, r, n, hd⟩ := r
  cases r with
  | list h1 h2 h3 h4 => exact ⟨_, _, rfl, ⟨_, h1, h2, _, h3⟩, repAll_dat h4 (fun a ha => n a (List.mem_cons_of_mem _ ha)) hd⟩
theorem rep_tup {h : Heap} {ρ : List Addr} {O : Addr → Prop} {v : Value} {xs : List PyData} (r : Rep h ρ O v (ptup xs)) : ∃ a vs, v = .ref a ∧ h.IsTuple a vs.toArray ∧ RepAll h ρ O vs (xs.map .dat) := by
  obtain ⟨as, r, n, hd⟩ := r
  cases r with
  | tuple h1 h2 h3 h4 => exact ⟨_, _, rfl, ⟨_, h1, h2, _, h3⟩, repAll_dat h4 n hd⟩
theorem rep_own {s : Shared} {ρ : List Addr} {O : Addr → Prop} {v : Value} {i : Nat} {l : List PV} (I : Inv C st ρ s) (hi : st.σ[i]? = some (some l)) (r : Rep s.heap ρ O v (.own i)) : ∃ a vs, v = .ref a ∧ ρ[i]? = some a ∧ s.heap.PlainList a vs.toArray ∧ RepAll s.heap ρ (Mut C st.σ ρ) vs l := by
  obtain ⟨a, e1, e2⟩ := r
  obtain ⟨a', vs, f1, f2, f3, _⟩ := I.own i l hi
  rw [e1] at f1; cases f1
  exact ⟨a, vs, e2, e1, f2, f3⟩

theorem Post.at (hC : Ok C) {ρ : List Addr} {s : Shared} (I : Inv C st ρ s) {k : Nat} (hk : s.toks ≤ k) {v : Value} {d : PV} (hr : Rep s.heap ρ (Mut C st.σ ρ) v d) (h : Q d st) : Post Rep C st ρ s Q v { s with toks := k } :=
  ⟨d, st, ρ, (I.toks hC hk).1, (I.toks hC hk).2, hr, h⟩
theorem Post.here {ρ : List Addr} {s : Shared} (I : Inv C st ρ s) {v : Value} {d : PV} (hr : Rep s.heap ρ (Mut C st.σ ρ) v d) (h : Q d st) : Post Rep C st ρ s Q v s := ⟨d, st, ρ, I, .refl, hr, h⟩
theorem repI {h : Heap} {ρ : List Addr} {O : Addr → Prop} {i : Int} {t : Tok} : Rep h ρ O (.int i t) (pint i) := ⟨[], .int i t, (fun _ h => nomatch h), rfl⟩
theorem repS {h : Heap} {ρ : List Addr} {O : Addr → Prop} {x : Str} {t : Tok} : Rep h ρ O (.str x t) (pstr x) := ⟨[], .str x t, (fun _ h => nomatch h), rfl⟩
theorem repB {h : Heap} {ρ : List Addr} {O : Addr → Prop} {b : Bool} : Rep h ρ O (.bool b) (pbool b) := ⟨[], .bool b, (fun _ h => nomatch h), rfl⟩
theorem repN {h : Heap} {ρ : List Addr} {O : Addr → Prop} : Rep h ρ O .none pnone := ⟨[], .none, (fun _ h => nomatch h), rfl⟩

/-- the tokens only grow -/
theorem grown {s : Shared} {M : Model} {A : Around} {α : Type} {t : Sem α} {P : α → Shared → Prop} (h : wpAny M A t (fun a s' => s.toks ≤ s'.toks → P a s') (fun e s' => s.toks ≤ s'.toks → NoE e s') s) : wpAny M A t P NoE s := wpAny_with_toks (Nat.le_refl _) h

/-! ints -/
theorem ABin_addI (hC : Ok C) {i j : Int} (h : Q (pint (i + j)) st) : ABin C .Add (pint i) (pint j) st Q := fun a b s ρ I ra rb => by
  obtain ⟨t, rfl⟩ := rep_int ra; obtain ⟨u, rfl⟩ := rep_int rb
  exact PySem.P.add_int (Post.at hC I (Nat.le_succ _) repI h)
theorem ABin_subI (hC : Ok C) {i j : Int} (h : Q (pint (i - j)) st) : ABin C .Sub (pint i) (pint j) st Q := fun a b s ρ I ra rb => by
  obtain ⟨t, rfl⟩ := rep_int ra; obtain ⟨u, rfl⟩ := rep_int rb
  exact PySem.P.sub_int (Post.at hC I (Nat.le_succ _) repI h)
theorem ABin_mulI (hC : Ok C) {i j : Int} (hm : IntMulOk i j) (h : Q (pint (i * j)) st) : ABin C .Mult (pint i) (pint j) st Q := fun a b s ρ I ra rb => by
  obtain ⟨t, rfl⟩ := rep_int ra; obtain ⟨u, rfl⟩ := rep_int rb
  exact PySem.P.mul_int (Post.at hC I (Nat.le_succ _) repI h) hm
theorem ABin_modI (hC : Ok C) {i j : Int} (hj : j ≠ 0) (h : Q (pint (i.fmod j)) st) : ABin C .Mod (pint i) (pint j) st Q := fun a b s ρ I ra rb => by
  obtain ⟨t, rfl⟩ := rep_int ra; obtain ⟨u, rfl⟩ := rep_int rb
  exact mod_int' hj (Post.at hC I (Nat.le_succ _) repI h)
theorem ABin_divI (hC : Ok C) {i j : Int} (hj : j ≠ 0) (hs : j.natAbs < 1073741824) (h : Q (pint (i.fdiv j)) st) : ABin C .FloorDiv (pint i) (pint j) st Q := fun a b s ρ I ra rb => by
  obtain ⟨t, rfl⟩ := rep_int ra; obtain ⟨u, rfl⟩ := rep_int rb
  exact floordiv_int hj (Post.at hC I (Nat.le_succ _) repI h) (.inl (PyProof.noPylong_small hs))
theorem AUn_neg (hC : Ok C) {i : Int} (h : Q (pint (-i)) st) : AUn C .USub (pint i) st Q := fun a s ρ I ra => by
  obtain ⟨t, rfl⟩ := rep_int ra
  exact PySem.P.neg_int (Post.at hC I (Nat.le_succ _) repI h)
theorem ACmp_eqI {i j : Int} (h : Q (pbool (i == j)) st) : ACmp C .Eq (pint i) (pint j) st Q := fun a b s ρ I ra rb => by
  obtain ⟨t, rfl⟩ := rep_int ra; obtain ⟨u, rfl⟩ := rep_int rb
  exact PySem.P.eq_int (Post.here I repB h)
theorem ACmp_neI {i j : Int} (h : Q (pbool (i != j)) st) : ACmp C .NotEq (pint i) (pint j) st Q := fun a b s ρ I ra rb => by
  obtain ⟨t, rfl⟩ := rep_int ra; obtain ⟨u, rfl⟩ := rep_int rb
  exact PySem.P.ne_int (Post.here I repB h)
theorem ACmp_ltI {i j : Int} (h : Q (pbool (decide (i < j))) st) : ACmp C .Lt (pint i) (pint j) st Q := fun a b s ρ I ra rb => by
  obtain ⟨t, rfl⟩ := rep_int ra; obtain ⟨u, rfl⟩ := rep_int rb
  exact PySem.P.lt_int (Post.here I repB h)
theorem ACmp_leI {i j : Int} (h : Q (pbool (decide (i ≤ j))) st) : ACmp C .LtE (pint i) (pint j) st Q := fun a b s ρ I ra rb => by
  obtain ⟨t, rfl⟩ := rep_int ra; obtain ⟨u, rfl⟩ := rep_int rb
  exact PySem.P.le_int (Post.here I repB h)
theorem ACmp_gtI {i j : Int} (h : Q (pbool (decide (i > j))) st) : ACmp C .Gt (pint i) (pint j) st Q := fun a b s ρ I ra rb => by
  obtain ⟨t, rfl⟩ := rep_int ra; obtain ⟨u, rfl⟩ := rep_int rb
  exact PySem.P.gt_int (Post.here I repB h)
theorem ACmp_geI {i j : Int} (h : Q (pbool (decide (i ≥ j))) st) : ACmp C .GtE (pint i) (pint j) st Q := fun a b s ρ I ra rb => by
  obtain ⟨t, rfl⟩ := rep_int ra; obtain ⟨u, rfl⟩ := rep_int rb
  exact PySem.P.ge_int (Post.here I repB h)

/-! is -/
theorem ACmp_isB {c d : Bool} (h : Q (pbool (c == d)) st) : ACmp C .Is (pbool c) (pbool d) st Q := fun a b s ρ I ra rb => by
  cases rep_bool ra; cases rep_bool rb; exact is_bool (Post.here I repB h)
theorem ACmp_isnotB {c d : Bool} (h : Q (pbool (c != d)) st) : ACmp C .IsNot (pbool c) (pbool d) st Q := fun a b s ρ I ra rb => by
  cases rep_bool ra; cases rep_bool rb; exact isnot_bool (Post.here I repB h)
def isNone : PyData → Bool
  | .none => true
  | _ => false
theorem reads_ne_none {h : Heap} {v : Value} {d : PyData} {as : List Addr} (r : Reads h v d as) : (v == .none) = isNone d := by cases r <;> rfl
theorem ACmp_isN {d : PyData} (h : Q (pbool (isNone d)) st) : ACmp C .Is (.dat d) pnone st Q := fun a b s ρ I ra rb => by
  cases rep_none rb
  obtain ⟨as, r, _⟩ := ra
  exact is_none_gen (by rw [reads_ne_none r]; exact Post.here I repB h)
theorem ACmp_isnotN {d : PyData} (h : Q (pbool (!isNone d)) st) : ACmp C .IsNot (.dat d) pnone st Q := fun a b s ρ I ra rb => by
  cases rep_none rb
  obtain ⟨as, r, _⟩ := ra
  exact isnot_none_gen (by rw [reads_ne_none r]; exact Post.here I repB h)

/-! strs -/
theorem str_eq_iff {x y : Str} : (x.cps.toList == y.cps.toList) = decide (x = y) := by
  obtain ⟨⟨a⟩⟩ := x; obtain ⟨⟨b⟩⟩ := y
  by_cases h : a = b
  · subst h; simp
  · have h1 : (Str.mk ⟨a⟩ = Str.mk ⟨b⟩) ↔ a = b := ⟨fun e => by cases e; rfl, fun e => by rw [e]⟩
    simp [h]
theorem ACmp_eqS {x y : Str} (h : Q (pbool (decide (x = y))) st) : ACmp C .Eq (pstr x) (pstr y) st Q := fun a b s ρ I ra rb => by
  obtain ⟨t, rfl⟩ := rep_str ra; obtain ⟨u, rfl⟩ := rep_str rb
  exact PySem.P.eq_str (by rw [str_eq_iff]; exact Post.here I repB h)
theorem ACmp_neS {x y : Str} (h : Q (pbool (!decide (x = y))) st) : ACmp C .NotEq (pstr x) (pstr y) st Q := fun a b s ρ I ra rb => by
  obtain ⟨t, rfl⟩ := rep_str ra; obtain ⟨u, rfl⟩ := rep_str rb
  exact PySem.P.ne_str (by rw [bne, str_eq_iff]; exact Post.here I repB h)
theorem ACmp_inS {x y : Str} (h : Q (pbool (Txt.contains x y)) st) : ACmp C .In (pstr y) (pstr x) st Q := fun a b s ρ I ra rb => by
  obtain ⟨t, rfl⟩ := rep_str ra; obtain ⟨u, rfl⟩ := rep_str rb
  exact SB.contains (Post.here I repB h)
theorem ACmp_notinS {x y : Str} (h : Q (pbool (!Txt.contains x y)) st) : ACmp C .NotIn (pstr y) (pstr x) st Q := fun a b s ρ I ra rb => by
  obtain ⟨t, rfl⟩ := rep_str ra; obtain ⟨u, rfl⟩ := rep_str rb
  exact SB.notContains (Post.here I repB h)
theorem ABin_addS (hC : Ok C) {x y : Str} (hsz : x.length + y.length ≤ sizeLine) (h : Q (pstr (x ++ y)) st) : ABin C .Add (pstr x) (pstr y) st Q := fun a b s ρ I ra rb => by
  obtain ⟨t, rfl⟩ := rep_str ra; obtain ⟨u, rfl⟩ := rep_str rb
  exact grown (SB.add (fun t' k hk => Post.at hC I hk repS h) hsz)
theorem ATru_str {Q : Bool → St → Prop} (hC : Ok C) {x : Str} (h63 : x.length ≤ sizeLine) (h : Q (!(x.length == 0)) st) : ATru C (pstr x) st Q := fun a s ρ I ra => by
  obtain ⟨t, rfl⟩ := rep_str ra
  refine SBL.truthy (by rw [sizeLine_eq] at h63; omega) ⟨_, st, ρ, (I.toks hC (Nat.le_add_right _ 2)).1, (I.toks hC (Nat.le_add_right _ 2)).2, ?_, h⟩
  show ((x.length : Int) != 0) = !(x.length == 0)
  cases x.length <;> rfl
theorem ATru_int {Q : Bool → St → Prop} {i : Int} (h : Q (i != 0) st) : ATru C (pint i) st Q := fun a s ρ I ra => by
  obtain ⟨t, rfl⟩ := rep_int ra
  exact PySem.P.truthy_int ⟨_, st, ρ, I, .refl, rfl, h⟩

/-! items -/
def AItem (C : Ctx) (d i : PV) (st : St) (Q : PV → St → Prop) : Prop :=
  ∀ v vi s ρ, Inv C st ρ s → Rep s.heap ρ (Mut C st.σ ρ) v d → Rep s.heap ρ (Mut C st.σ ρ) vi i → ∀ (value slice : Expr), (∀ o j, subscripted slice false o j = operate [o, j] (getItem o j)) → wpAny (model C.prog C.w) C.A (subscriptTail value slice v vi) (Post Rep C st ρ s Q) NoE s
theorem AE_Item (hC : Ok C) {e i : Expr} {pos : Pos} (h : AE C e st fun d st₁ => AE C i st₁ fun di st₂ => AItem C d di st₂ Q)
    (hs : ∀ o j, subscripted i false o j = operate [o, j] (getItem o j) := by intro _ _; rfl) : AE C (.Subscript e i pos) st Q := fun s ρ I =>
  Subscript_ (h.use I fun a s₁ d st₁ ρ₁ I₁ L₁ r₁ h₁ => h₁.use I₁ fun b s₂ db st₂ ρ₂ I₂ L₂ r₂ h₂ =>
    wpAny_mono (h₂ a b s₂ ρ₂ I₂ (r₁.grow (I₁.grow hC L₂)) r₂ e i hs) (fun _ _ p => (p.le L₂).le L₁) fun _ _ x => x)

theorem AItem_str (hC : Ok C) {x : Str} {i : Int} (h1 : -(x.length : Int) ≤ i) (h2 : i < x.length) (hsz : x.length ≤ sizeLine) (h : Q (pstr (Txt.item x i)) st) : AItem C (pstr x) (pint i) st Q := fun v vi s ρ I r ri value slice hs => by
  obtain ⟨t, rfl⟩ := rep_str r; obtain ⟨u, rfl⟩ := rep_int ri
  rw [sizeLine_eq] at hsz
  refine tail_any (typeIs_str _ _ _) F.slot_str_getitem.lookup (SB.getItem ?_ ?_ (Post.at hC I (Nat.le_succ _) repS h)) (hs _ _)
  · unfold fitsSsize
    simp only [Bool.not_eq_true', Bool.or_eq_false_iff, decide_eq_false_iff_not]
    omega
  · unfold Txt.charAt seqIndex?
    by_cases h0 : i < 0
    · rw [if_pos h0, if_pos (by simp only [Bool.and_eq_true, decide_eq_true_eq]; omega)]
      have : (i + x.length).toNat < x.cps.size := by unfold Str.length at *; omega
      simp [this]
    · rw [if_neg h0, if_pos (by simp only [Bool.and_eq_true, decide_eq_true_eq]; omega)]
      have : i.toNat < x.cps.size := by unfold Str.length at *; omega
      simp [this]

theorem AItem_at {i : Int} {d : PV} {l : List PV} {k : Nat} {a : Addr} {vs : List Value} {s : Shared} {ρ : List Addr} {u : Tok} (I : Inv C st ρ s) (hl : s.heap.IsList a vs.toArray) (hr : RepAll s.heap ρ (Mut C st.σ ρ) vs l) (hsz : l.length ≤ sizeLine)
    (hi : (0 ≤ i ∧ k = i.toNat) ∨ (i < 0 ∧ (k : Int) = i + l.length)) (hx : l[k]? = some d) (h : Q d st) : wpAny (model C.prog C.w) C.A (getItem (.ref a) (.int i u)) (Post Rep C st ρ s Q) NoE s := by
  obtain ⟨v, e1, e2⟩ := repAll_get hr k d hx
  have hlen := repAll_len hr
  have hk : k < l.length := (List.getElem?_eq_some_iff.mp hx).1
  rw [sizeLine_eq] at hsz
  rcases hi with ⟨h0, rfl⟩ | ⟨h0, hk'⟩
  · exact wpAny_getItem_list hl h0 (by omega) (by simpa using e1) (Post.here I e2 h)
  · have hs' : vs.toArray.size = l.length := by simpa using hlen
    exact wpAny_getItem_list_neg hl h0 (by rw [hs']; omega) (by omega) (by rw [hs', show (i + (l.length : Int)).toNat = k by omega]; simpa using e1) (Post.here I e2 h)
theorem AItem_list {xs : List PyData} {i : Int} {d : PyData} (k : Nat) (hi : (0 ≤ i ∧ k = i.toNat) ∨ (i < 0 ∧ (k : Int) = i + xs.length)) (hx : xs[k]? = some d) (hsz : xs.length ≤ sizeLine) (h : Q (.dat d) st) : AItem C (plist xs) (pint i) st Q := fun v vi s ρ I r ri value slice hs => by
  obtain ⟨a, vs, rfl, hl, hr⟩ := rep_list r; obtain ⟨u, rfl⟩ := rep_int ri
  exact tail_any hl.typeIs slot_list_getitem.lookup (AItem_at I hl hr (by simpa using hsz) (by simpa using hi) (by simp [hx]) h) (hs _ _)
theorem AItem_own {i : Int} {j : Nat} {l : List PV} {d : PV} (k : Nat) (hj : st.σ[j]? = some (some l)) (hi : (0 ≤ i ∧ k = i.toNat) ∨ (i < 0 ∧ (k : Int) = i + l.length)) (hx : l[k]? = some d) (hsz : l.length ≤ sizeLine) (h : Q d st) : AItem C (.own j) (pint i) st Q := fun v vi s ρ I r ri value slice hs => by
  obtain ⟨a, vs, rfl, _, hl, hr⟩ := rep_own I hj r; obtain ⟨u, rfl⟩ := rep_int ri
  exact tail_any hl.isList.typeIs slot_list_getitem.lookup (AItem_at I hl.isList hr hsz hi hx h) (hs _ _)
theorem AItem_tup {xs : List PyData} {i : Int} {d : PyData} (k : Nat) (hi : (0 ≤ i ∧ k = i.toNat) ∨ (i < 0 ∧ (k : Int) = i + xs.length)) (hx : xs[k]? = some d) (hsz : xs.length ≤ sizeLine) (h : Q (.dat d) st) : AItem C (ptup xs) (pint i) st Q := fun v vi s ρ I r ri value slice hs => by
  obtain ⟨a, vs, rfl, hl, hr⟩ := rep_tup r; obtain ⟨u, rfl⟩ := rep_int ri
  have hlen := repAll_len hr
  obtain ⟨w', e1, e2⟩ := repAll_get hr k (.dat d) (by simp [hx])
  have hk : k < xs.length := (List.getElem?_eq_some_iff.mp hx).1
  rw [sizeLine_eq] at hsz
  have hs' : vs.length = xs.length := by simpa using hlen
  refine tail_any (T := "tuple") hl.typeIs F.slot_tuple_getitem.lookup (PyProof.Rows.getItem_tuple hl ?_ ?_ (j := k) ?_ (by simpa using e1) (Post.here I e2 h)) (hs _ _)
  · rcases hi with hi | hi <;> omega
  · rcases hi with hi | hi <;> omega
  · rw [List.size_toArray, hs']
    unfold seqIndex?
    rcases hi with ⟨h0, rfl⟩ | ⟨h0, h1⟩
    · rw [if_neg (show ¬ i < 0 by omega), if_pos (by simp only [Bool.and_eq_true, decide_eq_true_eq]; omega)]
    · rw [if_pos h0, if_pos (by simp only [Bool.and_eq_true, decide_eq_true_eq]; omega), show (i + (xs.length : Int)).toNat = k by omega]
end
end Mine

end
section
open PySem PySem.W PyProof.Rows PySem.Calls PySem.SeqAt
namespace Mine
set_option linter.all false

/-! equality of data -/
mutual
theorem nod_unique {h : Heap} : ∀ (d d' : PyData) (v : Value) (as as' : List Addr), nod d = true → Reads h v d as → Reads h v d' as' → d = d'
  | .none, _, _, _, _, _, r, r' => by cases r; cases r'; rfl
  | .bool _, _, _, _, _, _, r, r' => by cases r; cases r'; rfl
  | .int _, _, _, _, _, _, r, r' => by cases r; cases r'; rfl
  | .str _, _, _, _, _, _, r, r' => by cases r; cases r'; rfl
  | .list xs, d', _, _, _, hl, r, r' => by
    cases r with
    | list h1 h2 h3 h4 =>
      cases r' with
      | list k1 k2 k3 k4 => rw [h1] at k1; cases k1; rw [h3] at k3; cases k3; rw [nodAll_unique xs _ _ _ _ hl h4 k4]
      | tuple k1 k2 k3 k4 => rw [h1] at k1; cases k1; rw [h2] at k2; exact absurd k2 (by simp)
      | dict k1 k2 k3 k4 k5 => rw [h1] at k1; cases k1; rw [h2] at k2; exact absurd k2 (by simp)
  | .tuple xs, d', _, _, _, hl, r, r' => by
    cases r with
    | tuple h1 h2 h3 h4 =>
      cases r' with
      | tuple k1 k2 k3 k4 => rw [h1] at k1; cases k1; rw [h3] at k3; cases k3; rw [nodAll_unique xs _ _ _ _ hl h4 k4]
      | list k1 k2 k3 k4 => rw [h1] at k1; cases k1; rw [h2] at k2; exact absurd k2 (by simp)
      | dict k1 k2 k3 k4 k5 => rw [h1] at k1; cases k1; rw [h2] at k2; exact absurd k2 (by simp)
  | .dict _, _, _, _, _, hl, _, _ => nomatch hl
theorem nodAll_unique {h : Heap} : ∀ (xs ys : List PyData) (vs : List Value) (as as' : List Addr), nodAll xs = true → ReadsAll h vs xs as → ReadsAll h vs ys as' → xs = ys
  | [], _, _, _, _, _, r, r' => by cases r; cases r'; rfl
  | x :: xs, _, _, _, _, hl, r, r' => by
    have hl' := Bool.and_eq_true_iff.mp (show (nod x && nodAll xs) = true from hl)
    cases r with
    | cons h1 h2 => cases r' with | cons k1 k2 => rw [nod_unique x _ _ _ _ hl'.1 h1 k1, nodAll_unique xs _ _ _ _ hl'.2 h2 k2]
end
mutual
theorem nod_refl : ∀ d : PyData, nod d = true → PyData.eqv d d = true
  | .none, _ => rfl
  | .bool b, _ => by simp [PyData.eqv]
  | .int i, _ => by simp [PyData.eqv]
  | .str x, _ => by simp [PyData.eqv]
  | .list xs, h => by rw [PyData.eqv]; exact nodAll_refl xs h
  | .tuple xs, h => by rw [PyData.eqv]; exact nodAll_refl xs h
  | .dict _, h => nomatch h
theorem nodAll_refl : ∀ xs : List PyData, nodAll xs = true → PyData.eqvAll xs xs = true
  | [], _ => rfl
  | x :: xs, h => by
    have h' := Bool.and_eq_true_iff.mp (show (nod x && nodAll xs) = true from h)
    rw [PyData.eqvAll, nod_refl x h'.1, nodAll_refl xs h'.2]; rfl
end

mutual
theorem eqAt_nod : ∀ (da db : PyData) (A : Around) (s : Shared) (a b : Value) (as bs : List Addr), Reads s.heap a da as → Reads s.heap b db bs → nod da = true → nod db = true →
    A.units + min da.depth db.depth < cLine → EqAt A s a b (PyData.eqv da db)
  | .list xs, db, A, s, _, _, _, _, ra, rb, ha, hb, hu => by
    cases ra with
    | @list l o vs n _ as₁ h1 h2 h3 h4 =>
      have hl : s.heap.IsList l vs := ⟨_, h1, h2, _, h3⟩
      cases rb with
      | none => exact EqAt.list_none hl (room_here hu)
      | bool y => exact EqAt.list_bool y hl (room_here hu)
      | int y u => exact EqAt.list_int y u hl (room_here hu)
      | str y u => exact EqAt.list_str y u hl (room_here hu)
      | tuple k1 k2 k3 k4 => exact EqAt.list_tuple hl ⟨_, k1, k2, _, k3⟩ (room_here hu)
      | dict => exact nomatch hb
      | @list l' o' vs' n' ys bs₁ k1 k2 k3 k4 =>
        have hl' : s.heap.IsList l' vs' := ⟨_, k1, k2, _, k3⟩
        have n1 : vs.size = xs.length := by simpa using readsAll_len h4
        have n2 : vs'.size = ys.length := by simpa using readsAll_len k4
        show EqAt A s (.ref l) (.ref l') (PyData.eqvAll xs ys)
        by_cases hll : l = l'
        · subst hll
          injection nod_unique (.list xs) (.list ys) _ _ _ ha (.list h1 h2 h3 h4) (.list k1 k2 k3 k4) with e
          subst e
          rw [nodAll_refl xs ha]
          exact EqAt.same _
        · by_cases hsz : vs.size = vs'.size
          · rw [← eqvAll_same_length (by omega : xs.length = ys.length), ← n1]
            refine EqAt.of_refs hll (RcAt.lists hl hl' hsz (room_here hu) fun j j1 j2 => ?_)
            have := eqAt_nodAll xs ys A.in1 s vs.toList vs'.toList _ _ h4 k4 ha hb (room_in hu) j (by simpa using j1) (by simpa using j2)
            simpa using this
          · rw [eqvAll_other_length (by omega : xs.length ≠ ys.length)]
            exact EqAt.of_refs hll (RcAt.lists_lengths hl hl' (by simpa using hsz) (room_here hu))
  | .tuple xs, db, A, s, _, _, _, _, ra, rb, ha, hb, hu => by
    cases ra with
    | @tuple l o vs n _ as₁ h1 h2 h3 h4 =>
      have hl : s.heap.IsTuple l vs := ⟨_, h1, h2, _, h3⟩
      cases rb with
      | none => exact EqAt.tuple_none hl (room_here hu)
      | bool y => exact EqAt.tuple_bool y hl (room_here hu)
      | int y u => exact EqAt.tuple_int y u hl (room_here hu)
      | str y u => exact EqAt.tuple_str y u hl (room_here hu)
      | list k1 k2 k3 k4 => exact EqAt.tuple_list hl ⟨_, k1, k2, _, k3⟩ (room_here hu)
      | dict => exact nomatch hb
      | @tuple l' o' vs' n' ys bs₁ k1 k2 k3 k4 =>
        have hl' : s.heap.IsTuple l' vs' := ⟨_, k1, k2, _, k3⟩
        have n1 : vs.size = xs.length := by simpa using readsAll_len h4
        have n2 : vs'.size = ys.length := by simpa using readsAll_len k4
        show EqAt A s (.ref l) (.ref l') (PyData.eqvAll xs ys)
        by_cases hll : l = l'
        · subst hll
          injection nod_unique (.tuple xs) (.tuple ys) _ _ _ ha (.tuple h1 h2 h3 h4) (.tuple k1 k2 k3 k4) with e
          subst e
          rw [nodAll_refl xs ha]
          exact EqAt.same _
        · rw [← eqvAll_eq xs ys, ← n1, ← n2]
          refine EqAt.of_refs hll (RcAt.tuples hl hl' (room_here hu) fun j j1 j2 => ?_)
          have := eqAt_nodAll xs ys A.in1 s vs.toList vs'.toList _ _ h4 k4 ha hb (room_in hu) j (by simpa using j1) (by simpa using j2)
          simpa using this
  | .none, _, A, s, _, _, _, _, ra, rb, _, hb, hu => by
    cases ra with
    | none =>
      cases rb with
      | none => exact EqAt.same _
      | bool y => exact EqAt.none_bool  y
      | int y u => exact EqAt.none_int  y u
      | str y u => exact EqAt.none_str  y u
      | list k1 k2 k3 k4 => exact EqAt.none_list  ⟨_, k1, k2, _, k3⟩ (room_here hu)
      | tuple k1 k2 k3 k4 => exact EqAt.none_tuple  ⟨_, k1, k2, _, k3⟩ (room_here hu)
      | dict => exact nomatch hb
  | .bool x, _, A, s, _, _, _, _, ra, rb, _, hb, hu => by
    cases ra with
    | bool _ =>
      cases rb with
      | none => exact EqAt.bool_none x
      | bool y => exact EqAt.bool_bool x y
      | int y u => exact EqAt.bool_int x y u
      | str y u => exact EqAt.bool_str x y u
      | list k1 k2 k3 k4 => exact EqAt.bool_list x ⟨_, k1, k2, _, k3⟩ (room_here hu)
      | tuple k1 k2 k3 k4 => exact EqAt.bool_tuple x ⟨_, k1, k2, _, k3⟩ (room_here hu)
      | dict => exact nomatch hb
  | .int x, _, A, s, _, _, _, _, ra, rb, _, hb, hu => by
    cases ra with
    | int _ t =>
      cases rb with
      | none => exact EqAt.int_none x t
      | bool y => exact EqAt.int_bool x t y
      | int y u => exact EqAt.int_int x t y u
      | str y u => exact EqAt.int_str x t y u
      | list k1 k2 k3 k4 => exact EqAt.int_list x t ⟨_, k1, k2, _, k3⟩ (room_here hu)
      | tuple k1 k2 k3 k4 => exact EqAt.int_tuple x t ⟨_, k1, k2, _, k3⟩ (room_here hu)
      | dict => exact nomatch hb
  | .str x, _, A, s, _, _, _, _, ra, rb, _, hb, hu => by
    cases ra with
    | str _ t =>
      cases rb with
      | none => exact EqAt.str_none x t
      | bool y => exact EqAt.str_bool x t y
      | int y u => exact EqAt.str_int x t y u
      | str y u => exact EqAt.str_str x t y u
      | list k1 k2 k3 k4 => exact EqAt.str_list x t ⟨_, k1, k2, _, k3⟩ (room_here hu)
      | tuple k1 k2 k3 k4 => exact EqAt.str_tuple x t ⟨_, k1, k2, _, k3⟩ (room_here hu)
      | dict => exact nomatch hb
  | .dict _, _, _, _, _, _, _, _, _, _, ha, _, _ => nomatch ha
theorem eqAt_nodAll : ∀ (xs ys : List PyData) (A : Around) (s : Shared) (vs ws : List Value) (as bs : List Addr), ReadsAll s.heap vs xs as → ReadsAll s.heap ws ys bs → nodAll xs = true → nodAll ys = true →
    A.units + min (PyData.depthAll xs) (PyData.depthAll ys) < cLine → ∀ j (h1 : j < vs.length) (h2 : j < ws.length), EqAt A s vs[j] ws[j] (pairEq xs ys j)
  | [], _, _, _, _, _, _, _, ra, _, _, _, _, j, h1, _ => by cases ra; exact absurd h1 (Nat.not_lt_zero _)
  | _ :: _, [], _, _, _, _, _, _, _, rb, _, _, _, j, _, h2 => by cases rb; exact absurd h2 (Nat.not_lt_zero _)
  | x :: xs, y :: ys, A, s, _, _, _, _, ra, rb, ha, hb, hu, j, h1, h2 => by
    have ha' := Bool.and_eq_true_iff.mp (show (nod x && nodAll xs) = true from ha)
    have hb' := Bool.and_eq_true_iff.mp (show (nod y && nodAll ys) = true from hb)
    cases ra with
    | cons r rs =>
      cases rb with
      | cons r' rs' =>
        cases j with
        | zero => exact eqAt_nod x y A s _ _ _ _ r r' ha'.1 hb'.1 (room_head hu)
        | succ j => exact eqAt_nodAll xs ys A s _ _ _ _ rs rs' ha'.2 hb'.2 (room_tail hu) j (Nat.lt_of_succ_lt_succ h1) (Nat.lt_of_succ_lt_succ h2)
end

section
variable {C : Ctx} {st : St} {Q : PV → St → Prop}

/-- the units that are left -/
def Un (C : Ctx) : Prop := C.A.units + 66 < cLine
theorem In.un {prog : Program} {w : World} {B : Heap → Prop} {ks : List (Str × NameKind)} {n : Nat} {wr : Bool} (h : In prog w B ks n wr C) : Un C := by have := h.room.units; show C.A.units + 66 < 9900; omega

theorem rc_list {s : Shared} {a b : Value} {xs ys : List PyData} {as bs : List Addr} (ra : Reads s.heap a (.list xs) as) (rb : Reads s.heap b (.list ys) bs) (ha : nodAll xs = true) (hb : nodAll ys = true) {A : Around} (hu : A.units + 66 < cLine) (hx : PyData.depthAll xs ≤ 64) :
    RcAt A s a b (PyData.eqvAll xs ys) := by
  cases ra with
  | @list l o vs n _ as₁ h1 h2 h3 h4 =>
    cases rb with
    | @list l' o' vs' n' _ bs₁ k1 k2 k3 k4 =>
      have hl : s.heap.IsList l vs := ⟨_, h1, h2, _, h3⟩
      have hl' : s.heap.IsList l' vs' := ⟨_, k1, k2, _, k3⟩
      have n1 : vs.size = xs.length := by simpa using readsAll_len h4
      have n2 : vs'.size = ys.length := by simpa using readsAll_len k4
      by_cases hsz : vs.size = vs'.size
      · rw [← eqvAll_same_length (by omega : xs.length = ys.length), ← n1]
        refine RcAt.lists hl hl' hsz (by omega) fun j j1 j2 => ?_
        have := eqAt_nodAll xs ys A.in1 s vs.toList vs'.toList _ _ h4 k4 ha hb (by show A.units + 1 + min _ _ < cLine; omega) j (by simpa using j1) (by simpa using j2)
        simpa using this
      · rw [eqvAll_other_length (by omega : xs.length ≠ ys.length)]
        exact RcAt.lists_lengths hl hl' (by simpa using hsz) (by omega)

theorem ACmp_eqL (hU : Un C) {xs ys : List PyData} (hd : PyData.depthAll xs ≤ 64) (h : Q (pbool (PyData.eqvAll xs ys)) st) : ACmp C .Eq (plist xs) (plist ys) st Q := fun a b s ρ I ⟨as, ra, _, ha⟩ ⟨bs, rb, _, hb⟩ =>
  rc_list ra rb ha hb hU hd _ _ _ _ (Post.here I repB h)
theorem rcne_list {s : Shared} {a b : Value} {xs ys : List PyData} {as bs : List Addr} (ra : Reads s.heap a (.list xs) as) (rb : Reads s.heap b (.list ys) bs) (ha : nodAll xs = true) (hb : nodAll ys = true) {A : Around} (hu : A.units + 66 < cLine) (hx : PyData.depthAll xs ≤ 64) :
    RcNeAt A s a b (!PyData.eqvAll xs ys) := by
  cases ra with
  | @list l o vs n _ as₁ h1 h2 h3 h4 =>
    cases rb with
    | @list l' o' vs' n' _ bs₁ k1 k2 k3 k4 =>
      have hl : s.heap.IsList l vs := ⟨_, h1, h2, _, h3⟩
      have hl' : s.heap.IsList l' vs' := ⟨_, k1, k2, _, k3⟩
      have n1 : vs.size = xs.length := by simpa using readsAll_len h4
      have n2 : vs'.size = ys.length := by simpa using readsAll_len k4
      by_cases hsz : vs.size = vs'.size
      · rw [← eqvAll_same_length (by omega : xs.length = ys.length), ← n1]
        refine RcNeAt.lists hl hl' hsz (by omega) fun j j1 j2 => ?_
        have := eqAt_nodAll xs ys A.in1 s vs.toList vs'.toList _ _ h4 k4 ha hb (by show A.units + 1 + min _ _ < cLine; omega) j (by simpa using j1) (by simpa using j2)
        simpa using this
      · rw [eqvAll_other_length (by omega : xs.length ≠ ys.length)]
        exact RcNeAt.lists_lengths hl hl' (by simpa using hsz) (by omega)
theorem ACmp_neL (hU : Un C) {xs ys : List PyData} (hd : PyData.depthAll xs ≤ 64) (h : Q (pbool (!PyData.eqvAll xs ys)) st) : ACmp C .NotEq (plist xs) (plist ys) st Q := fun a b s ρ I ⟨as, ra, _, ha⟩ ⟨bs, rb, _, hb⟩ =>
  rcne_list ra rb ha hb hU hd _ _ _ _ (Post.here I repB h)

open Classical in
noncomputable def eqTo (h : Heap) (y : PyData) (z : Value) : Bool := decide (∃ d cs, Reads h z d cs ∧ nod d = true ∧ PyData.eqv d y = true)
open Classical in
theorem eqTo_of {h : Heap} {y d : PyData} {z : Value} {cs : List Addr} (r : Reads h z d cs) (hd : nod d = true) : eqTo h y z = PyData.eqv d y := by
  unfold eqTo
  by_cases e : PyData.eqv d y = true
  · rw [e]; exact decide_eq_true ⟨d, cs, r, hd, e⟩
  · rw [Bool.not_eq_true] at e
    rw [e]
    refine decide_eq_false ?_
    rintro ⟨d', cs', h1, h2, h3⟩
    rw [nod_unique d d' z _ _ hd r h1, h3] at e; cases e
theorem any_eqTo {h : Heap} {y : PyData} : ∀ {vs : List Value} {xs : List PyData} {as : List Addr}, ReadsAll h vs xs as → nodAll xs = true → vs.any (eqTo h y) = xs.any (fun x => PyData.eqv x y)
  | _, _, _, .nil, _ => rfl
  | _, _, _, .cons h1 h2, hd => by
    have hd' := Bool.and_eq_true_iff.mp hd
    rw [List.any_cons, List.any_cons, eqTo_of h1 hd'.1, any_eqTo h2 hd'.2]
theorem eqTo_at {s : Shared} {A : Around} (hu : A.units + 66 < cLine) {v : Value} {y : PyData} {bs : List Addr} (rv : Reads s.heap v y bs) (hy : nod y = true) (hd : y.depth ≤ 64) : ∀ {vs : List Value} {xs : List PyData} {as : List Addr}, ReadsAll s.heap vs xs as → nodAll xs = true → ∀ z, z ∈ vs → EqAt A.in1 s z v (eqTo s.heap y z)
  | _, _, _, .nil, _, z, hz => nomatch hz
  | _, _, _, .cons h1 h2, hn, z, hz => by
    have hd' := Bool.and_eq_true_iff.mp hn
    rcases List.mem_cons.mp hz with rfl | hz
    · rw [eqTo_of h1 hd'.1]
      exact eqAt_nod _ _ _ _ _ _ _ _ h1 rv hd'.1 hy (by show A.units + 1 + min _ _ < cLine; omega)
    · exact eqTo_at hu rv hy hd h2 hd'.2 z hz

theorem ACmp_inL (hU : Un C) {xs : List PyData} {y : PyData} (hd : y.depth ≤ 64) (h : Q (pbool (xs.any fun x => PyData.eqv x y)) st) : ACmp C .In (.dat y) (plist xs) st Q := fun a b s ρ I ⟨as, ra, _, ha⟩ ⟨bs, rb, _, hb⟩ => by
  cases rb with
  | @list l o vs n _ as₁ h1 h2 h3 h4 =>
    refine in_listAt (eqTo s.heap y) ⟨_, h1, h2, _, h3⟩ (fun z hz => eqTo_at hU ra ha hd h4 hb z (by simpa using hz)) ?_
    have := any_eqTo (y := y) h4 hb
    rw [← Array.any_toList, this]
    exact Post.here I repB h
theorem ACmp_notinL (hU : Un C) {xs : List PyData} {y : PyData} (hd : y.depth ≤ 64) (h : Q (pbool (!xs.any fun x => PyData.eqv x y)) st) : ACmp C .NotIn (.dat y) (plist xs) st Q := fun a b s ρ I ⟨as, ra, _, ha⟩ ⟨bs, rb, _, hb⟩ => by
  cases rb with
  | @list l o vs n _ as₁ h1 h2 h3 h4 =>
    refine notIn_listAt (eqTo s.heap y) ⟨_, h1, h2, _, h3⟩ (fun z hz => eqTo_at hU ra ha hd h4 hb z (by simpa using hz)) ?_
    have := any_eqTo (y := y) h4 hb
    rw [← Array.any_toList, this]
    exact Post.here I repB h
theorem ACmp_inT (hU : Un C) {xs : List PyData} {y : PyData} (hd : y.depth ≤ 64) (h : Q (pbool (xs.any fun x => PyData.eqv x y)) st) : ACmp C .In (.dat y) (ptup xs) st Q := fun a b s ρ I ⟨as, ra, _, ha⟩ ⟨bs, rb, _, hb⟩ => by
  cases rb with
  | @tuple l o vs n _ as₁ h1 h2 h3 h4 =>
    refine in_tupleAt (eqTo s.heap y) ⟨_, h1, h2, _, h3⟩ (fun z hz => eqTo_at hU ra ha hd h4 hb z (by simpa using hz)) ?_
    have := any_eqTo (y := y) h4 hb
    rw [← Array.any_toList, this]
    exact Post.here I repB h
theorem ACmp_notinT (hU : Un C) {xs : List PyData} {y : PyData} (hd : y.depth ≤ 64) (h : Q (pbool (!xs.any fun x => PyData.eqv x y)) st) : ACmp C .NotIn (.dat y) (ptup xs) st Q := fun a b s ρ I ⟨as, ra, _, ha⟩ ⟨bs, rb, _, hb⟩ => by
  cases rb with
  | @tuple l o vs n _ as₁ h1 h2 h3 h4 =>
    refine notIn_tupleAt (eqTo s.heap y) ⟨_, h1, h2, _, h3⟩ (fun z hz => eqTo_at hU ra ha hd h4 hb z (by simpa using hz)) ?_
    have := any_eqTo (y := y) h4 hb
    rw [← Array.any_toList, this]
    exact Post.here I repB h
end

/-! equality on one kind -/
theorem eqvAll_str : ∀ xs ys : List Str, PyData.eqvAll (xs.map .str) (ys.map .str) = decide (xs = ys)
  | [], [] => by simp [PyData.eqvAll]
  | [], _ :: _ => by simp [PyData.eqvAll]
  | _ :: _, [] => by simp [PyData.eqvAll]
  | a :: r, b :: t => by
    simp only [List.map_cons, PyData.eqvAll, PyData.eqv, eqvAll_str r t]
    by_cases h : a = b <;> by_cases h' : r = t <;> simp [h, h']
theorem eqvAll_int : ∀ xs ys : List Int, PyData.eqvAll (xs.map .int) (ys.map .int) = decide (xs = ys)
  | [], [] => by simp [PyData.eqvAll]
  | [], _ :: _ => by simp [PyData.eqvAll]
  | _ :: _, [] => by simp [PyData.eqvAll]
  | a :: r, b :: t => by
    simp only [List.map_cons, PyData.eqvAll, PyData.eqv, eqvAll_int r t]
    by_cases h : a = b <;> by_cases h' : r = t <;> simp [h, h']
theorem eqvAll_nil (xs : List PyData) : PyData.eqvAll xs [] = xs.isEmpty := by cases xs <;> rfl
theorem depthAll_leaf {α : Type} (f : α → PyData) (hf : ∀ a, (f a).depth ≤ 1) : ∀ xs : List α, PyData.depthAll (xs.map f) ≤ 1
  | [] => by simp [PyData.depthAll]
  | a :: r => by
    rw [List.map_cons, PyData.depthAll]
    have := depthAll_leaf f hf r
    have := hf a
    omega
theorem depth_str (x : Str) : (PyData.str x).depth ≤ 1 := by simp [PyData.depth]
theorem depth_int (x : Int) : (PyData.int x).depth ≤ 1 := by simp [PyData.depth]
end Mine

end
section
open PySem PySem.W PyProof.Rows PySem.Calls PySem.SeqAt
namespace Mine
set_option linter.all false

/-! slices -/
def slc {α : Type} (lo hi : Option Int) (xs : List α) : List α :=
  (xs.drop (lo.elim 0 (clipAt xs.length))).take (hi.elim xs.length (clipAt xs.length) - lo.elim 0 (clipAt xs.length))

theorem strSliceIndices_clip (lo hi : Option Int) (n : Nat) : Builtin.Str.strSliceIndices lo hi 1 n = (List.range (hi.elim n (clipAt n) - lo.elim 0 (clipAt n))).map (lo.elim 0 (clipAt n) + ·) := by
  rw [← sliceRange_one]
  cases lo <;> cases hi <;> simp [Builtin.Str.strSliceIndices, clipAt_cast]
theorem slice_eq (x : Str) (lo hi : Option Int) : Txt.slice x lo hi = ⟨(slc lo hi x.cps.toList).toArray⟩ := by
  have e : (Builtin.Str.strSliceIndices lo hi 1 x.length).filterMap (x.cps[·]?) = slc lo hi x.cps.toList := by
    rw [strSliceIndices_clip, pick_run]
    unfold slc
    rw [show x.cps.toList.length = x.length by simp [Str.length]]
  unfold Txt.slice
  split
  · rename_i h
    simp only [beq_self_eq_true, Bool.true_and, beq_iff_eq] at h
    rw [← e]
    have h1 : (Builtin.Str.strSliceIndices lo hi 1 x.length) = List.range x.length := by
      rw [strSliceIndices_clip] at h ⊢
      simp only [List.length_map, List.length_range] at h
      have hle : hi.elim x.length (clipAt x.length) ≤ x.length := by
        cases hi with
        | none => exact Nat.le_refl _
        | some i => show clipAt x.length i ≤ x.length; unfold clipAt; omega
      generalize lo.elim 0 (clipAt x.length) = a at h ⊢
      generalize hi.elim x.length (clipAt x.length) = b at h hle ⊢
      by_cases hx : x.length = 0
      · rw [h, hx]; rfl
      · have ha : a = 0 := by omega
        subst ha
        rw [h]; simp
    rw [h1]
    have h2 := pick_run x.cps 0 x.length
    simp only [Nat.zero_add, List.map_id', List.drop_zero] at h2
    rw [h2, List.take_of_length_le (by simp [Str.length])]
  · rw [e]

section
variable {C : Ctx} {st : St} {Q : PV → St → Prop}

def AOpt (C : Ctx) : Option Expr → St → (Option Int → St → Prop) → Prop
  | none, st, Q => Q none st
  | some e, st, Q => AE C e st fun d st' => ∃ i, d = pint i ∧ Q (some i) st'

def ASl (C : Ctx) (d : PV) (lo hi : Option Int) (st : St) (Q : PV → St → Prop) : Prop :=
  ∀ v vl vu s ρ, Inv C st ρ s → Rep s.heap ρ (Mut C st.σ ρ) v d → IsPart vl lo → IsPart vu hi → ∀ sl, s.heap.IsSliceOf sl vl vu .none → ∃ T id, s.TypeIs v T ∧ typeLookup (.type T) "__getitem__" = pure (some (.builtin id)) ∧ wpAny (model C.prog C.w) C.A (getItem v (.ref sl)) (Post Rep C st ρ s Q) NoE s

theorem AOpt_use (hC : Ok C) {oe : Option Expr} {Q : Option Int → St → Prop} {s : Shared} {ρ : List Addr} (h : AOpt C oe st Q) (I : Inv C st ρ s) {P : Value → Shared → Prop}
    (k : ∀ v s' lo st' ρ', Inv C st' ρ' s' → Le C st ρ s st' ρ' s' → IsPart v lo → Q lo st' → P v s') : wpAny (model C.prog C.w) C.A (evalPart oe C.env) P NoE s := by
  cases oe with
  | none => exact wpAny_evalPart_none (k _ _ none st ρ I .refl .none h)
  | some e =>
    refine wpAny_evalPart_some (AG.use h I fun v s' d st' ρ' I' L' r' ⟨i, e, h'⟩ => ?_)
    subst e
    obtain ⟨t, rfl⟩ := rep_int r'
    exact k _ _ (some i) st' ρ' I' L' (.int i t) h'

theorem AE_Slice (hC : Ok C) {e : Expr} {lo hi : Option Expr} {p pos : Pos} (h : AE C e st fun d st₁ => AOpt C lo st₁ fun l st₂ => AOpt C hi st₂ fun u st₃ => ASl C d l u st₃ Q) : AE C (.Subscript e (.Slice lo hi none p) pos) st Q := fun s ρ I => by
  refine Subscript_ (h.use I fun v s₁ d st₁ ρ₁ I₁ L₁ r₁ h₁ => wpAny_Slice (AOpt_use hC h₁ I₁ fun vl s₂ l st₂ ρ₂ I₂ L₂ pl h₂ => AOpt_use hC h₂ I₂ fun vu s₃ u st₃ ρ₃ I₃ L₃ pu h₃ => wpAny_evalPart_none ?_))
  have J := I₃.push hC { cls := .type "slice", data := .fields #[vl, vu, .none] }
  have L := (L₂.trans L₃).trans J.2
  obtain ⟨T, id, hT, hl, hg⟩ := h₃ v vl vu _ ρ₃ J.1 (r₁.grow (I₁.grow hC L)) pl pu _ (Heap.IsSliceOf.new ..)
  exact tail_any hT hl (wpAny_mono hg (fun _ _ p => (p.le L).le L₁) fun _ _ x => x) (by intros; rfl)

theorem repAll_drop {h : Heap} {ρ : List Addr} {O : Addr → Prop} : ∀ {vs : List Value} {ds : List PV} (i : Nat), RepAll h ρ O vs ds → RepAll h ρ O (vs.drop i) (ds.drop i)
  | [], [], i, _ => by simp; trivial
  | _ :: _, _ :: _, 0, r => r
  | _ :: _, _ :: _, i + 1, ⟨a, b⟩ => repAll_drop i b
  | [], _ :: _, _, h => h.elim
  | _ :: _, [], _, h => h.elim
theorem slc_map {α β : Type} (f : α → β) (lo hi : Option Int) (xs : List α) : slc lo hi (xs.map f) = (slc lo hi xs).map f := by
  unfold slc; simp [List.map_drop, List.map_take]
theorem repAll_slc {h : Heap} {ρ : List Addr} {O : Addr → Prop} {vs : List Value} {ds : List PV} (lo hi : Option Int) (r : RepAll h ρ O vs ds) : RepAll h ρ O (slc lo hi vs) (slc lo hi ds) := by
  unfold slc
  rw [repAll_len r]
  exact repAll_take _ (repAll_drop _ r)
theorem slicePick_slc (vs : List Value) (lo hi : Option Int) : slicePick vs.toArray lo hi none = (slc lo hi vs).toArray := by rw [slicePick_plain]; unfold slc; simp

theorem ASl_at (hC : Ok C) {lo hi : Option Int} {vl vu : Value} {xs : List PyData} {a sl : Addr} {vs : List Value} {s : Shared} {ρ : List Addr} (I : Inv C st ρ s) (hl : s.heap.IsList a vs.toArray) (hr : RepAll s.heap ρ (Mut C st.σ ρ) vs (xs.map .dat)) (hsz : xs.length ≤ sizeLine)
    (hsl : s.heap.IsSliceOf sl vl vu .none) (pl : IsPart vl lo) (pu : IsPart vu hi) (h : Q (plist (slc lo hi xs)) st) : wpAny (model C.prog C.w) C.A (getItem (.ref a) (.ref sl)) (Post Rep C st ρ s Q) NoE s := by
  refine wpAny_getItem_list_slice hl hsl pl pu .none (by simp) ?_ (by have := repAll_len hr; simp at this ⊢; omega)
  rw [slicePick_slc]
  exact Post.list hC I (by rw [← slc_map]; exact repAll_slc lo hi hr) h
theorem ASl_list (hC : Ok C) {lo hi : Option Int} {xs : List PyData} (hsz : xs.length ≤ sizeLine) (h : Q (plist (slc lo hi xs)) st) : ASl C (plist xs) lo hi st Q := fun v vl vu s ρ I r pl pu sl hsl => by
  obtain ⟨a, vs, rfl, hl, hr⟩ := rep_list r
  exact ⟨"list", _, hl.typeIs, slot_list_getitem.lookup, ASl_at hC I hl hr hsz hsl pl pu h⟩
theorem ASl_own (hC : Ok C) {lo hi : Option Int} {i : Nat} {xs : List PyData} (hi' : st.σ[i]? = some (some (xs.map .dat))) (hsz : xs.length ≤ sizeLine) (h : Q (plist (slc lo hi xs)) st) : ASl C (.own i) lo hi st Q := fun v vl vu s ρ I r pl pu sl hsl => by
  obtain ⟨a, vs, rfl, _, hl, hr⟩ := rep_own I hi' r
  exact ⟨"list", _, hl.isList.typeIs, slot_list_getitem.lookup, ASl_at hC I hl.isList hr hsz hsl pl pu h⟩
theorem ASl_str (hC : Ok C) {lo hi : Option Int} {x : Str} (hsz : x.length ≤ sizeLine) (h : Q (pstr (Txt.slice x lo hi)) st) : ASl C (pstr x) lo hi st Q := fun v vl vu s ρ I r pl pu sl hsl => by
  obtain ⟨t, rfl⟩ := rep_str r
  refine ⟨"str", _, typeIs_str _ _ _, F.slot_str_getitem.lookup, ?_⟩
  have key : ∀ (l u : Option (Int × Tok)), vl = partValue l → vu = partValue u → lo = l.map (·.1) → hi = u.map (·.1) → wpAny (model C.prog C.w) C.A (getItem (.str x t) (.ref sl)) (Post Rep C st ρ s Q) NoE s := by
    rintro l u rfl rfl rfl rfl
    refine grown (wpAny_getItem_str_slice (l := l) (u := u) (st := none) hsl rfl ?_)
    exact post_val_or_str ⟨Nat.le_trans (Txt.slice_le x _ _) hsz, fun t' k hk => Post.at hC I hk repS h⟩
  cases pl with
  | none => cases pu with
    | none => exact key none none rfl rfl rfl rfl
    | int j u => exact key none (some (j, u)) rfl rfl rfl rfl
  | int i t' => cases pu with
    | none => exact key (some (i, t')) none rfl rfl rfl rfl
    | int j u => exact key (some (i, t')) (some (j, u)) rfl rfl rfl rfl

/-! lists -/
theorem ABin_addL (hC : Ok C) {xs ys : List PyData} (hsz : xs.length + ys.length ≤ sizeLine) (h : Q (plist (xs ++ ys)) st) : ABin C .Add (plist xs) (plist ys) st Q := fun a b s ρ I ra rb => by
  obtain ⟨a, vs, rfl, hl, hr⟩ := rep_list ra
  obtain ⟨b, ws, rfl, hl', hr'⟩ := rep_list rb
  obtain ⟨⟨cls, dd, data, sl⟩, ho, hc, n, hd⟩ := id hl
  obtain ⟨⟨cls2, dd2, data2, sl2⟩, ho2, hc2, n2, hd2⟩ := id hl'
  simp only at hc hd hc2 hd2
  subst hc hd hc2 hd2
  have l1 := repAll_len hr
  have l2 := repAll_len hr'
  have e : vs.toArray ++ ws.toArray = (vs ++ ws).toArray := by simp
  refine concat_meets ⟨_, ho, rfl⟩ ⟨_, ho2, rfl⟩ noFill_list_add seq_list_add PySem.F.slot_list_add PySem.F.entry_list_add (PySem.F.args_list_add_2 _ _) (list_addW a b vs.toArray ws.toArray n n2 dd dd2 sl sl2 (by simp at l1 l2 ⊢; omega)) ⟨ho, ho2, ?_⟩
  rw [e]
  exact Post.list hC I (by rw [List.map_append]; exact repAll_append hr hr') h
/-- a list sum that the frame will write -/
theorem ABin_addOwn (hC : Ok C) {xs ys : List PyData} (hsz : xs.length + ys.length ≤ sizeLine) (h : Q (.own st.σ.length) (st.new ((xs ++ ys).map .dat))) : ABin C .Add (plist xs) (plist ys) st Q := fun a b s ρ I ra rb => by
  obtain ⟨a, vs, rfl, hl, hr⟩ := rep_list ra
  obtain ⟨b, ws, rfl, hl', hr'⟩ := rep_list rb
  obtain ⟨⟨cls, dd, data, sl⟩, ho, hc, n, hd⟩ := id hl
  obtain ⟨⟨cls2, dd2, data2, sl2⟩, ho2, hc2, n2, hd2⟩ := id hl'
  simp only at hc hd hc2 hd2
  subst hc hd hc2 hd2
  have l1 := repAll_len hr
  have l2 := repAll_len hr'
  have e : vs.toArray ++ ws.toArray = (vs ++ ws).toArray := by simp
  refine concat_meets ⟨_, ho, rfl⟩ ⟨_, ho2, rfl⟩ noFill_list_add seq_list_add PySem.F.slot_list_add PySem.F.entry_list_add (PySem.F.args_list_add_2 _ _) (list_addW a b vs.toArray ws.toArray n n2 dd dd2 sl sl2 (by simp at l1 l2 ⊢; omega)) ⟨ho, ho2, ?_⟩
  rw [e]
  exact Post.own hC I (by rw [List.map_append]; exact repAll_append hr hr') h

theorem ATru_list {Q : Bool → St → Prop} (hC : Ok C) {xs : List PyData} (hsz : xs.length ≤ sizeLine) (h : Q (!xs.isEmpty) st) : ATru C (plist xs) st Q := fun a s ρ I ra => by
  obtain ⟨a, vs, rfl, hl, hr⟩ := rep_list ra
  have l1 := repAll_len hr
  rw [sizeLine_eq] at hsz
  refine wpAny_truthy_list hl (by simp at l1 ⊢; omega) ⟨_, st, ρ, (I.toks hC (Nat.le_add_right _ 2)).1, (I.toks hC (Nat.le_add_right _ 2)).2, ?_, h⟩
  show (!vs.toArray.isEmpty) = !xs.isEmpty
  cases vs <;> cases xs <;> simp at l1 ⊢
theorem ATru_own {Q : Bool → St → Prop} (hC : Ok C) {i : Nat} {l : List PV} (hi : st.σ[i]? = some (some l)) (hsz : l.length ≤ sizeLine) (h : Q (!l.isEmpty) st) : ATru C (.own i) st Q := fun a s ρ I ra => by
  obtain ⟨a, vs, rfl, _, hl, hr⟩ := rep_own I hi ra
  have l1 := repAll_len hr
  rw [sizeLine_eq] at hsz
  refine wpAny_truthy_list hl.isList (by simp at l1 ⊢; omega) ⟨_, st, ρ, (I.toks hC (Nat.le_add_right _ 2)).1, (I.toks hC (Nat.le_add_right _ 2)).2, ?_, h⟩
  show (!vs.toArray.isEmpty) = !l.isEmpty
  cases vs <;> cases l <;> simp at l1 ⊢

theorem rep1 {h : Heap} {ρ : List Addr} {O : Addr → Prop} {vs : List Value} {d : PV} (r : RepAll h ρ O vs [d]) : ∃ v, vs = [v] ∧ Rep h ρ O v d := by
  match vs, r with
  | [v], ⟨a, _⟩ => exact ⟨v, rfl, a⟩
  | [], r => exact r.elim
  | _ :: _ :: _, ⟨_, b⟩ => exact b.elim
theorem rep2 {h : Heap} {ρ : List Addr} {O : Addr → Prop} {vs : List Value} {d e : PV} (r : RepAll h ρ O vs [d, e]) : ∃ v u, vs = [v, u] ∧ Rep h ρ O v d ∧ Rep h ρ O u e := by
  match vs, r with
  | v :: vs, ⟨a, b⟩ => obtain ⟨u, rfl, c⟩ := rep1 b; exact ⟨v, u, rfl, a, c⟩
  | [], r => exact r.elim
theorem rep3 {h : Heap} {ρ : List Addr} {O : Addr → Prop} {vs : List Value} {d e f : PV} (r : RepAll h ρ O vs [d, e, f]) : ∃ v u w, vs = [v, u, w] ∧ Rep h ρ O v d ∧ Rep h ρ O u e ∧ Rep h ρ O w f := by
  match vs, r with
  | v :: vs, ⟨a, b⟩ => obtain ⟨u, w, rfl, c, d⟩ := rep2 b; exact ⟨v, u, w, rfl, a, c, d⟩
  | [], r => exact r.elim

theorem ACall_lenL (hC : Ok C) {xs : List PyData} (hsz : xs.length ≤ sizeLine) (h : Q (pint xs.length) st) : ACallB C "len" [plist xs] st Q := fun vs s ρ I rr => by
  obtain ⟨v, rfl, r⟩ := rep1 rr
  obtain ⟨a, vs, rfl, hl, hr⟩ := rep_list r
  have l1 := repAll_len hr
  rw [sizeLine_eq] at hsz
  refine len_list hl (by simp at l1 ⊢; omega) ?_
  have e : vs.toArray.size = xs.length := by simpa using l1
  rw [e]
  exact Post.at hC I (Nat.le_add_right _ 2) repI h
theorem ACall_lenO (hC : Ok C) {i : Nat} {l : List PV} (hi : st.σ[i]? = some (some l)) (hsz : l.length ≤ sizeLine) (h : Q (pint l.length) st) : ACallB C "len" [.own i] st Q := fun vs s ρ I rr => by
  obtain ⟨v, rfl, r⟩ := rep1 rr
  obtain ⟨a, vs, rfl, _, hl, hr⟩ := rep_own I hi r
  have l1 := repAll_len hr
  rw [sizeLine_eq] at hsz
  refine len_list hl.isList (by simp at l1 ⊢; omega) ?_
  have e : vs.toArray.size = l.length := by simpa using l1
  rw [e]
  exact Post.at hC I (Nat.le_add_right _ 2) repI h
theorem ACall_lenS (hC : Ok C) {x : Str} (hsz : x.length ≤ sizeLine) (h : Q (pint x.length) st) : ACallB C "len" [pstr x] st Q := fun vs s ρ I rr => by
  obtain ⟨v, rfl, r⟩ := rep1 rr
  obtain ⟨t, rfl⟩ := rep_str r
  rw [sizeLine_eq] at hsz
  exact SBL.len (by omega) (Post.at hC I (Nat.le_add_right _ 2) repI h)

theorem AGm_own {i : Nat} {l : List PV} {name : Str} {id : String} (hi : st.σ[i]? = some (some l)) (slot : Slot "list" name id) (hty : typeOf (.builtin id) = pure (.type "method_descriptor")) : AGm C (.own i) name id st := fun v s ρ I r pl Q hQ => by
  obtain ⟨a, vs, rfl, _, ⟨n, hl⟩, hr⟩ := rep_own I hi r
  exact getMethod_builtin ⟨_, hl, rfl⟩ PySem.F.plainAttrs_list slot hty (fun a e => by cases e; exact ⟨_, hl, rfl⟩) hQ
theorem AGm_append {i : Nat} {l : List PV} (hi : st.σ[i]? = some (some l)) : AGm C (.own i) "append" "list.append" st := AGm_own hi slot_list_append type_list_append

theorem ACall_append (hC : Ok C) {i : Nat} {l : List PV} {d : PV} (hi : st.σ[i]? = some (some l)) (hsz : l.length ≤ sizeLine) (h : Q pnone (st.upd i (l ++ [d]))) : ACallB C "list.append" [.own i, d] st Q := fun vs s ρ I rr => by
  obtain ⟨v, u, rfl, r, ru⟩ := rep2 rr
  obtain ⟨a, vs, rfl, ha, hl, hr⟩ := rep_own I hi r
  have l1 := repAll_len hr
  refine wpAny_list_append_plain hl (fun h' hl' hs' => ?_) (by simp at l1 ⊢; omega)
  have e3 : vs.toArray.push u = (vs ++ [u]).toArray := by simp
  rw [e3] at hl'
  have J := I.upd hC (l' := l ++ [d]) (tk := s.toks) hi ha hl' hs' (repAll_append hr ⟨ru, trivial⟩) (Nat.le_refl _)
  exact ⟨pnone, _, ρ, J.1, J.2, repN, h⟩
end
end Mine

end
section
open PySem PySem.Sre
namespace Mine
set_option linter.all false

/-! the pattern machine: running on -/
theorem runFor_zero (m : M) : M.runFor 0 m = m := rfl
theorem runFor_done {m : M} (h : m.outcome.isSome = true) : ∀ n, M.runFor n m = m
  | 0 => rfl
  | n + 1 => by rw [M.runFor, if_pos h]
theorem runFor_succ {m : M} (n : Nat) : M.runFor (n + 1) m = M.runFor n m.step := by
  rw [M.runFor]
  by_cases h : m.outcome.isSome = true
  · rw [if_pos h]
    have e : m.step = m := by unfold M.step; rw [if_pos h]
    rw [e, runFor_done h]
  · rw [if_neg h]
theorem runFor_add (m : M) : ∀ a b, M.runFor (a + b) m = M.runFor b (M.runFor a m) := by
  intro a
  induction a generalizing m with
  | zero => intro b; rw [Nat.zero_add, runFor_zero]
  | succ a ih => intro b; rw [show a + 1 + b = (a + b) + 1 by omega, runFor_succ, runFor_succ, ih]

/-- from m to m' in at most n steps -/
def Goes (n : Nat) (m m' : M) : Prop := ∃ k, k ≤ n ∧ M.runFor k m = m'
theorem Goes.refl {m : M} : Goes 0 m m := ⟨0, Nat.le_refl _, rfl⟩
theorem Goes.step {m m' : M} (h : m.step = m') : Goes 1 m m' := ⟨1, Nat.le_refl _, by rw [runFor_succ, runFor_zero, h]⟩
theorem Goes.trans {a b : Nat} {m m' m'' : M} (x : Goes a m m') (y : Goes b m' m'') : Goes (a + b) m m'' := by
  obtain ⟨k, hk, e⟩ := x; obtain ⟨l, hl, e'⟩ := y
  exact ⟨k + l, by omega, by rw [runFor_add, e, e']⟩
theorem Goes.mono {a b : Nat} {m m' : M} (x : Goes a m m') (h : a ≤ b) : Goes b m m' := let ⟨k, hk, e⟩ := x; ⟨k, Nat.le_trans hk h, e⟩

section
variable {Md : Model} {A : Around} {E : Value → Shared → Prop} {s : Shared}
theorem reDrive_wp : ∀ (k turns : Nat) (m : M) {Q : M → Shared → Prop}, k < turns → (M.runFor (4 * k + 4) m).outcome.isSome = true → (Q (M.runFor (4 * k + 4) m) s) → wpAny Md A (Builtin.Re.reDrive turns m) Q E s
  | k, 0, m, Q, h, _, _ => absurd h (Nat.not_lt_zero _)
  | 0, t + 1, m, Q, _, h1, h2 => by
    rw [Builtin.Re.reDrive]
    have h1' : (M.runFor Builtin.Re.reTurnSteps m).outcome.isSome = true := h1
    rw [if_pos h1']
    exact wpAny_pure h2
  | k + 1, t + 1, m, Q, h, h1, h2 => by
    rw [Builtin.Re.reDrive]
    have e : M.runFor (4 * (k + 1) + 4) m = M.runFor (4 * k + 4) (M.runFor 4 m) := by rw [← runFor_add]; congr 1; omega
    by_cases hd : (M.runFor Builtin.Re.reTurnSteps m).outcome.isSome = true
    · rw [if_pos hd]
      rw [e, runFor_done (m := M.runFor 4 m) hd] at h2
      exact wpAny_pure h2
    · rw [if_neg hd]
      rw [e] at h1 h2
      exact wpAny_bind (wpAny_rule (reDrive_wp k t _ (by omega) h1 h2))

theorem rules_wp (m : M) {Q : PUnit → Shared → Prop} (h : Q ⟨⟩ s) : ∀ l : List Nat, wpAny Md A (forIn l PUnit.unit fun i _ => (if m.seen.has i = true then do rule (Sre.names.getD i ""); pure (ForInStep.yield PUnit.unit) else pure (ForInStep.yield PUnit.unit) : Sem (ForInStep PUnit))) Q E s := by
  intro l
  induction l with
  | nil => exact wpAny_pure h
  | cons i r ih =>
    rw [List.forIn_cons]
    refine wpAny_bind ?_
    by_cases hi : m.seen.has i = true
    · rw [if_pos hi]; exact wpAny_bind (wpAny_rule (wpAny_pure ih))
    · rw [if_neg hi]; exact wpAny_pure ih

theorem reRunToEnd_wp {m m' : M} {n : Nat} (hg : Goes n m m') (hn : n < 2 ^ 62) {b : Bool} (ho : m'.outcome = some (if b then .matched else .failed)) {Q : Option M → Shared → Prop} (h : Q (if b then some m' else none) s) : wpAny Md A (Builtin.Re.reRunToEnd m) Q E s := by
  obtain ⟨k, hk, e⟩ := hg
  have hdone : m'.outcome.isSome = true := by rw [ho]; rfl
  have hrun : M.runFor (4 * (k / 4) + 4) m = m' := by
    have : 4 * (k / 4) + 4 = k + (4 * (k / 4) + 4 - k) := by omega
    rw [this, runFor_add, e, runFor_done hdone]
  unfold Builtin.Re.reRunToEnd
  refine wpAny_bind (reDrive_wp (k / 4) (2 ^ 64) m (by omega) (by rw [hrun]; exact hdone) ?_)
  rw [hrun]
  refine wpAny_bind (wpAny_mono (rules_wp m' (Q := fun _ s' => s' = s) rfl (List.range Sre.names.size)) (fun _ s' e => ?_) fun _ _ x => x)
  subst e
  rw [ho]
  cases b with
  | true => exact wpAny_pure h
  | false => exact wpAny_pure h
end
end Mine

end
section
open PySem PySem.Sre
namespace Mine
set_option linter.all false

/-! one step of the pattern machine, word by word -/
section
variable {m : M}
/-- it runs -/
structure Live (m : M) : Prop where
  o : m.outcome = none
  a : m.answer = none
  p : m.pc < m.code.size

theorem step_exec (h : Live m) : m.step = m.exec := by
  unfold M.step
  rw [h.o, h.a]
  simp only [Option.isSome_none, Bool.false_eq_true, if_false]
  rw [if_pos h.p]

theorem step_LIT (h : Live m) (h0 : m.code.getD m.pc 0 = 16) : m.step = if m.pos < m.lim ∧ m.text.getD m.pos 0 = m.code.getD (m.pc + 1) 0 then { m with seen := m.seen.add 16, pc := m.pc + 2, pos := m.pos + 1 } else { m with seen := m.seen.add 16, answer := some false } := by
  rw [step_exec h]
  unfold M.exec
  have e0 : m.word 0 = 16 := h0
  have eop : ops[m.word 0]? = some .LITERAL := by rw [e0]; rfl
  rw [eop, e0]
  simp only [accepts, h0, show ops[16]? = some Op.LITERAL from rfl, itemWidth]
  by_cases hp : m.pos < m.lim
  · rw [if_neg (by omega)]
    by_cases hc : m.text.getD m.pos 0 = m.code.getD (m.pc + 1) 0
    · have hb : (m.text.getD m.pos 0 == m.code.getD (m.pc + 1) 0) = true := by simpa using hc
      rw [hb, if_pos ⟨hp, hc⟩]
    · have hb : (m.text.getD m.pos 0 == m.code.getD (m.pc + 1) 0) = false := by simpa using hc
      rw [hb, if_neg (fun q => hc q.2)]; rfl
  · rw [if_pos (by omega), if_neg (fun q => hp q.1)]; rfl

theorem step_ANY (h : Live m) (h0 : m.code.getD m.pc 0 = 2) : m.step = if m.pos < m.lim ∧ m.text.getD m.pos 0 ≠ 10 then { m with seen := m.seen.add 2, pc := m.pc + 1, pos := m.pos + 1 } else { m with seen := m.seen.add 2, answer := some false } := by
  rw [step_exec h]
  unfold M.exec
  have e0 : m.word 0 = 2 := h0
  have eop : ops[m.word 0]? = some .ANY := by rw [e0]; rfl
  rw [eop, e0]
  simp only [accepts, h0, show ops[2]? = some Op.ANY from rfl, itemWidth]
  by_cases hp : m.pos < m.lim
  · rw [if_neg (by omega)]
    by_cases hc : m.text.getD m.pos 0 = 10
    · have hb : (m.text.getD m.pos 0 != 10) = false := by simpa using hc
      rw [hb, if_neg (fun q => q.2 hc)]; rfl
    · have hb : (m.text.getD m.pos 0 != 10) = true := by simpa using hc
      rw [hb, if_pos ⟨hp, hc⟩]
  · rw [if_pos (by omega), if_neg (fun q => hp q.1)]; rfl

theorem step_AT (h : Live m) {b : Bool} (h0 : m.code.getD m.pc 0 = 6) (hb : m.isAt (m.code.getD (m.pc + 1) 0) = .ok b) :
    ∃ sn, m.step = if b then { m with seen := sn, pc := m.pc + 2 } else { m with seen := sn, answer := some false } := by
  rw [step_exec h]
  unfold M.exec
  have e0 : m.word 0 = 6 := h0
  have eop : ops[m.word 0]? = some .AT := by rw [e0]; rfl
  rw [eop, e0]
  have hb' : M.isAt { m with seen := m.seen.add 6 } (M.word { m with seen := m.seen.add 6 } 1) = .ok b := hb
  refine ⟨(m.seen.add 6).add (43 + m.code.getD (m.pc + 1) 0), ?_⟩
  dsimp only
  rw [hb']
  cases b <;> rfl

theorem step_SUCC (h : Live m) (h0 : m.code.getD m.pc 0 = 1) (hw : m.wholeText = false) (hm : m.mustAdvance = false) : m.step = { m with seen := m.seen.add 1, handed := m.pos, answer := some true } := by
  rw [step_exec h]
  unfold M.exec
  have e0 : m.word 0 = 1 := h0
  have eop : ops[m.word 0]? = some .SUCCESS := by rw [e0]; rfl
  rw [eop, e0]
  simp only [hw, hm, Bool.false_and, Bool.or_false, Bool.and_false, Bool.false_eq_true, if_false]
  rfl
theorem step_MARK (h : Live m) (h0 : m.code.getD m.pc 0 = 17) : m.step = { m with seen := m.seen.add 17 }.mark (m.code.getD (m.pc + 1) 0) := by
  rw [step_exec h]
  unfold M.exec
  have e0 : m.word 0 = 17 := h0
  have eop : ops[m.word 0]? = some .MARK := by rw [e0]; rfl
  rw [eop, e0]
  rfl

/-- signs in a row that a test takes -/
def runLen (f : Nat → Bool) (t : Array Nat) : Nat → Nat → Nat
  | 0, _ => 0
  | n + 1, p => if f (t.getD p 0) then runLen f t n (p + 1) + 1 else 0
theorem run_eq {code t : Array Nat} {i : Nat} {f : Nat → Bool} (hf : ∀ c sn, ∃ sn', accepts code i c sn = .ok (f c, sn')) : ∀ (n p k : Nat) (sn : Seen), ∃ sn', Sre.run code t i n p k sn = .ok (k + runLen f t n p, sn')
  | 0, p, k, sn => ⟨sn, rfl⟩
  | n + 1, p, k, sn => by
    rw [Sre.run, runLen]
    obtain ⟨sn1, e1⟩ := hf (t.getD p 0) sn
    rw [e1]
    cases h : f (t.getD p 0) with
    | false => exact ⟨sn1, by simp [bind, Except.bind, pure, Except.pure]⟩
    | true =>
      obtain ⟨sn2, e2⟩ := run_eq hf n (p + 1) (k + 1) sn1
      refine ⟨sn2, ?_⟩
      simp only [bind, Except.bind, if_true]
      rw [e2]
      congr 2
      omega
theorem runLen_le (f : Nat → Bool) (t : Array Nat) : ∀ n p, runLen f t n p ≤ n
  | 0, _ => Nat.le_refl _
  | n + 1, p => by rw [runLen]; split; (have := runLen_le f t n (p + 1); omega); omega

/-- a greedy run of one kind of sign -/
theorem step_REP1 (h : Live m) (h0 : m.code.getD m.pc 0 = 24) {least : Nat} (h2 : m.code.getD (m.pc + 2) 0 = least) (h3 : m.code.getD (m.pc + 3) 0 = 4294967295) (hpos : m.pos ≤ m.lim) (hlim : m.lim < 4294967295) {f : Nat → Bool}
    (hf : ∀ c sn, ∃ sn', accepts m.code (m.pc + 4) c sn = .ok (f c, sn')) (hw : m.weight + 1 + (m.keep m.inner.isSome).marks.size ≤ 16777216) {n : Nat} (hn : runLen f m.text (m.lim - m.pos) m.pos = n) : ∃ sn, m.step =
      if n < least then { m with seen := sn, answer := some false } else { m with seen := sn, frames := ({ wait := .giveBack, pc := m.pc, pos := m.pos + n, outermost := m.outermost, count := (n : Int), kept := m.keep m.inner.isSome } : Sre.Frame) :: m.frames, weight := m.weight + 1 + (m.keep m.inner.isSome).marks.size, pc := m.pc + 1 + m.code.getD (m.pc + 1) 0, pos := m.pos + n, handed := m.pos + n } := by
  subst hn
  rw [step_exec h]
  unfold M.exec
  have e0 : m.word 0 = 24 := h0
  have eop : ops[m.word 0]? = some .REPEAT_ONE := by rw [e0]; rfl
  rw [eop, e0]
  have e2 : M.word { m with seen := m.seen.add 24 } 2 = least := h2
  have e3 : M.word { m with seen := m.seen.add 24 } 3 = 4294967295 := h3
  dsimp only
  rw [e2, e3]
  have hroom : ((m.lim : Int) - (m.pos : Int)).toNat = m.lim - m.pos := by omega
  have hmin : min 4294967295 (m.lim - m.pos) = m.lim - m.pos := by omega
  obtain ⟨sn, er⟩ := run_eq (t := m.text) hf (m.lim - m.pos) m.pos 0 ((m.seen.add 24).add (m.code.getD (m.pc + 4) 0))
  rw [Nat.zero_add] at er
  have hle := runLen_le f m.text (m.lim - m.pos) m.pos
  by_cases hl : (least : Int) > (m.lim : Int) - m.pos
  · rw [if_pos hl]
    refine ⟨m.seen.add 24, ?_⟩
    rw [if_pos (by omega)]
    rfl
  · rw [if_neg hl, hroom]
    simp only [Bool.false_eq_true, if_false]
    rw [hmin]
    have er' : Sre.run m.code m.text (m.pc + 4) (m.lim - m.pos) m.pos 0 ((m.seen.add 24).add (M.word { m with seen := m.seen.add 24 } 4)) = .ok (runLen f m.text (m.lim - m.pos) m.pos, sn) := er
    rw [er']
    refine ⟨sn, ?_⟩
    dsimp only
    by_cases hn : runLen f m.text (m.lim - m.pos) m.pos < least
    · rw [if_pos hn, if_pos hn]; rfl
    · rw [if_neg hn, if_neg hn]
      show (if m.weight + 1 + (m.keep m.inner.isSome).marks.size > 16777216 then _ else _) = _
      rw [if_neg (by omega)]
      rfl

/-! answers -/
theorem step_ans {f : Sre.Frame} {fs : List Sre.Frame} {b : Bool} (ho : m.outcome = none) (ha : m.answer = some b) (hf : m.frames = f :: fs) :
    m.step = M.resume { m with answer := none, frames := fs, weight := m.weight - (1 + f.kept.marks.size), pc := f.pc, pos := f.pos, outermost := f.outermost } f b := by
  unfold M.step
  rw [ho, ha, hf]
  rfl
theorem step_end {b : Bool} (ho : m.outcome = none) (ha : m.answer = some b) (hf : m.frames = []) : m.step = { m with outcome := some (if b then .matched else .failed) } := by
  unfold M.step
  rw [ho, ha, hf]
  rfl
end
end Mine

end
section
open PySem PySem.Sre
namespace Mine
set_option linter.all false

/-! \.\d+$ -/
def ipCode : Array Nat := #[14, 8, 1, 2, 4294967295, 1, 1, 46, 0, 16, 46, 24, 9, 1, 4294967295, 13, 4, 8, 0, 0, 1, 6, 5, 1]

def ipM (t : Array Nat) (start pos handed pc : Nat) (om : Bool) (fr : List Sre.Frame) (wt : Nat) (ans : Option Bool) (sn : Seen) : M :=
  { code := ipCode, text := t, lim := t.size, start, lastStart := t.size, pc, pos, handed, outermost := om, marks := #[], frames := fr, weight := wt, answer := ans, seen := sn }

def atEnd (t : Array Nat) (p : Nat) : Bool := p == t.size || (p + 1 == t.size && t.getD p 0 == 10)
def anyEnd (t : Array Nat) (p k : Nat) : Bool := (List.range k).any fun j => atEnd t (p + j + 1)
def ipNS (s : Nat) (om : Bool) : Sre.Frame := { wait := .nextStart, pc := 9, pos := s, outermost := om }
def ipGB (p k : Nat) (om : Bool) : Sre.Frame := { wait := .giveBack, pc := 11, pos := p, outermost := om, count := (k : Int), kept := {} }

section
variable {t : Array Nat} {start : Nat} {om : Bool} {fr : List Sre.Frame}

theorem ip_accepts (c : Nat) (sn : Seen) : ∃ sn', accepts ipCode 15 c sn = .ok (isDigit c, sn') := by
  unfold accepts
  show ∃ sn', inSet ipCode c 24 17 true sn = .ok (isDigit c, sn')
  show ∃ sn', (do if ← category 0 c then pure (true, _) else inSet ipCode c 23 19 true _ : Except String (Bool × Seen)) = .ok (isDigit c, sn')
  have e : category 0 c = .ok (isDigit c) := by unfold category; simp [Except.map]
  rw [e]
  cases isDigit c with
  | true => exact ⟨_, rfl⟩
  | false => exact ⟨_, rfl⟩

theorem ip_give : ∀ (k p handed : Nat) (sn : Seen), 1 ≤ k → p + k ≤ t.size → ∃ pos' handed' pc' om' sn', Goes (4 * k) (ipM t start (p + k) handed 21 om (ipGB (p + k) k om :: fr) 2 none sn) (ipM t start pos' handed' pc' om' fr 1 (some (anyEnd t p k)) sn') := by
  intro k
  induction k with
  | zero => intro p handed sn h; omega
  | succ k ih =>
    intro p handed sn _ hp
    have hany : anyEnd t p (k + 1) = (anyEnd t p k || atEnd t (p + (k + 1))) := by
      unfold anyEnd; rw [List.range_succ, List.any_append]; simp [Nat.add_assoc]
    obtain ⟨sn1, e1⟩ := step_AT (m := ipM t start (p + (k + 1)) handed 21 om (ipGB (p + (k + 1)) (k + 1) om :: fr) 2 none sn) (b := atEnd t (p + (k + 1))) ⟨rfl, rfl, by show 21 < 24; decide⟩ rfl rfl
    cases he : atEnd t (p + (k + 1)) with
    | true =>
      rw [he] at e1
      rw [hany, he, Bool.or_true]
      have g1 := Goes.step e1
      have g2 := Goes.step (step_SUCC (m := ipM t start (p + (k + 1)) handed 23 om (ipGB (p + (k + 1)) (k + 1) om :: fr) 2 none sn1) ⟨rfl, rfl, by show 23 < 24; decide⟩ rfl rfl rfl)
      have g3 := Goes.step (step_ans (m := ipM t start (p + (k + 1)) (p + (k + 1)) 23 om (ipGB (p + (k + 1)) (k + 1) om :: fr) 2 (some true) (sn1.add 1)) rfl rfl rfl)
      exact ⟨_, _, _, _, _, ((g1.trans g2).trans g3).mono (by omega)⟩
    | false =>
      rw [he] at e1
      rw [hany, he, Bool.or_false]
      have g1 := Goes.step e1
      have g3 := step_ans (m := ipM t start (p + (k + 1)) handed 21 om (ipGB (p + (k + 1)) (k + 1) om :: fr) 2 (some false) sn1) rfl rfl rfl
      cases k with
      | zero => exact ⟨_, _, _, _, _, (g1.trans (Goes.step g3)).mono (by omega)⟩
      | succ j =>
        have e : M.resume { (ipM t start (p + (j + 1 + 1)) handed 21 om (ipGB (p + (j + 1 + 1)) (j + 1 + 1) om :: fr) 2 (some false) sn1) with answer := none, frames := fr, weight := 2 - (1 + 0), pc := 11, pos := p + (j + 1 + 1), outermost := om } (ipGB (p + (j + 1 + 1)) (j + 1 + 1) om) false
            = ipM t start (p + (j + 1)) (p + (j + 1)) 21 om (ipGB (p + (j + 1)) (j + 1) om :: fr) 2 none sn1 := by
          show (if ((j + 1 + 1 : Nat) : Int) - 1 < ((1 : Nat) : Int) then _ else _) = _
          rw [if_neg (by omega)]
          unfold M.afterRun M.attempt
          rw [if_neg (by show ¬ (1 + 1 + 0 > 16777216); decide)]
          have e1 : (((j + 1 + 1 : Nat) : Int) - 1) = ((j + 1 : Nat) : Int) := by omega
          have e2 : p + (j + 1 + 1) - 1 = p + (j + 1) := by omega
          unfold ipM ipGB M.frame
          dsimp only
          rw [e1, e2]
          rfl
        have g4 : Goes 1 _ _ := Goes.step (g3.trans e)
        obtain ⟨a, b, c, d, sn', g5⟩ := ih p (p + (j + 1)) sn1 (by omega) (by omega)
        exact ⟨a, b, c, d, sn', ((g1.trans g4).trans g5).mono (by omega)⟩

def ipTrial (t : Array Nat) (s : Nat) : Bool := decide (s < t.size) && (t.getD s 0 == 46) && anyEnd t (s + 1) (runLen isDigit t (t.size - (s + 1)) (s + 1))

theorem ip_trial {s : Nat} {sn : Seen} (hs : s ≤ t.size) (hsz : t.size < 4294967295) : ∃ pos' handed' pc' om' sn', Goes (4 * t.size + 4) (ipM t start s s 9 om fr 1 none sn) (ipM t start pos' handed' pc' om' fr 1 (some (ipTrial t s)) sn') := by
  have e1 := step_LIT (m := ipM t start s s 9 om fr 1 none sn) ⟨rfl, rfl, by show 9 < 24; decide⟩ rfl
  by_cases h : s < t.size ∧ t.getD s 0 = 46
  · have e1' : (ipM t start s s 9 om fr 1 none sn).step = ipM t start (s + 1) s 11 om fr 1 none (sn.add 16) := e1.trans (if_pos h)
    obtain ⟨sn2, e2⟩ := step_REP1 (m := ipM t start (s + 1) s 11 om fr 1 none (sn.add 16)) (least := 1) (f := isDigit) ⟨rfl, rfl, by show 11 < 24; decide⟩ rfl rfl rfl (by show s + 1 ≤ t.size; omega) hsz ip_accepts (by show 1 + 1 + 0 ≤ 16777216; decide) rfl
    have hT : ipTrial t s = anyEnd t (s + 1) (runLen isDigit t (t.size - (s + 1)) (s + 1)) := by unfold ipTrial; simp [h.1, h.2]
    rw [hT]
    have e2' : (ipM t start (s + 1) s 11 om fr 1 none (sn.add 16)).step = if runLen isDigit t (t.size - (s + 1)) (s + 1) < 1 then _ else _ := e2
    have hle := runLen_le isDigit t (t.size - (s + 1)) (s + 1)
    by_cases hn : runLen isDigit t (t.size - (s + 1)) (s + 1) < 1
    · rw [if_pos hn] at e2'
      have : runLen isDigit t (t.size - (s + 1)) (s + 1) = 0 := by omega
      rw [this]
      exact ⟨s + 1, s, 11, om, sn2, ((Goes.step e1').trans (Goes.step e2')).mono (by omega)⟩
    · rw [if_neg hn] at e2'
      obtain ⟨a, b, c, d, sn', g⟩ := ip_give (t := t) (start := start) (om := om) (fr := fr) (runLen isDigit t (t.size - (s + 1)) (s + 1)) (s + 1) (s + 1 + runLen isDigit t (t.size - (s + 1)) (s + 1)) sn2 (by omega) (by omega)
      exact ⟨a, b, c, d, sn', (((Goes.step e1').trans (Goes.step e2')).trans g).mono (by omega)⟩
  · have e1' : (ipM t start s s 9 om fr 1 none sn).step = ipM t start s s 9 om fr 1 (some false) (sn.add 16) := e1.trans (if_neg h)
    have hT : ipTrial t s = false := by
      unfold ipTrial
      rw [Bool.and_eq_false_iff, Bool.and_eq_false_iff]
      by_cases h1 : s < t.size
      · exact .inl (.inr (by simpa using fun e => h ⟨h1, e⟩))
      · exact .inl (.inl (by simpa using h1))
    rw [hT]
    exact ⟨s, s, 9, om, _, (Goes.step e1').mono (by omega)⟩

/-- does the search find it -/
def ipAny (t : Array Nat) : Bool := (List.range (t.size + 1)).any (ipTrial t)

theorem ip_search (hsz : t.size < 4294967295) : ∀ (n s : Nat) (om : Bool) (sn : Seen), s + n = t.size → ∃ m', Goes ((n + 1) * (4 * t.size + 8)) (ipM t s s s 9 om [ipNS s om] 1 none sn) m' ∧ m'.outcome = some (if (List.range (n + 1)).any (fun j => ipTrial t (s + j)) then .matched else .failed) := by
  intro n
  induction n with
  | zero =>
    intro s om sn hs
    obtain ⟨a, b, c, d, sn', g⟩ := ip_trial (t := t) (start := s) (om := om) (fr := [ipNS s om]) (s := s) (sn := sn) (by omega) hsz
    have hany : (List.range (0 + 1)).any (fun j => ipTrial t (s + j)) = ipTrial t s := by simp
    rw [hany]
    cases hb : ipTrial t s with
    | true =>
      rw [hb] at g
      have g2 := Goes.step (step_ans (m := ipM t s a b c d [ipNS s om] 1 (some true) sn') rfl rfl rfl)
      have g3 := Goes.step (step_end (m := M.resume { (ipM t s a b c d [ipNS s om] 1 (some true) sn') with answer := none, frames := [], weight := 0, pc := 9, pos := s, outermost := om } (ipNS s om) true) (b := true) rfl rfl rfl)
      exact ⟨_, ((g.trans g2).trans g3).mono (by omega), rfl⟩
    | false =>
      rw [hb] at g
      have e2 : (ipM t s a b c d [ipNS s om] 1 (some false) sn').step = ipM t s s b 9 om [] 0 (some false) sn' := by
        refine (step_ans (m := ipM t s a b c d [ipNS s om] 1 (some false) sn') rfl rfl rfl).trans ?_
        show (if s < t.size then _ else _) = _
        rw [if_neg (by omega)]; rfl
      have g3 := Goes.step (step_end (m := ipM t s s b 9 om [] 0 (some false) sn') (b := false) rfl rfl rfl)
      exact ⟨_, ((g.trans (Goes.step e2)).trans g3).mono (by omega), rfl⟩
  | succ n ih =>
    intro s om sn hs
    obtain ⟨a, b, c, d, sn', g⟩ := ip_trial (t := t) (start := s) (om := om) (fr := [ipNS s om]) (s := s) (sn := sn) (by omega) hsz
    have hany : (List.range (n + 1 + 1)).any (fun j => ipTrial t (s + j)) = (ipTrial t s || (List.range (n + 1)).any (fun j => ipTrial t (s + 1 + j))) := by
      rw [List.range_succ_eq_map, List.any_cons, List.any_map]
      congr 1
      apply congrArg (fun f => List.any _ f)
      funext j
      simp only [Function.comp]
      congr 1; omega
    rw [hany]
    cases hb : ipTrial t s with
    | true =>
      rw [hb] at g
      have g2 := Goes.step (step_ans (m := ipM t s a b c d [ipNS s om] 1 (some true) sn') rfl rfl rfl)
      have g3 := Goes.step (step_end (m := M.resume { (ipM t s a b c d [ipNS s om] 1 (some true) sn') with answer := none, frames := [], weight := 0, pc := 9, pos := s, outermost := om } (ipNS s om) true) (b := true) rfl rfl rfl)
      refine ⟨_, ((g.trans g2).trans g3).mono ?_, rfl⟩
      have : (n + 1 + 1) * (4 * t.size + 8) ≥ 1 * (4 * t.size + 8) := Nat.mul_le_mul_right _ (by omega)
      omega
    | false =>
      rw [hb] at g
      have e2 : (ipM t s a b c d [ipNS s om] 1 (some false) sn').step = ipM t (s + 1) (s + 1) (s + 1) 9 false [ipNS (s + 1) false] 1 none sn' := by
        refine (step_ans (m := ipM t s a b c d [ipNS s om] 1 (some false) sn') rfl rfl rfl).trans ?_
        show (if s < t.size then _ else _) = _
        rw [if_pos (by omega)]; rfl
      obtain ⟨m', g3, ho⟩ := ih (s + 1) false sn' (by omega)
      refine ⟨m', ((g.trans (Goes.step e2)).trans g3).mono ?_, ho⟩
      have : (n + 1 + 1) * (4 * t.size + 8) = (n + 1) * (4 * t.size + 8) + (4 * t.size + 8) := by rw [Nat.add_mul (n + 1) 1, Nat.one_mul]
      omega

theorem ip_forSearch (hsz : t.size < 16777217) : ∃ m' n, Goes n (forSearch ipCode t 0 0 t.size false) m' ∧ n < 2 ^ 62 ∧ m'.outcome = some (if ipAny t then .matched else .failed) := by
  by_cases h2 : t.size < 2
  · have e : forSearch ipCode t 0 0 t.size false = M.say { code := ipCode, text := t, lim := t.size, start := 0, pc := 9, pos := 0, handed := 0, marks := #[], seen := ({} : Seen).add 14 } false := by
      show (if (decide (0 > t.size) || decide (t.size - 0 < 2)) = true then _ else _) = _
      rw [if_pos (by simp; omega)]; rfl
    have hany : ipAny t = false := by
      unfold ipAny
      rw [List.any_eq_false]
      intro s hs
      have hs' : s ≤ t.size := by simpa [Nat.lt_succ_iff] using hs
      unfold ipTrial
      intro hh
      rw [Bool.and_eq_true, Bool.and_eq_true] at hh
      obtain ⟨⟨h1, _⟩, h3⟩ := hh
      have h1' : s < t.size := by simpa using h1
      have h0 : t.size - (s + 1) = 0 := by omega
      rw [h0] at h3
      simp [runLen, anyEnd] at h3
    rw [e, hany]
    exact ⟨_, 1, Goes.step (step_end (b := false) rfl rfl rfl), by decide, rfl⟩
  · have e : forSearch ipCode t 0 0 t.size false = ipM t 0 0 0 9 true [ipNS 0 true] 1 none (({} : Seen).add 14) := by
      show (if (decide (0 > t.size) || decide (t.size - 0 < 2)) = true then _ else _) = _
      rw [if_neg (by simp; omega)]; rfl
    rw [e]
    obtain ⟨m', g, ho⟩ := ip_search (t := t) (by omega) t.size 0 true (({} : Seen).add 14) (by omega)
    refine ⟨m', _, g, ?_, ?_⟩
    · have h1 : (t.size + 1) * (4 * t.size + 8) ≤ 16777217 * (4 * 16777216 + 8) := Nat.mul_le_mul (by omega) (by omega)
      have h2 : 16777217 * (4 * 16777216 + 8) < 2 ^ 62 := by decide
      omega
    · rw [ho]; unfold ipAny; simp
end
end Mine

end
section
open PySem PySem.W PyProof.Rows PySem.Calls PySem.SeqAt
namespace Mine
set_option linter.all false
set_option maxRecDepth 100000

/-! patterns -/
theorem plainAttrs_pat : PlainAttrs "re.Pattern" := ⟨⟨"object.__getattribute__", by rw [typeLookup_type, builtinLookup_eq_fast]; kernel_rfl, by decide +kernel⟩, by rw [typeLookup_type, builtinLookup_eq_fast]; kernel_rfl⟩
theorem slot_pat_search : Slot "re.Pattern" "search" "re.Pattern.search" :=
  .of (owner := "re.Pattern") (n := "search") (by rw [typeLookup_type, builtinLookup_eq_fast]; kernel_rfl) (by decide +kernel) (by decide +kernel) (by decide +kernel)
    (by first | exact .inl (by decide +kernel) | exact .inr (by decide +kernel)) (by rw [isSubtype_type]; kernel_rfl)
theorem type_pat_search : typeOf (.builtin "re.Pattern.search") = pure (.type "method_descriptor") := by show builtinType _ = _; rw [builtinType_eq_fast]; kernel_rfl
theorem entry_pat_search : entryFor table "re.Pattern.search" = some Builtin.«re.Pattern.search» := entryFor_of_fast (by kernel_rfl)
theorem args_pat_search (a b : Value) : argsOk "re.Pattern.search" ⟨[a, b], []⟩ := by unfold argsOk; kernel_rfl
theorem match_no_bool : typeLookup (.type "re.Match") "__bool__" = pure none := by rw [typeLookup_type, builtinLookup_eq_fast]; kernel_rfl
theorem match_no_len : typeLookup (.type "re.Match") "__len__" = pure none := by rw [typeLookup_type, builtinLookup_eq_fast]; kernel_rfl

/-- a compiled pattern of a text: its words, its groups -/
def IsPat (h : Heap) (a : Addr) (code : Array Nat) (groups : Nat) : Prop :=
  ∃ (p f gi ig : Value) (c : Addr) (ws : List Value) (dd : Option Addr) (sl : Array (Option Value)) (n : Nat), h.get? a = some { cls := .type "re.Pattern", data := .fields #[p, f, .int groups 0, gi, ig, .ref c, .int 0 0] } ∧ h.get? c = some { cls := .type "tuple", dict := dd, data := .seq ws.toArray n, slots := sl } ∧ ws = code.toList.map (fun k : Nat => Value.int (k : Int) 0)
theorem IsPat.keeps {h h' : Heap} {a : Addr} {code : Array Nat} {g : Nat} (x : IsPat h a code g) (hk : ∀ b o, h.get? b = some o → h'.get? b = some o) : IsPat h' a code g :=
  let ⟨p, f, gi, ig, c, ws, dd, sl, n, h1, h2, h3⟩ := x; ⟨p, f, gi, ig, c, ws, dd, sl, n, hk _ _ h1, hk _ _ h2, h3⟩

section
variable {C : Ctx} {st : St} {Q : PV → St → Prop}

theorem AGm_pat {a : Addr} {code : Array Nat} {g : Nat} {name : Str} {id : String} (hp : IsPat C.s₀.heap a code g) (slot : Slot "re.Pattern" name id) (hty : typeOf (.builtin id) = pure (.type "method_descriptor")) : AGm C (.val (.ref a)) name id st := fun v s ρ I r pl Q hQ => by
  have e : v = .ref a := r
  subst e
  obtain ⟨p, f, gi, ig, c, ws, dd, sl, n, h1, h2, h3⟩ := hp.keeps I.keep
  exact getMethod_builtin ⟨_, h1, rfl⟩ plainAttrs_pat slot hty (fun a e => by cases e; exact ⟨_, h1, rfl⟩) hQ

theorem rawItems_wp {M : Model} {A : Around} {E : Value → Shared → Prop} {s : Shared} {c : Addr} {o : Obj} {ws : Array Value} {n : Nat} {Q : Array Int → Shared → Prop} (ho : s.heap.get? c = some o) (hd : o.data = .seq ws n) (h : Q (ws.map Builtin.Re.reRawOf) s) : wpAny M A (Builtin.Re.reRawItems (.ref c)) Q E s := by
  unfold Builtin.Re.reRawItems
  exact wpAny_bind (wpAny_seqItems ho hd (wpAny_pure h))

theorem reTextOf_str {M : Model} {A : Around} {E : Value → Shared → Prop} {s : Shared} {x : Str} {t : Tok} {Q : Array Nat × Nat → Shared → Prop} (h : Q (x.cps, 0) s) : wpAny M A (Builtin.Re.reTextOf (.str x t)) Q E s := by
  unfold Builtin.Re.reTextOf
  refine wpAny_bind (m := asStr? (.str x t)) (wpAny_pure ?_)
  exact wpAny_pure h

theorem reTarget_wp {M : Model} {A : Around} {E : Value → Shared → Prop} {s : Shared} {a : Addr} {code : Array Nat} {g : Nat} {x : Str} {t : Tok} {id f : String} {Q : Builtin.Re.ReTarget → Shared → Prop} (hp : IsPat s.heap a code g) (hx : x.cps.size < 2 ^ 63 - 1)
    (h : Q { pattern := .ref a, string := .str x t, code, text := x.cps, kind := 0, groups := g, pos := 0, lim := x.cps.size } s) : wpAny M A (Builtin.Re.reTarget id f ⟨[.ref a, .str x t], []⟩) Q E s := by
  obtain ⟨p, fl, gi, ig, c, ws, dd, sl, n, h1, h2, h3⟩ := hp
  unfold Builtin.Re.reTarget
  show wpAny M A (Builtin.Re.reNamed id f ["string", "pos", "endpos"] 1 [.str x t] [] >>= _) Q E s
  refine wpAny_bind (wpAny_of_eq (a := [some (.str x t), none, none]) rfl ?_)
  refine wpAny_bind (m := (pure 0 : Sem Int)) (wpAny_pure ?_)
  refine wpAny_bind (m := (pure (2 ^ 63 - 1) : Sem Int)) (wpAny_pure ?_)
  refine wpAny_bind (wpAny_fieldsOf h1 rfl ?_)
  refine wpAny_bind (reTextOf_str ?_)
  show wpAny M A (Builtin.Re.reNoCollectionInside (.str x t) 0 >>= fun _ => _) Q E s
  refine wpAny_bind (m := Builtin.Re.reNoCollectionInside (.str x t) 0) (wpAny_pure ?_)
  show wpAny M A (Builtin.Re.reRawItems (.ref c) >>= _) Q E s
  refine wpAny_bind (rawItems_wp h2 rfl (wpAny_pure ?_))
  have e1 : (ws.toArray.map Builtin.Re.reRawOf).map (·.toNat) = code := by
    subst h3
    apply Array.ext'
    simp [Builtin.Re.reRawOf, Function.comp_def]
  have e2 : min (2 ^ 63 - 1 : Int).toNat x.cps.size = x.cps.size := by omega
  have e3 : min (0 : Int).toNat x.cps.size = 0 := by simp
  have key : ({ pattern := .ref a, string := .str x t, code := (ws.toArray.map Builtin.Re.reRawOf).map (·.toNat), text := x.cps, kind := 0, groups := Builtin.Re.reRawNat (.int g 0), pos := min (0 : Int).toNat x.cps.size, lim := min (2 ^ 63 - 1 : Int).toNat x.cps.size } : Builtin.Re.ReTarget) = { pattern := .ref a, string := .str x t, code, text := x.cps, kind := 0, groups := g, pos := 0, lim := x.cps.size } := by
    rw [e1, e2, e3]; rfl
  rw [← key] at h
  exact h

/-- what a search brings: nothing, or the place and the groups' places -/
theorem ACall_search (hC : Ok C) {a : Addr} {code : Array Nat} {g : Nat} {x : Str} (hp : IsPat C.s₀.heap a code g) (hx : x.length ≤ sizeLine) {b : Bool} {m' : Sre.M} {n : Nat} (hgo : Goes n (Sre.forSearch code x.cps g 0 x.cps.size false) m') (hn : n < 2 ^ 62) (ho : m'.outcome = some (if b then .matched else .failed)) {sp : List Int}
    (hsp : b = true → ∀ (M : Model) (A : Around) (s : Shared) (p str : Value) (R : Value → Shared → Prop), R (.ref (s.heap.objs.size + 1)) { s with heap := (s.heap.push { cls := .type "tuple", data := .seq (sp.map rawInt).toArray }).push { cls := .type "re.Match", data := .fields #[str, p, rawInt 0, rawInt x.cps.size, rawInt m'.lastindex, .ref s.heap.objs.size] } } → wpAny M A (Builtin.Re.reNewMatch p str g 0 x.cps.size m') R NoE s)
    (h : Q (if b then .mt x sp else pnone) st) : ACallB C "re.Pattern.search" [.val (.ref a), pstr x] st Q := fun vs s ρ I rr => by
  obtain ⟨v, u, rfl, r, ru⟩ := rep2 rr
  have e : v = .ref a := r
  subst e
  obtain ⟨t, rfl⟩ := rep_str ru
  have hp' := hp.keeps I.keep
  obtain ⟨p, f, gi, ig, c, ws, dd, sl, nn, h1, h2, h3⟩ := id hp'
  have hx' : x.cps.size < 2 ^ 63 - 1 := by have : x.cps.size = x.length := rfl; rw [sizeLine_eq] at hx; omega
  refine wpAny_call_entry slot_pat_search ⟨_, h1, rfl⟩ entry_pat_search ?_ (args_pat_search _ _)
  unfold Builtin.«re.Pattern.search»
  refine wpAny_bind (reTarget_wp hp' hx' ?_)
  unfold Builtin.Re.reAnswer
  refine wpAny_bind (reRunToEnd_wp hgo hn ho ?_)
  cases b with
  | false => exact wpAny_pure ⟨_, rfl, Post.here I repN h⟩
  | true =>
    refine wpAny_bind (hsp rfl _ _ _ _ _ _ (wpAny_pure ⟨_, rfl, ?_⟩))
    have J := I.keeps hC (h' := (s.heap.push { cls := .type "tuple", data := .seq (sp.map rawInt).toArray }).push { cls := .type "re.Match", data := .fields #[.str x t, .ref a, rawInt 0, rawInt x.cps.size, rawInt m'.lastindex, .ref s.heap.objs.size] }) (tk := s.toks) (fun b o e => Heap.get?_push_of_some _ (Heap.get?_push_of_some _ e)) (Nat.le_refl _)
    refine ⟨.mt x sp, st, ρ, J.1, J.2, ⟨s.heap.objs.size + 1, { cls := .type "re.Match", data := .fields #[.str x t, .ref a, rawInt 0, rawInt x.cps.size, rawInt m'.lastindex, .ref s.heap.objs.size] }, t, .ref a, rawInt 0, rawInt x.cps.size, rawInt m'.lastindex, s.heap.objs.size, rfl, ?_, rfl, rfl, ?_⟩, h⟩
    · rw [← Heap.size_push s.heap { cls := .type "tuple", data := .seq (sp.map rawInt).toArray }]; exact Heap.get?_push_size _ rfl
    · exact ⟨_, Heap.get?_push_of_some _ (Heap.get?_push_size _ rfl), rfl, 0, rfl⟩

theorem ATru_mt {Q : Bool → St → Prop} {x : Str} {sp : List Int} (h : Q true st) : ATru C (.mt x sp) st Q := fun a s ρ I ra => by
  obtain ⟨a, o, t, pv, p, l, li, b, rfl, ho, hc, _⟩ := ra
  have hT : s.TypeIs (.ref a) "re.Match" := ⟨o, ho, hc⟩
  unfold truthy
  refine wpAny_bind (m := callSpecial? (.ref a) (Str.ofString "__bool__")) ?_
  unfold callSpecial?
  refine wpAny_bind (wpAny_specialOf hT match_no_bool (wpAny_pure ?_))
  refine wpAny_bind (m := specialOf (.ref a) "__len__") (wpAny_specialOf hT match_no_len ?_)
  exact wpAny_pure ⟨true, st, ρ, I, .refl, rfl, h⟩

theorem newMatch0 {m' : Sre.M} {n : Nat} {M : Model} {A : Around} {s : Shared} {p str : Value} {R : Value → Shared → Prop} (h : R (.ref (s.heap.objs.size + 1)) { s with heap := (s.heap.push { cls := .type "tuple", data := .seq ([(m'.start : Int), (m'.handed : Int)].map rawInt).toArray }).push { cls := .type "re.Match", data := .fields #[str, p, rawInt 0, rawInt n, rawInt m'.lastindex, .ref s.heap.objs.size] } }) :
    wpAny M A (Builtin.Re.reNewMatch p str 0 0 n m') R NoE s := by
  unfold Builtin.Re.reNewMatch
  show wpAny M A (newTuple [rawInt m'.start, rawInt m'.handed] >>= _) R NoE s
  refine wpAny_bind (newTuple_step ?_ (by show 2 ≤ sizeLine; decide))
  refine wpAny_newObj_type ?_ (by size_fits)
  show R (.ref ((s.heap.push { cls := .type "tuple", data := .seq ([(m'.start : Int), (m'.handed : Int)].map rawInt).toArray }).objs.size)) _
  rw [Heap.size_push]
  exact h
end
end Mine

end
section
open PySem PySem.W PyProof.Rows PySem.Calls
namespace Mine
set_option linter.all false
set_option maxRecDepth 100000

section
variable {C : Ctx} {st : St} {Q : PV → St → Prop}

/-! methods of a str -/
theorem AGm_strOf {x : Str} {name : Str} {id : String} (h : ∀ {M : Model} {A : Around} {s : Shared} {t : Tok} {pl : Sem Bool} {Q : Value × List Value → Shared → Prop}, Q (.builtin id, [.str x t]) s → wpAny M A (getMethod (.str x t) name pl) Q NoE s) : AGm C (pstr x) name id st := fun v s ρ I r pl Q hQ => by
  obtain ⟨t, rfl⟩ := rep_str r
  exact h hQ
theorem AGm_lower {x : Str} : AGm C (pstr x) "lower" "str.lower" st := AGm_strOf GM.lower
theorem AGm_upper {x : Str} : AGm C (pstr x) "upper" "str.upper" st := AGm_strOf GM.upper
theorem AGm_swapcase {x : Str} : AGm C (pstr x) "swapcase" "str.swapcase" st := AGm_strOf GM.swapcase
theorem AGm_rfind {x : Str} : AGm C (pstr x) "rfind" "str.rfind" st := AGm_strOf GM.rfind
theorem AGm_find {x : Str} : AGm C (pstr x) "find" "str.find" st := AGm_strOf GM.find
theorem AGm_startswith {x : Str} : AGm C (pstr x) "startswith" "str.startswith" st := AGm_strOf GM.startswith
theorem AGm_lstrip {x : Str} : AGm C (pstr x) "lstrip" "str.lstrip" st := AGm_strOf GM.lstrip
theorem AGm_rstrip {x : Str} : AGm C (pstr x) "rstrip" "str.rstrip" st := AGm_strOf GM.rstrip
theorem AGm_isspace {x : Str} : AGm C (pstr x) "isspace" "str.isspace" st := AGm_strOf GM.isspace
theorem AGm_split {x : Str} : AGm C (pstr x) "split" "str.split" st := AGm_strOf GM.split
theorem AGm_join {x : Str} : AGm C (pstr x) "join" "str.join" st := AGm_strOf GM.join
theorem AGm_replace {x : Str} : AGm C (pstr x) "replace" "str.replace" st := AGm_strOf GM.replace

theorem ACall_lower (hC : Ok C) {x : Str} (hx : x.length ≤ 5592405) (h : Q (pstr (Txt.lower x)) st) : ACallB C "str.lower" [pstr x] st Q := fun vs s ρ I rr => by
  obtain ⟨v, rfl, r⟩ := rep1 rr; obtain ⟨t, rfl⟩ := rep_str r
  exact SCL.lower hx fun _ => Post.at hC I (Nat.le_succ _) repS h
theorem ACall_upper (hC : Ok C) {x : Str} (hx : x.length ≤ 5592405) (h : Q (pstr (Txt.upper x)) st) : ACallB C "str.upper" [pstr x] st Q := fun vs s ρ I rr => by
  obtain ⟨v, rfl, r⟩ := rep1 rr; obtain ⟨t, rfl⟩ := rep_str r
  exact SCL.upper hx fun _ => Post.at hC I (Nat.le_succ _) repS h
theorem ACall_swapcase (hC : Ok C) {x : Str} (hx : x.length ≤ 5592405) (h : Q (pstr (Txt.swapcase x)) st) : ACallB C "str.swapcase" [pstr x] st Q := fun vs s ρ I rr => by
  obtain ⟨v, rfl, r⟩ := rep1 rr; obtain ⟨t, rfl⟩ := rep_str r
  exact SCL.swapcase hx fun _ => Post.at hC I (Nat.le_succ _) repS h
theorem ACall_rfind (hC : Ok C) {x y : Str} (h : Q (pint (Txt.rfind x y)) st) : ACallB C "str.rfind" [pstr x, pstr y] st Q := fun vs s ρ I rr => by
  obtain ⟨v, u, rfl, r, r'⟩ := rep2 rr; obtain ⟨t, rfl⟩ := rep_str r; obtain ⟨t', rfl⟩ := rep_str r'
  exact SC.rfind (Post.at hC I (Nat.le_succ _) repI h)
theorem ACall_find (hC : Ok C) {x y : Str} (h : Q (pint (Txt.find x y)) st) : ACallB C "str.find" [pstr x, pstr y] st Q := fun vs s ρ I rr => by
  obtain ⟨v, u, rfl, r, r'⟩ := rep2 rr; obtain ⟨t, rfl⟩ := rep_str r; obtain ⟨t', rfl⟩ := rep_str r'
  exact SC.find (Post.at hC I (Nat.le_succ _) repI h)
theorem ACall_startswith {x y : Str} (h : Q (pbool (Txt.startswith x y)) st) : ACallB C "str.startswith" [pstr x, pstr y] st Q := fun vs s ρ I rr => by
  obtain ⟨v, u, rfl, r, r'⟩ := rep2 rr; obtain ⟨t, rfl⟩ := rep_str r; obtain ⟨t', rfl⟩ := rep_str r'
  exact SC.startswith (Post.here I repB h)
theorem ACall_lstrip (hC : Ok C) {x : Str} (hx : x.length ≤ sizeLine) (h : Q (pstr (Txt.lstrip x)) st) : ACallB C "str.lstrip" [pstr x] st Q := fun vs s ρ I rr => by
  obtain ⟨v, rfl, r⟩ := rep1 rr; obtain ⟨t, rfl⟩ := rep_str r
  exact grown (SC.lstrip (fun t' k hk => Post.at hC I hk repS h) hx)
theorem ACall_rstrip (hC : Ok C) {x : Str} (hx : x.length ≤ sizeLine) (h : Q (pstr (Txt.rstrip x)) st) : ACallB C "str.rstrip" [pstr x] st Q := fun vs s ρ I rr => by
  obtain ⟨v, rfl, r⟩ := rep1 rr; obtain ⟨t, rfl⟩ := rep_str r
  exact grown (SC.rstrip (fun t' k hk => Post.at hC I hk repS h) hx)
theorem ACall_isspace {x : Str} (h : Q (pbool (Txt.isspace x)) st) : ACallB C "str.isspace" [pstr x] st Q := fun vs s ρ I rr => by
  obtain ⟨v, rfl, r⟩ := rep1 rr; obtain ⟨t, rfl⟩ := rep_str r
  exact SC.isspace (Post.here I repB h)

theorem strs_of {h : Heap} {ρ : List Addr} {O : Addr → Prop} : ∀ {vs : List Value} {xs : List Str}, RepAll h ρ O vs (xs.map pstr) → ∃ l : List (Str × Tok), strValues l = vs ∧ l.map (·.1) = xs
  | [], [], _ => ⟨[], rfl, rfl⟩
  | v :: vs, x :: xs, ⟨a, b⟩ => by
    obtain ⟨t, rfl⟩ := rep_str a
    obtain ⟨l, e1, e2⟩ := strs_of b
    exact ⟨(x, t) :: l, by rw [← e1]; rfl, by rw [← e2]; rfl⟩
  | [], _ :: _, h => h.elim
  | _ :: _, [], h => h.elim
theorem repAll_strs {h : Heap} {ρ : List Addr} {O : Addr → Prop} : ∀ {l : List (Str × Tok)} {xs : List Str}, l.map (·.1) = xs → RepAll h ρ O (strValues l) ((xs.map PyData.str).map PV.dat)
  | [], _, e => by subst e; exact trivial
  | p :: l, _, e => by subst e; exact ⟨repS, repAll_strs rfl⟩

theorem ACall_join (hC : Ok C) {x : Str} {xs : List Str} (hx : (xs.map (·.length)).sum + xs.length * x.length ≤ 16777216) (h : Q (pstr (Txt.join x xs)) st) : ACallB C "str.join" [pstr x, plist (xs.map .str)] st Q := fun vs s ρ I rr => by
  obtain ⟨v, u, rfl, r, r'⟩ := rep2 rr; obtain ⟨t, rfl⟩ := rep_str r
  obtain ⟨a, vs, rfl, hl, hr⟩ := rep_list r'
  rw [List.map_map] at hr
  obtain ⟨l, e1, e2⟩ := strs_of (xs := xs) hr
  rw [← e1] at hl
  exact grown (SC.join hl e2 (joinOk_of hx) fun t' k hk => Post.at hC I hk repS h)
theorem ACall_joinO (hC : Ok C) {x : Str} {xs : List Str} {i : Nat} (hi : st.σ[i]? = some (some (xs.map pstr))) (hx : (xs.map (·.length)).sum + xs.length * x.length ≤ 16777216) (h : Q (pstr (Txt.join x xs)) st) : ACallB C "str.join" [pstr x, .own i] st Q := fun vs s ρ I rr => by
  obtain ⟨v, u, rfl, r, r'⟩ := rep2 rr; obtain ⟨t, rfl⟩ := rep_str r
  obtain ⟨a, vs, rfl, _, hl, hr⟩ := rep_own I hi r'
  obtain ⟨l, e1, e2⟩ := strs_of (xs := xs) hr
  rw [← e1] at hl
  exact grown (SC.join hl.isList e2 (joinOk_of hx) fun t' k hk => Post.at hC I hk repS h)

/-! the sum of a list of ints -/
theorem ints_of {h : Heap} {ρ : List Addr} {O : Addr → Prop} : ∀ {vs : List Value} {xs : List Int}, RepAll h ρ O vs (xs.map pint) → ∃ l : List (Int × Tok), vs = l.map (fun p => Value.int p.1 p.2) ∧ l.map (·.1) = xs
  | [], [], _ => ⟨[], rfl, rfl⟩
  | v :: vs, x :: xs, ⟨a, b⟩ => by
    obtain ⟨t, rfl⟩ := rep_int a
    obtain ⟨l, e1, e2⟩ := ints_of b
    exact ⟨(x, t) :: l, by rw [e1]; rfl, by rw [← e2]; rfl⟩
  | [], _ :: _, h => h.elim
  | _ :: _, [], h => h.elim
theorem ACall_sum (hC : Ok C) {xs : List Int} (h : Q (pint xs.sum) st) : ACallB C "sum" [plist (xs.map .int)] st Q := fun vs s ρ I rr => by
  obtain ⟨u, rfl, r'⟩ := rep1 rr
  obtain ⟨a, vs, rfl, hl, hr⟩ := rep_list r'
  rw [List.map_map] at hr
  obtain ⟨l, e1, e2⟩ := ints_of (xs := xs) hr
  have hl' : s.heap.IsList a (intItems l.toArray) := by
    have : intItems l.toArray = vs.toArray := by rw [e1]; simp [intItems]
    rw [this]; exact hl
  refine grown (sum_intListG hC.handled hl' fun h' tk t' hk htk => ?_)
  have e2 : preSum (numAt l.toArray) l.toArray.size = xs.sum := by
    rw [preSum_eq, List.take_of_length_le (by simp), ← e2]
  rw [e2]
  have J := I.keeps hC (h' := h') (tk := tk) hk htk
  exact ⟨_, st, ρ, J.1, J.2, repI, h⟩

/-! an expression alone -/
theorem AX_Expr {Q : Fl → St → Prop} {e : Expr} {pos : Pos} (h : AE C e st fun _ st₁ => Q .next st₁) (hi : interactive C.env = false := by rfl) (hs : swapsWith e none pos.line C.env = pure false := by rfl) : AX C (.Expr e pos) st Q := fun s ρ I =>
  wpAny_Expr_any (h.use I fun _ _ _ st₁ ρ₁ I₁ L₁ _ h₁ => ⟨.next, st₁, ρ₁, I₁, L₁, trivial, h₁⟩) hi hs
end
end Mine

end
section
open PySem PySem.W PyProof.Rows PySem.Calls
namespace Mine
set_option linter.all false
set_option maxRecDepth 100000

/-- what all heaps of a law hold: the text's own objects, the built-in names -/
structure Base (K : Frag) (h : Heap) : Prop where
  frag : K.In h
  lim : h.NoLimit
  g : ∃ mg, h.Ns mainGlobals mg
  b : ∃ mb, h.Ns builtinsNs mb ∧ ∀ x : Str, x ≠ "__name__" → mb x = bootBuiltins x
  stat : ∃ mc, h.Ns cStatics mc

theorem Base.keeps {K : Frag} (h h' : Heap) (hk : ∀ b o, h.get? b = some o → h'.get? b = some o) (x : Base K h) : Base K h' :=
  ⟨x.frag.keeps hk, x.lim.keeps hk, let ⟨m, e⟩ := x.g; ⟨m, e.keeps hk⟩, let ⟨m, e, q⟩ := x.b; ⟨m, e.keeps hk, q⟩, let ⟨m, e⟩ := x.stat; ⟨m, e.keeps hk⟩⟩

theorem ns_some_of {K : Frag} {h : Heap} {N : Addr} {mg : Str → Option Value} {n : Str} {v : Value} (X : K.In h) (G : h.Ns N mg) (e : nsIn K N n = some (some v)) : mg n = some v := by
  obtain ⟨o, es, ep, ho, hd, _, hf⟩ := G
  unfold nsIn at e
  split at e
  · rename_i c d es' n' sl q
    have := X _ _ q
    rw [ho] at this
    cases this
    cases hd
    split at e
    · rename_i he
      cases e
      rw [← hf]
      unfold nsFind findBy
      rw [← Array.find?_toList, he]
      rfl
    · split at e <;> cases e
  · cases e
theorem Base.globF {K : Frag} {h : Heap} (x : Base K h) {n : Str} {v : Value} (e : nsIn K mainGlobals n = some (some v)) : GlobIs h n v := by
  obtain ⟨mg, hg⟩ := x.g
  obtain ⟨mb, hb, _⟩ := x.b
  exact ⟨mg, mb, hg, hb, .inl (ns_some_of x.frag hg e)⟩
theorem Base.globB {K : Frag} {h : Heap} (x : Base K h) {n : Str} {v : Value} (e : nsIn K mainGlobals n = some none) (hv : bootBuiltins n = some v) (hn : n ≠ "__name__") : GlobIs h n v := by
  obtain ⟨mg, hg⟩ := x.g
  obtain ⟨mb, hb, q⟩ := x.b
  exact ⟨mg, mb, hg, hb, .inr ⟨ns_none_of x.frag hg e, (q n hn).trans hv⟩⟩
theorem Base.unbooked {K : Frag} {h : Heap} (x : Base K h) (e : nsIn K cStatics sharingNotToldKey = some none) : NoneBooked h := by
  obtain ⟨mc, hc⟩ := x.stat
  exact ⟨mc, hc, ns_none_of x.frag hc e⟩

def fdIn (K : Frag) (a : Addr) : Option FuncData := match K.lookup a with
  | some ⟨_, _, .func fd, _⟩ => some fd
  | _ => none
theorem Base.fn {K : Frag} {h : Heap} (x : Base K h) {a : Addr} {fd : FuncData} (e : fdIn K a = some fd) : ∃ o, h.get? a = some o ∧ o.data = .func fd := by
  unfold fdIn at e
  split at e
  · next o c d f s' ho =>
    cases e
    exact ⟨_, x.frag _ _ ho, rfl⟩
  · cases e
def codeIn (K : Frag) (cd : Value) (q : Str) : Bool := match cd with
  | .ref c => (match K.lookup c with
    | some ⟨_, _, .fields vs, _⟩ => (match vs[1]? with
      | some (Value.str q' _) => decide (q' = q)
      | _ => false)
    | _ => false)
  | _ => false
theorem Base.code {K : Frag} {h : Heap} (x : Base K h) {cd : Value} {q : Str} (e : codeIn K cd q = true) : h.CodeRec cd q := by
  unfold codeIn at e
  split at e
  · next c =>
    split at e
    · next o c' d vs s' ho =>
      split at e
      · next q' t hv =>
        exact ⟨c, _, vs, t, rfl, x.frag _ _ ho, rfl, by rw [hv, of_decide_eq_true e]⟩
      · cases e
    · cases e
  · cases e
end Mine

end
section
open PySem PySem.W PyProof.Rows PySem.Calls
namespace Mine
set_option linter.all false
set_option maxRecDepth 100000

theorem ite_of {c : Bool} {A B : Prop} (h1 : c = true → A) (h2 : c = false → B) : if c = true then A else B := by
  cases c with
  | true => exact h1 rfl
  | false => exact h2 rfl
theorem iteT {A B : Prop} (h : A) : if true = true then A else B := by rw [if_pos rfl]; exact h
theorem iteF {A B : Prop} (h : B) : if false = true then A else B := by rw [if_neg Bool.false_ne_true]; exact h
theorem AG.eq {α β : Type} {R : RelT α β} {C : Ctx} {t : Sem α} {st : St} {Q : β → St → Prop} (b0 : β) (h : AG R C t st fun b st' => b = b0 ∧ st' = st) (k : Q b0 st) : AG R C t st Q := h.mono fun b st' ⟨e, e'⟩ => by subst e e'; exact k
theorem AAll_nilA {C : Ctx} {st : St} {Q : Bool → St → Prop} (h : Q true st) : AAll C .And [] st Q := AAll_nil h
theorem AAll_nilO {C : Ctx} {st : St} {Q : Bool → St → Prop} (h : Q false st) : AAll C .Or [] st Q := AAll_nil h
theorem AOpt_none {C : Ctx} {st : St} {Q : Option Int → St → Prop} (h : Q none st) : AOpt C none st Q := h
theorem AOpt_some {C : Ctx} {st : St} {e : Expr} {Q : Option Int → St → Prop} (h : AE C e st fun d st' => ∃ i, d = pint i ∧ Q (some i) st') : AOpt C (some e) st Q := h
theorem exInt {i : Int} {P : Int → Prop} (h : P i) : ∃ j, pint i = pint j ∧ P j := ⟨i, rfl, h⟩
theorem interactive_no {C : Ctx} (hC : Ok C) : interactive C.env = false := by unfold interactive; rw [hC.kind]; rfl
theorem AX_ExprI {C : Ctx} {st : St} (hC : Ok C) {Q : Fl → St → Prop} {e : Expr} {pos : Pos} (h : AE C e st fun _ st₁ => Q .next st₁) (hs : swapsWith e none pos.line C.env = pure false := by rfl) : AX C (.Expr e pos) st Q := AX_Expr h (interactive_no hC) hs
section
variable {prog : Program} {w : World} {K : Frag} {ks : List (Str × NameKind)} {n : Nat} {wr : Bool} {C : Ctx} {st : St} {Q : PV → St → Prop}

theorem AE_loc {B : Heap → Prop} (hIn : In prog w B ks n wr C) {x : Str} {pos : Pos} {d : PV} (hk : ks.lookup x = some .local) (hv : st.m.lookup x = some d) (h : Q d st)
    (hd : (x == ("__debug__" : Str)) = false := by decide) : AE C (.Name x pos) st Q := AE_local hIn.ok (hIn.kinds _ _ hk) hv h hd
theorem AE_cel {B : Heap → Prop} (hIn : In prog w B ks n wr C) {x : Str} {pos : Pos} {d : PV} (hk : ks.lookup x = some .cell) (hv : st.m.lookup x = some d) (h : Q d st)
    (hd : (x == ("__debug__" : Str)) = false := by decide) : AE C (.Name x pos) st Q := let ⟨_, hc⟩ := hIn.cell x hk; AE_cell hIn.ok (hIn.kinds _ _ hk) hc hv h hd
theorem AE_gF (hIn : In prog w (Base K) ks n wr C) {x : Str} {pos : Pos} {v : Value} (hk : ks.lookup x = some .globalImplicit) (hg : nsIn K mainGlobals x = some (some v)) (h : Q (.val v) st)
    (hd : (x == ("__debug__" : Str)) = false := by decide) : AE C (.Name x pos) st Q := AE_global hIn.ok (hIn.kinds _ _ hk) (hIn.base.globF hg) h hd
theorem AE_gB (hIn : In prog w (Base K) ks n wr C) {x : Str} {pos : Pos} {v : Value} (hk : ks.lookup x = some .globalImplicit) (hg : nsIn K mainGlobals x = some none) (hb : bootBuiltins x = some v) (h : Q (.val v) st)
    (hn : x ≠ "__name__" := by decide) (hd : (x == ("__debug__" : Str)) = false := by decide) : AE C (.Name x pos) st Q := AE_global hIn.ok (hIn.kinds _ _ hk) (hIn.base.globB hg hb hn) h hd
theorem ASt_loc {B : Heap → Prop} (hIn : In prog w B ks n wr C) {x : Str} {d : PV} {Q : St → Prop} (hk : ks.lookup x = some .local) (h : Q (st.set x d)) : ASt C x d st Q := ASt_local hIn.ok (hIn.kinds _ _ hk) h
theorem ASt_cel {B : Heap → Prop} (hIn : In prog w B ks n true C) {x : Str} {d : PV} {Q : St → Prop} (hk : ks.lookup x = some .cell) (h : Q (st.set x d)) : ASt C x d st Q :=
  let ⟨_, hc⟩ := hIn.cell x hk; ASt_cell hIn.ok (hIn.kinds _ _ hk) hc (hIn.free rfl _ _ hc) h

theorem Room.le {n m : Nat} {A : Around} (h : Room n A) (hm : m ≤ n) : Room m A := ⟨h.handled, by have := h.depth; omega, by have := h.units; omega⟩
theorem Fn.lift {B : Heap → Prop} {fa : Addr} {m n : Nat} {args : List PV} {Q : PV → Prop} (h : Fn prog w B fa m args Q) (hm : m ≤ n) : Fn prog w B fa n args Q := fun A s X vs a => h A s X vs (a.le hm)

/-- a call of a def by its name -/
theorem AE_def (hIn : In prog w (Base K) ks n wr C) {x : Str} {p pos : Pos} {es : List Expr} {fa : Addr} {fd : FuncData} (m : Nat) (hk : ks.lookup x = some .globalImplicit) (hg : nsIn K mainGlobals x = some (some (.ref fa))) (hf : fdIn K fa = some fd)
    (h : AEs C pos es st fun ds st₂ => ds.all PV.fz = true ∧ Fn prog w (Base K) fa m ds fun d => Q d st₂) (hm : m ≤ n) (hp : plainTargets es = true := by rfl)
    (hd : (x == ("__debug__" : Str)) = false := by decide)
    (he : eval (.Call (.Name x p) es [] pos) C.env = (do callWith pos (← eval (.Name x p) C.env) [] (backTo pos (starEach es C.env)) []) := by rfl) : AE C (.Call (.Name x p) es [] pos) st Q := by
  obtain ⟨o, ho, hdat⟩ := hIn.base.fn hf
  refine AE_callF hIn.ok hIn.base (fun h h' hk x => x.keeps h h' hk) (hIn.room.le hm) ho hdat (AE_gF hIn hk hg ⟨rfl, ?_⟩ hd) hp he
  rw [hIn.prog, hIn.w]; exact h
/-- a call of a built-in by its name -/
theorem AE_bi (hIn : In prog w (Base K) ks n wr C) {x : Str} {p pos : Pos} {es : List Expr} {id : String} (hk : ks.lookup x = some .globalImplicit) (hg : nsIn K mainGlobals x = some none) (hb : bootBuiltins x = some (.builtin id))
    (h : AEs C pos es st fun ds st₂ => ACallB C id ds st₂ Q) (hn : x ≠ "__name__" := by decide) (hp : plainTargets es = true := by rfl)
    (hd : (x == ("__debug__" : Str)) = false := by decide)
    (he : eval (.Call (.Name x p) es [] pos) C.env = (do callWith pos (← eval (.Name x p) C.env) [] (backTo pos (starEach es C.env)) []) := by rfl) : AE C (.Call (.Name x p) es [] pos) st Q :=
  AE_callB hIn.ok (AE_gB hIn hk hg hb ⟨rfl, h⟩ hn hd) hp he
/-- a call of a type by its name -/
theorem AE_ty (hIn : In prog w (Base K) ks n wr C) {x : Str} {p pos : Pos} {es : List Expr} {T : String} (hk : ks.lookup x = some .globalImplicit) (hg : nsIn K mainGlobals x = some none) (hb : bootBuiltins x = some (.type T))
    (h : AEs C pos es st fun ds st₂ => ACallT C T ds st₂ Q) (hn : x ≠ "__name__" := by decide) (hp : plainTargets es = true := by rfl)
    (hd : (x == ("__debug__" : Str)) = false := by decide)
    (he : eval (.Call (.Name x p) es [] pos) C.env = (do callWith pos (← eval (.Name x p) C.env) [] (backTo pos (starEach es C.env)) []) := by rfl) : AE C (.Call (.Name x p) es [] pos) st Q := fun s ρ I => by
  rw [he]
  refine wpAny_bind ((AE_gB (pos := p) hIn hk hg hb (Q := fun d st₁ => d = .val (.type T) ∧ st₁ = st) ⟨rfl, rfl⟩ hn hd).use I fun v s₁ d st₁ ρ₁ I₁ L₁ r₁ ⟨e, e'⟩ => ?_)
  subst e e'
  have e : v = .type T := r₁
  subst e
  refine PySem.callWith_type (starEach_plain hp) (evalArgs_es hp (AG.use h I₁ fun vs s₂ ds st₂ ρ₂ I₂ L₂ r₂ h₂ => ?_))
  exact wpAny_mono (h₂ _ s₂ ρ₂ I₂ r₂) (fun _ _ p => (p.le L₂).le L₁) fun _ _ x => x

theorem Post.push (hC : Ok C) {ρ : List Addr} {s : Shared} (I : Inv C st ρ s) (o : Obj) {tk : Nat} (htk : s.toks ≤ tk) {v : Value} {d : PV} (hr : Rep (s.heap.push o) ρ (Mut C st.σ ρ) v d) (h : Q d st) : Post Rep C st ρ s Q v { s with heap := s.heap.push o, toks := tk } :=
  have J := I.keeps hC (h' := s.heap.push o) (tk := tk) (fun _ _ e => Heap.get?_push_of_some _ e) htk
  ⟨d, st, ρ, J.1, J.2, hr, h⟩
theorem ACall_range1 (hC : Ok C) {b : Int} (h : Q (.rng 0 b 1) st) : ACallT C "range" [pint b] st Q := fun vs s ρ I rr => by
  obtain ⟨v, rfl, r⟩ := rep1 rr; obtain ⟨t, rfl⟩ := rep_int r
  exact call_range_1 (Post.push hC I (d := .rng 0 b 1) _ (Nat.le_add_right _ 2) ⟨_, _, _, _, rfl, IsRange.new ..⟩ h)
theorem ACall_range2 (hC : Ok C) {a b : Int} (h : Q (.rng a b 1) st) : ACallT C "range" [pint a, pint b] st Q := fun vs s ρ I rr => by
  obtain ⟨v, u, rfl, r, r'⟩ := rep2 rr; obtain ⟨t, rfl⟩ := rep_int r; obtain ⟨t', rfl⟩ := rep_int r'
  exact call_range_2 (Post.push hC I (d := .rng a b 1) _ (Nat.le_succ _) ⟨_, _, _, _, rfl, IsRange.new ..⟩ h)
theorem ACall_range3 (hC : Ok C) {a b c : Int} (hc : c ≠ 0) (hs : c.natAbs < 1073741824) (h : Q (.rng a b c) st) : ACallT C "range" [pint a, pint b, pint c] st Q := fun vs s ρ I rr => by
  obtain ⟨v, u, z, rfl, r, r', r''⟩ := rep3 rr; obtain ⟨t, rfl⟩ := rep_int r; obtain ⟨t', rfl⟩ := rep_int r'; obtain ⟨t'', rfl⟩ := rep_int r''
  exact call_range_3 hc (Post.push hC I (d := .rng a b c) _ (Nat.le_refl _) ⟨_, _, _, _, rfl, IsRange.new ..⟩ h) (.inl (PyProof.noPylong_small hs))

theorem rngItems_one (a b : Int) : rngItems a b 1 = (List.range (b - a).toNat).map fun k : Nat => .int (a + k) := by
  unfold rngItems
  have e : (Builtin.Range.rangeSize a b 1).toNat = (b - a).toNat := by rw [rangeSize_one]; split <;> omega
  rw [e]
  simp
end
end Mine

end
section
open PySem PySem.W PyProof.Rows PySem.Calls PySem.Sre
namespace Mine
set_option linter.all false
set_option maxRecDepth 100000

def digEnd : List Nat → Bool
  | [] => true
  | c :: r => (c == 10 && r.isEmpty) || (isDigit c && digEnd r)
def trialL : List Nat → Bool
  | 46 :: d :: r => isDigit d && digEnd r
  | _ => false
def anyL : List Nat → Bool
  | [] => false
  | c :: r => trialL (c :: r) || anyL r

def headEnd : List Nat → Bool
  | d :: r => isDigit d && digEnd r
  | [] => false

theorem anyEnd_succ (t : Array Nat) (p k : Nat) : anyEnd t p (k + 1) = (atEnd t (p + 1) || anyEnd t (p + 1) k) := by
  unfold anyEnd
  rw [List.range_succ_eq_map, List.any_cons, List.any_map]
  congr 1
  apply congrArg (fun f => List.any _ f)
  funext j
  simp only [Function.comp]
  congr 1; omega

theorem anyEnd_eq (l : List Nat) : ∀ (n p : Nat), p + n = l.length → anyEnd l.toArray p (runLen isDigit l.toArray n p) = headEnd (l.drop p) := by
  intro n
  induction n with
  | zero =>
    intro p hp
    rw [List.drop_eq_nil_of_le (by omega)]
    rfl
  | succ n ih =>
    intro p hp
    have hlt : p < l.length := by omega
    have hd : l.drop p = l[p] :: l.drop (p + 1) := List.drop_eq_getElem_cons hlt
    have hg : l.toArray.getD p 0 = l[p] := by simp [Array.getD, hlt]
    rw [hd, runLen, hg]
    show _ = (isDigit l[p] && digEnd (l.drop (p + 1)))
    cases hdig : isDigit l[p] with
    | false => rfl
    | true =>
      rw [if_pos rfl, anyEnd_succ, ih (p + 1) (by omega), Bool.true_and]
      unfold atEnd
      by_cases h1 : p + 1 = l.length
      · rw [List.drop_eq_nil_of_le (by omega)]
        simp [h1, digEnd]
      · have hlt' : p + 1 < l.length := by omega
        have hd' : l.drop (p + 1) = l[p + 1] :: l.drop (p + 2) := List.drop_eq_getElem_cons hlt'
        have hg' : l.toArray.getD (p + 1) 0 = l[p + 1] := by simp [Array.getD, hlt']
        rw [hd', hg', digEnd, headEnd]
        have e1 : (p + 1 == l.toArray.size) = false := by simpa using h1
        have e2 : (p + 1 + 1 == l.toArray.size) = (l.drop (p + 2)).isEmpty := by
          rw [Bool.eq_iff_iff]
          simp [List.isEmpty_iff]
          omega
        rw [e1, e2, Bool.false_or, Bool.and_comm]

theorem ipTrial_eq (l : List Nat) (s : Nat) (hs : s ≤ l.length) : ipTrial l.toArray s = trialL (l.drop s) := by
  by_cases h : s = l.length
  · rw [List.drop_eq_nil_of_le (by omega)]
    unfold ipTrial
    simp [h, trialL]
  · have hlt : s < l.length := by omega
    have hd : l.drop s = l[s] :: l.drop (s + 1) := List.drop_eq_getElem_cons hlt
    have hg : l.toArray.getD s 0 = l[s] := by simp [Array.getD, hlt]
    have key : ipTrial l.toArray s = (l[s] == 46 && headEnd (l.drop (s + 1))) := by
      rw [← anyEnd_eq l (l.length - (s + 1)) (s + 1) (by omega)]
      unfold ipTrial
      rw [hg]
      simp [hlt]
    rw [key, hd]
    by_cases h46 : l[s] = 46
    · rw [h46]
      cases l.drop (s + 1) with
      | nil => rfl
      | cons d r => rfl
    · have : trialL (l[s] :: l.drop (s + 1)) = false := by
        unfold trialL
        split
        · rename_i h; exact absurd (List.cons.inj h).1 h46
        · rfl
      rw [this]
      simp [h46]

theorem anyL_range : ∀ (l : List Nat), (List.range (l.length + 1)).any (fun s => trialL (l.drop s)) = anyL l
  | [] => rfl
  | c :: r => by
    rw [List.range_succ_eq_map, List.any_cons, List.any_map, anyL]
    congr 1
    exact anyL_range r

theorem ipAny_eq (l : List Nat) : ipAny l.toArray = anyL l := by
  rw [← anyL_range]
  unfold ipAny
  have e : l.toArray.size = l.length := by simp
  rw [e]
  rw [Bool.eq_iff_iff, List.any_eq_true, List.any_eq_true]
  constructor
  · rintro ⟨s, hs, h⟩
    exact ⟨s, hs, by rw [← ipTrial_eq l s (by simp at hs; omega)]; exact h⟩
  · rintro ⟨s, hs, h⟩
    exact ⟨s, hs, by rw [ipTrial_eq l s (by simp at hs; omega)]; exact h⟩
end Mine

end
section
open PySem PySem.W PyProof.Rows PySem.Calls PySem.Sre PySem.Builtin.Str
namespace Mine
set_option linter.all false
set_option maxRecDepth 100000

def hdn (x : Str) : Bool := !ipAny x.cps && !decide (x = "") && !(decide (Txt.item x 0 = ".") || decide (Txt.item x (-1) = "."))
def dmatch (A B : Str) : Bool :=
  if Txt.lower A = Txt.lower B then true
  else hdn (Txt.lower A) && !(Txt.rfind (Txt.lower A) (Txt.lower B) == -1 || Txt.rfind (Txt.lower A) (Txt.lower B) == 0) && Txt.startswith (Txt.lower B) "." && hdn (Txt.slice (Txt.lower B) (some 1) none)

abbrev S (l : List Nat) : Str := ⟨l.toArray⟩
theorem S_inj {a b : List Nat} : S a = S b ↔ a = b := ⟨fun h => by have := congrArg (fun x : Str => x.cps.toList) h; simpa using this, fun h => by rw [h]⟩
theorem S_eta (x : Str) : x = S x.cps.toList := by obtain ⟨⟨l⟩⟩ := x; rfl
theorem S_len (l : List Nat) : (S l).length = l.length := by simp [Str.length]

theorem S_app (a b : List Nat) : S (a ++ b) = S a ++ S b := by
  have h : (a ++ b).toArray = a.toArray ++ b.toArray := by simp
  exact congrArg Str.mk h

def hdnL (l : List Nat) : Bool := !anyL l && !l.isEmpty && !(l.head? == some 46 || l.getLast? == some 46)

theorem item_zero (c : Nat) (l : List Nat) : Txt.item (S (c :: l)) 0 = S [c] := by
  unfold Txt.item Txt.charAt seqIndex?
  simp [Str.length]
theorem item_last (l : List Nat) (h : l ≠ []) : Txt.item (S l) (-1) = S [l.getLast h] := by
  have hl : 0 < l.length := List.length_pos_iff.mpr h
  unfold Txt.item Txt.charAt seqIndex?
  have e : ((-1 : Int) + (l.length : Int)).toNat = l.length - 1 := by omega
  have e2 : (0 : Int) ≤ -1 + (l.length : Int) := by omega
  have e3 : (-1 : Int) + (l.length : Int) < (l.length : Int) := by omega
  rw [S_len]
  simp only [show ((-1 : Int) < 0) = True from by simp, if_true, e2, e3, decide_true, Bool.and_self, e]
  have hlt : l.length - 1 < l.length := by omega
  simp [List.getLast_eq_getElem, hlt]

theorem hdn_eq (l : List Nat) : hdn (S l) = hdnL l := by
  unfold hdn hdnL
  rw [ipAny_eq]
  cases l with
  | nil => rfl
  | cons c r =>
    rw [item_zero, item_last _ (by simp)]
    have e1 : decide (S (c :: r) = "") = false := by
      rw [decide_eq_false_iff_not]; intro h; have := congrArg (fun x : Str => x.cps.size) h; exact absurd this (by show ¬ ((c :: r).toArray.size = 0); simp)
    have dot : ("." : Str) = S [46] := rfl
    rw [e1, dot]
    have e2 : decide (S [c] = S [46]) = ((c :: r).head? == some 46) := by
      rw [Bool.eq_iff_iff]; simp [S_inj]
    have e3 : decide (S [(c :: r).getLast (by simp)] = S [46]) = ((c :: r).getLast? == some 46) := by
      rw [Bool.eq_iff_iff, List.getLast?_eq_some_getLast (by simp)]; simp [S_inj]
    rw [e2, e3]
    simp

def occL (a b : List Nat) : Bool := (List.range (a.length + 1)).any fun i => decide (1 ≤ i) && b.isPrefixOf (a.drop i)

theorem at_iff (a b : List Nat) (i : Nat) : StrLaws.At (S a) (S b) (S a).length i ↔ (i ≤ a.length ∧ b.isPrefixOf (a.drop i) = true) := by
  unfold StrLaws.At
  rw [StrLaws.subAt_eq, S_len, S_len, List.isPrefixOf_iff_prefix]
  have e : (((S a).cps.toList.drop i).take b.length == (S b).cps.toList) = decide ((a.drop i).take b.length = b) := by
    rw [Bool.eq_iff_iff]
    simp
  rw [e]
  constructor
  · rintro ⟨h1, h2⟩
    refine ⟨by omega, ?_⟩
    have := of_decide_eq_true h2
    rw [← this]; exact List.take_prefix _ _
  · rintro ⟨h1, h2⟩
    obtain ⟨t, ht⟩ := h2
    have := congrArg List.length ht
    simp at this
    refine ⟨by omega, decide_eq_true ?_⟩
    rw [← ht]; simp

theorem rfind_eq (a b : List Nat) : (!(Txt.rfind (S a) (S b) == -1 || Txt.rfind (S a) (S b) == 0)) = occL a b := by
  unfold occL
  rw [Bool.eq_iff_iff, List.any_eq_true]
  rcases rfind_whole (S a) (S b) with ⟨h1, h2⟩ | ⟨i, h1, h2, h3⟩
  · rw [h1]
    simp only [beq_self_eq_true, Bool.true_or, Bool.not_true, Bool.false_eq_true, false_iff]
    rintro ⟨j, hj, hq⟩
    rw [Bool.and_eq_true] at hq
    exact h2 j ((at_iff a b j).mpr ⟨by simp at hj; omega, hq.2⟩)
  · rw [h1]
    have e : ((i : Int) == -1) = false := by simp
    rw [e, Bool.false_or]
    constructor
    · intro h
      have hi : i ≠ 0 := by rintro rfl; simp at h
      have := (at_iff a b i).mp h2
      exact ⟨i, by simp; omega, by rw [Bool.and_eq_true]; exact ⟨decide_eq_true (by omega), this.2⟩⟩
    · rintro ⟨j, hj, hq⟩
      rw [Bool.and_eq_true] at hq
      have hj1 := of_decide_eq_true hq.1
      have hat := (at_iff a b j).mpr ⟨by simp at hj; omega, hq.2⟩
      have : ¬ i < j := fun h => h3 j h hat
      have hne : ((i : Int) == 0) = false := by
        rw [beq_eq_false_iff_ne]; omega
      rw [hne]; rfl

theorem starts_eq (l : List Nat) : Txt.startswith (S l) "." = (l.head? == some 46) := by
  cases l with
  | nil => rfl
  | cons c r =>
    unfold Txt.startswith
    rw [StrLaws.subAt_eq, show ("." : Str) = S [46] from rfl]
    simp only [S_len]
    rw [Bool.eq_iff_iff]
    simp

theorem clipAt_nat (n k : Nat) : clipAt n (k : Int) = min k n := by unfold clipAt; rw [if_neg (by omega)]; omega
theorem slc_drop {α : Type} (l : List α) (n : Nat) : slc (some (n : Int)) none l = l.drop n := by
  unfold slc
  simp only [Option.elim, clipAt_nat]
  rcases Nat.le_total n l.length with h | h
  · rw [Nat.min_eq_left h, List.take_of_length_le (by simp)]
  · rw [Nat.min_eq_right h, List.drop_eq_nil_of_le h, List.drop_eq_nil_of_le (Nat.le_refl _), List.take_nil]
theorem slc_take {α : Type} (l : List α) (n : Nat) : slc none (some (n : Int)) l = l.take n := by
  unfold slc
  simp only [Option.elim, clipAt_nat, List.drop_zero, Nat.sub_zero]
  rcases Nat.le_total n l.length with h | h
  · rw [Nat.min_eq_left h]
  · rw [Nat.min_eq_right h, List.take_of_length_le h, List.take_of_length_le (Nat.le_refl _)]
theorem slice_drop (l : List Nat) (n : Nat) : Txt.slice (S l) (some (n : Int)) none = S (l.drop n) := by
  rw [slice_eq]
  exact congrArg S (slc_drop l n)
theorem slice_take (l : List Nat) (n : Nat) : Txt.slice (S l) none (some (n : Int)) = S (l.take n) := by
  rw [slice_eq]
  exact congrArg S (slc_take l n)
theorem slice_one (l : List Nat) : Txt.slice (S l) (some 1) none = S (l.drop 1) := slice_drop l 1

def dmL (a b : List Nat) : Bool := if a = b then true else hdnL a && occL a b && (b.head? == some 46) && hdnL (b.drop 1)
theorem dmatch_eq (A B : Str) (a b : List Nat) (ha : Txt.lower A = S a) (hb : Txt.lower B = S b) : dmatch A B = dmL a b := by
  unfold dmatch dmL
  rw [ha, hb, hdn_eq, rfind_eq, starts_eq, slice_one b, hdn_eq]
  by_cases h : a = b
  · rw [if_pos h, if_pos (S_inj.mpr h)]
  · rw [if_neg h, if_neg (fun q => h (S_inj.mp q))]

/-! case -/
theorem placed_eq (l : List Nat) (f : Nat → Nat → List Nat) (g : Nat → List Nat) (h : ∀ i c, l[i]? = some c → f i c = g c) : (⟨placed (S l) f⟩ : Str) = S (l.flatMap g) := by
  unfold placed
  congr 1
  apply Array.ext'
  have e : ((S l).cps.mapIdx fun i c => (f i c).toArray).toList = l.map fun c => (g c).toArray := by
    apply List.ext_getElem?
    intro i
    simp only [Array.toList_mapIdx, List.getElem?_mapIdx, List.getElem?_map]
    cases hc : l[i]? with
    | none => simp [hc]
    | some c => simp [hc, h i c hc]
  rw [Array.toList_flatten, e, List.flatMap, List.map_map]
  congr 1
theorem lower_eq (l : List Nat) (hs : ∀ c ∈ l, c ≠ 0x3A3) : Txt.lower (S l) = S (l.flatMap Unicode.lowerOf) := by
  unfold Txt.lower
  refine placed_eq l _ _ fun i c hc => ?_
  unfold Unicode.lowerAt
  have : (S l).cps[i]? = some c := by simpa using hc
  rw [this]
  have hne := hs c (List.mem_of_getElem? hc)
  simp [hne]
theorem upper_eq (l : List Nat) : Txt.upper (S l) = S (l.flatMap Unicode.upperOf) := placed_eq l _ _ fun _ _ _ => rfl
end Mine

end
section
open PySem PySem.W PyProof.Rows PySem.Calls PySem.Sre PySem.Builtin.Str
namespace Mine
set_option linter.all false
set_option maxRecDepth 100000

/-! rows of labels -/
def flat : List (List Nat) → List Nat
  | [] => []
  | r :: rs => 46 :: (r ++ flat rs)
def joinL : List (List Nat) → List Nat
  | [] => []
  | r :: rs => r ++ flat rs
/-- no dot, no new line, not empty -/
def Lab (r : List Nat) : Prop := r ≠ [] ∧ 46 ∉ r ∧ 10 ∉ r
def Labs (rs : List (List Nat)) : Prop := ∀ r ∈ rs, Lab r

theorem trialL_cons (c : Nat) (r : List Nat) : trialL (c :: r) = (c == 46 && headEnd r) := by
  by_cases h : c = 46
  · subst h
    cases r <;> rfl
  · have : trialL (c :: r) = false := by
      unfold trialL
      split
      · rename_i h'; exact absurd (List.cons.inj h').1 h
      · rfl
    rw [this]; simp [h]
theorem anyL_nodot : ∀ (a b : List Nat), 46 ∉ a → anyL (a ++ b) = anyL b
  | [], _, _ => rfl
  | c :: a, b, h => by
    rw [List.cons_append, anyL, trialL_cons, anyL_nodot a b (fun q => h (List.mem_cons_of_mem _ q))]
    have : (c == 46) = false := by simpa using fun e : c = 46 => h (by rw [e]; exact List.mem_cons_self)
    rw [this]; rfl
theorem digEnd_dot : ∀ (a b : List Nat), 10 ∉ a → digEnd (a ++ 46 :: b) = false
  | [], b, _ => by rw [List.nil_append, digEnd, show isDigit 46 = false from by decide]; simp
  | c :: a, b, h => by
    rw [List.cons_append, digEnd, digEnd_dot a b (fun q => h (List.mem_cons_of_mem _ q))]
    simp
theorem headEnd_dot (a b : List Nat) (h : 10 ∉ a) : headEnd (a ++ 46 :: b) = false := by
  cases a with
  | nil => rw [List.nil_append, headEnd, show isDigit 46 = false from by decide]; rfl
  | cons c a =>
    rw [List.cons_append, headEnd, digEnd_dot a b (fun q => h (List.mem_cons_of_mem _ q)), Bool.and_false]
theorem digEnd_all : ∀ (a : List Nat), 10 ∉ a → digEnd a = a.all isDigit
  | [], _ => rfl
  | c :: a, h => by
    have : (c == 10) = false := by simpa using fun e : c = 10 => h (by rw [e]; exact List.mem_cons_self)
    rw [digEnd, digEnd_all a (fun q => h (List.mem_cons_of_mem _ q)), this, List.all_cons]; simp
theorem headEnd_all (a : List Nat) (hne : a ≠ []) (h : 10 ∉ a) : headEnd a = a.all isDigit := by
  cases a with
  | nil => exact absurd rfl hne
  | cons c a => rw [headEnd, digEnd_all a (fun q => h (List.mem_cons_of_mem _ q)), List.all_cons]

/-- the last label is a number -/
def lastNum (rs : List (List Nat)) : Bool := match rs.getLast? with
  | some r => r.all isDigit
  | none => false
theorem lastNum_cons (r : List Nat) (rs : List (List Nat)) : lastNum (r :: rs) = if rs = [] then r.all isDigit else lastNum rs := by
  cases rs with
  | nil => rfl
  | cons a b => unfold lastNum; rw [List.getLast?_cons_cons]; simp

theorem anyL_flat : ∀ (rs : List (List Nat)), Labs rs → anyL (flat rs) = lastNum rs
  | [], _ => rfl
  | r :: rs, h => by
    obtain ⟨h1, h2, h3⟩ := h r List.mem_cons_self
    have hr : Labs rs := fun x hx => h x (List.mem_cons_of_mem _ hx)
    rw [flat, anyL, trialL_cons, anyL_nodot _ _ h2, anyL_flat rs hr, lastNum_cons]
    cases rs with
    | nil => rw [if_pos rfl, flat, List.append_nil, headEnd_all r h1 h3]; simp [lastNum]
    | cons a b => rw [if_neg (by simp), flat, headEnd_dot _ _ h3]; simp
theorem anyL_join (r : List Nat) (rs : List (List Nat)) (h : Labs (r :: rs)) : anyL (joinL (r :: rs)) = (!rs.isEmpty && lastNum (r :: rs)) := by
  obtain ⟨h1, h2, h3⟩ := h r List.mem_cons_self
  rw [joinL, anyL_nodot _ _ h2, anyL_flat rs (fun x hx => h x (List.mem_cons_of_mem _ hx)), lastNum_cons]
  cases rs with
  | nil => rfl
  | cons a b => rw [if_neg (by simp)]; simp

theorem flat_last : ∀ (rs : List (List Nat)), Labs rs → rs ≠ [] → (flat rs).getLast? ≠ some 46
  | [], _, h => absurd rfl h
  | r :: rs, h, _ => by
    obtain ⟨h1, h2, h3⟩ := h r List.mem_cons_self
    have hr : Labs rs := fun x hx => h x (List.mem_cons_of_mem _ hx)
    rw [flat]
    cases rs with
    | nil =>
      rw [flat, List.append_nil, List.getLast?_cons, List.getLast?_eq_some_getLast h1]
      intro e
      simp at e
      exact h2 (by rw [← e]; exact List.getLast_mem _)
    | cons a b =>
      have := flat_last (a :: b) hr (by simp)
      intro e
      apply this
      rw [← e, List.getLast?_cons, List.getLast?_append]
      have hne : flat (a :: b) ≠ [] := by simp [flat]
      rw [List.getLast?_eq_some_getLast hne]; simp
theorem join_ends (r : List Nat) (rs : List (List Nat)) (h : Labs (r :: rs)) : (joinL (r :: rs)).head? ≠ some 46 ∧ (joinL (r :: rs)).getLast? ≠ some 46 ∧ joinL (r :: rs) ≠ [] := by
  obtain ⟨h1, h2, h3⟩ := h r List.mem_cons_self
  rw [joinL]
  refine ⟨?_, ?_, by simp [h1]⟩
  · cases r with
    | nil => exact absurd rfl h1
    | cons c r => simp; exact fun e => h2 (by rw [e]; exact List.mem_cons_self)
  · cases rs with
    | nil =>
      rw [flat, List.append_nil, List.getLast?_eq_some_getLast h1]
      intro e; simp at e
      exact h2 (by rw [← e]; exact List.getLast_mem _)
    | cons a b =>
      have := flat_last (a :: b) (fun x hx => h x (List.mem_cons_of_mem _ hx)) (by simp)
      have hne : flat (a :: b) ≠ [] := by simp [flat]
      rw [List.getLast?_append, List.getLast?_eq_some_getLast hne]
      intro e
      apply this
      rw [List.getLast?_eq_some_getLast hne]; simpa using e
/-- a row's name is a host's name -/
theorem hdn_join (r : List Nat) (rs : List (List Nat)) (h : Labs (r :: rs)) : hdnL (joinL (r :: rs)) = !(!rs.isEmpty && lastNum (r :: rs)) := by
  obtain ⟨h1, h2, h3⟩ := join_ends r rs h
  unfold hdnL
  rw [anyL_join r rs h]
  have e1 : (joinL (r :: rs)).isEmpty = false := by simpa using h3
  have e2 : ((joinL (r :: rs)).head? == some 46) = false := by simpa using h1
  have e3 : ((joinL (r :: rs)).getLast? == some 46) = false := by simpa using h2
  rw [e1, e2, e3]; simp

/-! a row within a row -/
def preR : List (List Nat) → List (List Nat) → Bool
  | [], _ => true
  | _ :: _, [] => false
  | [o], r :: _ => o.isPrefixOf r
  | o :: os, r :: rs => decide (o = r) && preR os rs

def Dotted (a : List Nat) : Prop := a = [] ∨ ∃ b, a = 46 :: b
theorem flat_dotted (rs : List (List Nat)) : Dotted (flat rs) := by
  cases rs with
  | nil => exact .inl rfl
  | cons r rs => exact .inr ⟨_, rfl⟩

theorem prefix_at : ∀ (o r A B : List Nat), 46 ∉ o → 46 ∉ r → Dotted A → Dotted B → ((o ++ A) <+: (r ++ B) ↔ if A = [] then o <+: r else o = r ∧ A <+: B)
  | [], r, A, B, _, hr, hA, hB => by
    rcases hA with rfl | ⟨a, rfl⟩
    · simp
    · rw [if_neg (by simp), List.nil_append]
      cases r with
      | nil => simp
      | cons c r =>
        simp only [List.cons_append, List.cons_prefix_cons]
        constructor
        · rintro ⟨e, _⟩; exact absurd (by rw [← e]; exact List.mem_cons_self) hr
        · rintro ⟨e, _⟩; cases e
  | d :: o, [], A, B, ho, _, hA, hB => by
    have l : ¬ ((d :: o ++ A) <+: ([] ++ B)) := by
      rcases hB with rfl | ⟨b, rfl⟩
      · simp
      · simp only [List.nil_append, List.cons_append, List.cons_prefix_cons]
        rintro ⟨e, _⟩; exact ho (by rw [e]; exact List.mem_cons_self)
    constructor
    · exact fun h => absurd h l
    · intro h
      split at h
      · simp at h
      · cases h.1
  | d :: o, c :: r, A, B, ho, hr, hA, hB => by
    have ih := prefix_at o r A B (fun q => ho (List.mem_cons_of_mem _ q)) (fun q => hr (List.mem_cons_of_mem _ q)) hA hB
    simp only [List.cons_append, List.cons_prefix_cons]
    rw [ih]
    split
    · simp
    · simp [and_assoc]

theorem flat_nil {rs : List (List Nat)} : flat rs = [] ↔ rs = [] := by cases rs <;> simp [flat]

theorem flat_prefix : ∀ (os rs : List (List Nat)), Labs os → Labs rs → (flat os <+: flat rs ↔ preR os rs = true)
  | [], rs, _, _ => by simp [flat, preR]
  | o :: os, [], _, _ => by simp [flat, preR]
  | o :: os, r :: rs, ho, hr => by
    have ho1 := ho o List.mem_cons_self
    have hr1 := hr r List.mem_cons_self
    have ih := flat_prefix os rs (fun x hx => ho x (List.mem_cons_of_mem _ hx)) (fun x hx => hr x (List.mem_cons_of_mem _ hx))
    rw [flat, flat, List.cons_prefix_cons, prefix_at o r _ _ ho1.2.1 hr1.2.1 (flat_dotted os) (flat_dotted rs)]
    simp only [true_and, flat_nil]
    cases os with
    | nil => rw [if_pos rfl]; simp [preR, List.isPrefixOf_iff_prefix]
    | cons p ps => rw [if_neg (by simp), ih]; simp [preR]

/-- where a dotted text begins in a row's name -/
theorem occ_flat : ∀ (rs : List (List Nat)) (os : List (List Nat)), Labs rs → os ≠ [] → ((∃ i, flat os <+: (flat rs).drop i) ↔ ∃ t, t < rs.length ∧ flat os <+: flat (rs.drop t))
  | [], os, _, hos => by
    constructor
    · rintro ⟨i, h⟩
      cases os with
      | nil => exact absurd rfl hos
      | cons o os => simp [flat] at h
    · rintro ⟨t, h, _⟩; simp at h
  | r :: rs, os, hr, hos => by
    have ih := occ_flat rs os (fun x hx => hr x (List.mem_cons_of_mem _ hx)) hos
    obtain ⟨h1, h2, _⟩ := hr r List.mem_cons_self
    obtain ⟨b, hb⟩ : ∃ b, flat os = 46 :: b := by
      cases os with
      | nil => exact absurd rfl hos
      | cons o os => exact ⟨_, rfl⟩
    constructor
    · rintro ⟨i, h⟩
      cases i with
      | zero => exact ⟨0, by simp, h⟩
      | succ i =>
        rw [flat, List.drop_succ_cons] at h
        by_cases hi : i < r.length
        · rw [List.drop_append_of_le_length (by omega), List.drop_eq_getElem_cons hi, hb, List.cons_append, List.cons_prefix_cons] at h
          exact absurd (by rw [h.1]; exact List.getElem_mem hi) h2
        · rw [List.drop_append, List.drop_eq_nil_of_le (by omega), List.nil_append] at h
          obtain ⟨t, ht, hp⟩ := ih.mp ⟨_, h⟩
          exact ⟨t + 1, by simpa using ht, by simpa using hp⟩
    · rintro ⟨t, ht, hp⟩
      cases t with
      | zero => exact ⟨0, hp⟩
      | succ t =>
        obtain ⟨i, hi⟩ := ih.mpr ⟨t, by simpa using ht, by simpa using hp⟩
        refine ⟨i + (r.length + 1), ?_⟩
        rw [flat, show i + (r.length + 1) = (r.length + i) + 1 by omega, List.drop_succ_cons, List.drop_append, List.drop_eq_nil_of_le (by omega), List.nil_append, show r.length + i - r.length = i by omega]
        exact hi

theorem occL_iff (a b : List Nat) (hb : b ≠ []) : occL a b = true ↔ ∃ i, 1 ≤ i ∧ b <+: a.drop i := by
  unfold occL
  rw [List.any_eq_true]
  constructor
  · rintro ⟨i, _, h⟩
    rw [Bool.and_eq_true] at h
    exact ⟨i, of_decide_eq_true h.1, List.isPrefixOf_iff_prefix.mp h.2⟩
  · rintro ⟨i, h1, h2⟩
    have : i ≤ a.length := by
      rcases Nat.lt_or_ge a.length i with q | q
      · rw [List.drop_eq_nil_of_le (by omega)] at h2
        exact absurd (List.prefix_nil.mp h2) hb
      · exact q
    exact ⟨i, by simp; omega, by rw [Bool.and_eq_true]; exact ⟨decide_eq_true h1, List.isPrefixOf_iff_prefix.mpr h2⟩⟩

/-- a dotted row within a row's name -/
theorem occ_join (r : List Nat) (rs os : List (List Nat)) (h : Labs (r :: rs)) (hos : os ≠ []) (ho : Labs os) : occL (joinL (r :: rs)) (flat os) = (List.range rs.length).any fun t => preR os (rs.drop t) := by
  obtain ⟨h1, h2, _⟩ := h r List.mem_cons_self
  have hrs : Labs rs := fun x hx => h x (List.mem_cons_of_mem _ hx)
  have hne : flat os ≠ [] := fun e => hos (flat_nil.mp e)
  obtain ⟨b, hb⟩ : ∃ b, flat os = 46 :: b := (flat_dotted os).resolve_left hne
  rw [Bool.eq_iff_iff, occL_iff _ _ hne, List.any_eq_true]
  have key : (∃ i, 1 ≤ i ∧ flat os <+: (joinL (r :: rs)).drop i) ↔ ∃ i, flat os <+: (flat rs).drop i := by
    rw [joinL]
    constructor
    · rintro ⟨i, _, h⟩
      by_cases hi : i < r.length
      · rw [List.drop_append_of_le_length (by omega), List.drop_eq_getElem_cons hi, hb, List.cons_append, List.cons_prefix_cons] at h
        exact absurd (by rw [h.1]; exact List.getElem_mem hi) h2
      · rw [List.drop_append, List.drop_eq_nil_of_le (by omega), List.nil_append] at h
        exact ⟨_, h⟩
    · rintro ⟨i, h⟩
      have : 0 < r.length := List.length_pos_iff.mpr h1
      refine ⟨r.length + i, by omega, ?_⟩
      rw [List.drop_append, List.drop_eq_nil_of_le (by omega), List.nil_append, show r.length + i - r.length = i by omega]
      exact h
  rw [key, occ_flat rs os hrs hos]
  constructor
  · rintro ⟨t, ht, hp⟩
    exact ⟨t, by simpa using ht, (flat_prefix os _ ho (fun x hx => hrs x (List.mem_of_mem_drop hx))).mp hp⟩
  · rintro ⟨t, ht, hp⟩
    exact ⟨t, by simpa using ht, (flat_prefix os _ ho (fun x hx => hrs x (List.mem_of_mem_drop hx))).mpr hp⟩

/-! ascii letters -/
def lowA (c : Nat) : Nat := if 65 ≤ c ∧ c ≤ 90 then c + 32 else c
def upA (c : Nat) : Nat := if 97 ≤ c ∧ c ≤ 122 then c - 32 else c
theorem ascii_cases : ∀ c < 128, Unicode.lowerOf c = [lowA c] ∧ Unicode.upperOf c = [upA c] := by decide +kernel
theorem flatMap_one {l : List Nat} {f : Nat → List Nat} {g : Nat → Nat} (h : ∀ c ∈ l, f c = [g c]) : l.flatMap f = l.map g := by
  induction l with
  | nil => rfl
  | cons c r ih =>
    rw [List.flatMap_cons, h c List.mem_cons_self, ih fun x hx => h x (List.mem_cons_of_mem _ hx)]
    rfl
theorem lower_ascii (l : List Nat) (hl : ∀ c ∈ l, c < 128) : Txt.lower (S l) = S (l.map lowA) := by
  rw [lower_eq l fun c hc => by have := hl c hc; omega, flatMap_one fun c hc => (ascii_cases c (hl c hc)).1]
theorem upper_ascii (l : List Nat) (hl : ∀ c ∈ l, c < 128) : Txt.upper (S l) = S (l.map upA) := by
  rw [upper_eq l, flatMap_one fun c hc => (ascii_cases c (hl c hc)).2]
theorem flat_map (f : Nat → Nat) (hf : f 46 = 46) : ∀ rs : List (List Nat), (flat rs).map f = flat (rs.map (List.map f))
  | [] => rfl
  | r :: rs => by simp [flat, hf, flat_map f hf rs]
theorem join_map (f : Nat → Nat) (hf : f 46 = 46) (rs : List (List Nat)) : (joinL rs).map f = joinL (rs.map (List.map f)) := by
  cases rs with
  | nil => rfl
  | cons r rs => simp [joinL, flat_map f hf rs]

theorem join_flat : ∀ (rs : List (List Nat)) (r : List Nat), Str.join "." ((r :: rs).map S) = S (r ++ flat rs)
  | [], r => by rw [flat, List.append_nil]; rfl
  | a :: rs, r => by
    have ih := join_flat rs a
    show S r ++ "." ++ Str.join "." ((a :: rs).map S) = _
    rw [ih, show ("." : Str) = S [46] from rfl, ← S_app, ← S_app]
    simp [flat]
theorem join_eq (rs : List (List Nat)) : Txt.join "." (rs.map S) = S (joinL rs) := by
  unfold Txt.join
  rw [StrLaws.glued_eq_join]
  cases rs with
  | nil => rfl
  | cons r rs => exact join_flat rs r
end Mine

end
section
open PySem PySem.W PyProof.Rows PySem.Calls
namespace Mine
set_option linter.all false
set_option maxRecDepth 100000

theorem AG.freezeTo {α β : Type} {R : RelT α β} {C : Ctx} {t : Sem α} {st : St} {Q : β → St → Prop} (hC : Ok C) {i : Nat} {xs : List PyData} (st' : St) (hi : st.σ[i]? = some (some (xs.map .dat)))
    (hm : ∀ x d, st'.m.lookup x = some d → (st.m.lookup x).map (PV.sub i xs) = some d) (hσ : st'.σ = (st.freeze i xs).σ) (h : AG R C t st' Q) : AG R C t st Q :=
  AG.freeze hC i hi (AG.weak ⟨hσ, fun x d e => by rw [St.freeze, lookup_map_sub]; exact hm x d e⟩ h)

def okB (ks : List (Str × NameKind)) (scope : Scope) (x : Str) : Bool :=
  scope.kind == .function && scope.names.all (fun y => !(y.2 == .cell)) && scope.names.all (fun y => !(y.2 == .free) || ks.lookup y.1 == some .cell) && (compKinds scope.names).lookup x == some .local && scope.names.all (fun y => !(y.2 == .local) || scope.names.lookup y.1 == some .local)
def CapOk (names : List (Str × NameKind)) (st : St) (cap : List (Str × PV)) : Prop := ∀ y dy, cap.lookup y = some dy → st.m.lookup y = some dy ∧ dy.fz = true ∧ (compKinds names).lookup y = some .cell ∧ (y, NameKind.free) ∈ names
theorem CapOk.nil {names : List (Str × NameKind)} {st : St} : CapOk names st [] := fun _ _ h => nomatch h
theorem CapOk.cons {names : List (Str × NameKind)} {st : St} {cap : List (Str × PV)} {y : Str} {d : PV} (h1 : st.m.lookup y = some d) (h2 : d.fz = true) (h3 : (compKinds names).lookup y = some .cell) (h4 : names.contains (y, NameKind.free) = true) (hr : CapOk names st cap) : CapOk names st ((y, d) :: cap) := fun z dz h => by
  rw [List.lookup_cons] at h
  cases e : z == y with
  | true =>
    rw [e] at h
    cases h
    have : z = y := by simpa using e
    subst this
    exact ⟨h1, h2, h3, by simpa using h4⟩
  | false => rw [e] at h; exact hr z dz h
theorem okB_free {ks : List (Str × NameKind)} {scope : Scope} {x : Str} (h : okB ks scope x = true) : (∀ y, (y, NameKind.free) ∈ scope.names → ks.lookup y = some .cell) ∧ scope.kind = .function ∧ ∀ y ∈ scope.names, y.2 = .local → scope.names.lookup y.1 = some .local := by
  unfold okB at h
  simp only [Bool.and_eq_true, List.all_eq_true, beq_iff_eq, Bool.or_eq_true, Bool.not_eq_true', beq_eq_false_iff_ne] at h
  obtain ⟨⟨⟨⟨h1, h2⟩, h3⟩, h4⟩, h5⟩ := h
  exact ⟨fun y hy => (h3 (y, .free) hy).resolve_left (fun q => q rfl), h1, fun y hy q => (h5 y hy).resolve_left (fun z => z q)⟩
theorem okB_ok {ks : List (Str × NameKind)} {scope : Scope} {x : Str} {cap : List (Str × PV)} {st : St} (h : okB ks scope x = true) (hc : CapOk scope.names st cap) : CompOk ks scope x cap st := by
  obtain ⟨a, b, c⟩ := okB_free h
  unfold okB at h
  simp only [Bool.and_eq_true, List.all_eq_true, beq_iff_eq, Bool.or_eq_true, Bool.not_eq_true', beq_eq_false_iff_ne] at h
  obtain ⟨⟨⟨⟨h1, h2⟩, h3⟩, h4⟩, h5⟩ := h
  exact ⟨b, fun y hy => h2 y hy, a, h4, hc, c⟩

section
variable {prog : Program} {w : World} {K : Frag} {ks : List (Str × NameKind)} {n : Nat} {wr : Bool} {C : Ctx} {st : St}

/-- a list comprehension -/
theorem AE_Comp {Q : PV → St → Prop} (hIn : In prog w (Base K) ks n wr C) {elt iter : Expr} {x : Str} {px pos : Pos} {ifs : List Expr} {scope : Scope} (cap : List (Str × PV)) (hok : okB ks scope x = true)
    (h : AE C iter st fun d st₁ => ∃ xs f, AItr C d xs st₁ ∧ CapOk scope.names st₁ cap ∧ xs.length ≤ sizeLine ∧ (∀ C', In prog w (Base K) (compKinds scope.names) n false C' → ∀ y ∈ xs, CompStep C' x ifs elt cap y (f y)) ∧ Q (.dat (.list (xs.filterMap f))) st₁)
    (hs : ∀ x, foldedSetIterable iter C.env x = pure x := by intro _; rfl) : AE C (.ListComp elt [⟨.Name x px, iter, ifs, 0⟩] scope pos) st Q :=
  AE_ListComp hIn (fun h h' hk x => x.keeps h h' hk) cap (h.mono fun d st₁ ⟨xs, f, h1, h2, h3, h4, h5⟩ => ⟨xs, f, h1, okB_ok hok h2, h3, h4, h5⟩) hs

theorem swaps_yes (hIn : In prog w (Base K) ks n wr C) {elt : Expr} {gs : List Comprehension} {scope : Scope} {pos : Pos} {y : Str} {py : Pos} {line : Nat} (hk : ks.lookup y = some .local) (hp : (py.line == pos.line) = true) (hy : (scope.names.any fun p => p.1 == y && (p.2 == .local || p.2 == .cell)) = false) :
    swapsWith (.ListComp elt gs scope pos) (some (.Name y py)) line C.env = pure true := by
  have e1 : C.env.blockKind = .function := by unfold Env.blockKind; rw [hIn.ok.kind]; rfl
  have e2 := hIn.kinds _ _ hk
  show (do pure (C.env.blockKind == .function && C.env.kindOf y == some .local && py.line == pos.line && !(scope.names.any fun (n, k) => n == y && (k == .local || k == .cell))) : Sem Bool) = _
  have e3 : (scope.names.any fun (n, k) => n == y && (k == .local || k == .cell)) = false := hy
  rw [e1, e2, hp, e3]; rfl
theorem swaps_no (hIn : In prog w (Base K) ks n wr C) {elt : Expr} {gs : List Comprehension} {scope : Scope} {pos : Pos} {y : Str} {py : Pos} {line : Nat} (hk : ks.lookup y = some .cell) :
    swapsWith (.ListComp elt gs scope pos) (some (.Name y py)) line C.env = pure false := by
  have e2 := hIn.kinds _ _ hk
  show (do pure (C.env.blockKind == .function && C.env.kindOf y == some .local && py.line == pos.line && !(scope.names.any fun (n, k) => n == y && (k == .local || k == .cell))) : Sem Bool) = _
  rw [e2]
  cases C.env.blockKind == .function <;> rfl

/-- name = [..] on one line -/
theorem AX_AsgComp {Q : Fl → St → Prop} (hIn : In prog w (Base K) ks n wr C) {elt iter : Expr} {x y : Str} {px py pos spos : Pos} {ifs : List Expr} {scope : Scope} (cap : List (Str × PV)) (hok : okB ks scope x = true)
    (hk : ks.lookup y = some .local) (hp : (py.line == pos.line) = true) (hy : (scope.names.any fun p => p.1 == y && (p.2 == .local || p.2 == .cell)) = false)
    (h : AE C iter st fun d st₁ => ∃ xs f, AItr C d xs st₁ ∧ CapOk scope.names st₁ cap ∧ xs.length ≤ sizeLine ∧ (∀ C', In prog w (Base K) (compKinds scope.names) n false C' → ∀ y ∈ xs, CompStep C' x ifs elt cap y (f y)) ∧ ASt C y (.dat (.list (xs.filterMap f))) st₁ fun st₂ => Q .next st₂)
    (hs : ∀ x, foldedSetIterable iter C.env x = pure x := by intro _; rfl) : AX C (.Assign [.Name y py] (.ListComp elt [⟨.Name x px, iter, ifs, 0⟩] scope pos) spos) st Q :=
  AX_AssignComp hIn (fun h h' hk x => x.keeps h h' hk) cap (okB_free hok) (h.mono fun d st₁ ⟨xs, f, h1, h2, h3, h4, h5⟩ => ⟨xs, f, h1, okB_ok hok h2, h3, h4, h5⟩) (swaps_yes hIn hk hp hy) hs
end
end Mine

end
section
open PySem PySem.W PyProof.Rows PySem.Calls
namespace Mine
set_option linter.all false
set_option maxRecDepth 100000

theorem setItem_plain {prog : Program} {w : World} {A : Around} {E : Value → Shared → Prop} {s : Shared} {l : Addr} {items : Array Value} {k : Int} {t : Tok} {v : Value} {Q : Unit → Shared → Prop} (hl : s.heap.PlainList l items) (h0 : 0 ≤ k) (hfit : k < 2 ^ 63) (hn : k < items.size)
    (hQ : ∀ h', h'.PlainList l (items.setIfInBounds k.toNat v) → Heap.SameBut l s.heap h' → Q () { s with heap := h' }) : wpAny (model prog w) A (setItem (.ref l) (.int k t) v) Q E s := by
  obtain ⟨n, ho⟩ := hl
  have hty : s.TypeIs (.ref l) "list" := ⟨_, ho, rfl⟩
  unfold setItem
  try with_reducible refine wpAny_holding ?_
  first | refine wpAny_bind (wpAny_pure ?_) | skip
  refine wpAny_bind (wpAny_sequenceKey hty (by decide) ?_)
  refine wpAny_bind (wpAny_callSpecial?_slot (name := Str.ofString "__setitem__") hty slot_list_setitem (wpAny_call_entry slot_list_setitem hty entry_list_setitem ?_ (args_list_setitem _ _ _)))
  show wpAny _ _ (Builtin.List.listSubscript? (.int k t) >>= _) _ _ s
  refine wpAny_bind (wpAny_listSubscript_int (fitsIndex_of h0 hfit) ?_)
  clear hfit
  obtain ⟨j, rfl⟩ := Int.eq_ofNat_of_zero_le h0
  have hj : j < items.size := by omega
  have hx' : items[j]? = some items[j] := Array.getElem?_eq_getElem hj
  show wpAny _ _ ((seqItemAt l j >>= fun r => pure (r.map (j, ·))) >>= _) _ _ s
  refine wpAny_bind (wpAny_bind (wpAny_seqItemAt ho rfl (wpAny_pure ?_)))
  rw [hx']
  show wpAny _ _ (setSeqItemAt l j v >>= _) _ _ s
  have em : Obj.mapSeq (·.setIfInBounds j v) { cls := .type "list", data := .seq items n } = { cls := .type "list", data := .seq (items.setIfInBounds j v) n } := by simp [Obj.mapSeq]
  have hfin : (s.heap.update l (Obj.mapSeq (·.setIfInBounds j v))).PlainList l (items.setIfInBounds j v) :=
    ⟨n, by rw [Heap.get?_update_self _ ho (by rw [em]; rfl), em]⟩
  refine wpAny_bind (wpAny_setSeqItemAt ho rfl ?_)
  first
    | exact wpAny_bind (wpAny_pure (wpAny_pure ⟨.none, rfl, wpAny_pure (hQ _ hfin (Heap.SameBut.update ..))⟩))
    | exact wpAny_pure ⟨.none, rfl, wpAny_pure (hQ _ hfin (Heap.SameBut.update ..))⟩

section
variable {C : Ctx} {st : St}

/-- name[i] = value, at an own list -/
theorem AX_SetItem (hC : Ok C) {Q : Fl → St → Prop} {o i e : Expr} {pos' pos : Pos} (h : AE C e st fun d st₁ => AE C o st₁ fun od st₂ => AE C i st₂ fun id st₃ => ∃ (a : Nat) (l : List PV) (k : Nat), od = .own a ∧ id = pint (k : Int) ∧ st₃.σ[a]? = some (some l) ∧ k < l.length ∧ l.length ≤ sizeLine ∧ Q .next (st₃.upd a (l.set k d)))
    (hs : swapsWith e (some (.Subscript o i pos')) pos.line C.env = pure false := by rfl) : AX C (.Assign [.Subscript o i pos'] e pos) st Q := fun s ρ I => by
  refine wpAny_Assign_Subscript ?_ hs
  refine h.use I fun v s₁ d st₁ ρ₁ I₁ L₁ r₁ h₁ => h₁.use I₁ fun ov s₂ od st₂ ρ₂ I₂ L₂ r₂ h₂ => h₂.use I₂ fun iv s₃ id st₃ ρ₃ I₃ L₃ r₃ ⟨a, l, k, e1, e2, ha, hk, hsz, hq⟩ => ?_
  subst e1 e2
  obtain ⟨t, rfl⟩ := rep_int r₃
  obtain ⟨b, vs, rfl, hb, hl, hr⟩ := rep_own I₃ ha (r₂.grow (I₂.grow hC L₃))
  have hlen := repAll_len hr
  rw [sizeLine_eq] at hsz
  refine setItem_plain hl (by omega) (by omega) (by rw [List.size_toArray]; omega) fun h' hl' hs' => ?_
  have e3 : vs.toArray.setIfInBounds (k : Int).toNat v = (vs.set k v).toArray := by simp
  rw [e3] at hl'
  have J := I₃.upd hC (l' := l.set k d) (tk := s₃.toks) ha hb hl' hs' (repAll_set ((r₁.grow (I₁.grow hC L₂)).grow (I₂.grow hC L₃)) k hr) (Nat.le_refl _)
  exact ⟨.next, _, ρ₃, J.1, ((L₁.trans L₂).trans L₃).trans J.2, trivial, hq⟩

theorem ACall_max {Q : PV → St → Prop} (hC : Ok C) {a b : Int} (h : Q (pint (if b > a then b else a)) st) : ACallB C "max" [pint a, pint b] st Q := fun vs s ρ I rr => by
  obtain ⟨v, u, rfl, r, r'⟩ := rep2 rr; obtain ⟨t, rfl⟩ := rep_int r; obtain ⟨t', rfl⟩ := rep_int r'
  refine grown (max_two_ints hC.handled fun h' tk hk htk => ?_)
  have J := I.keeps hC (h' := h') (tk := tk) hk htk
  refine ⟨_, st, ρ, J.1, J.2, ?_, h⟩
  by_cases c : b > a
  · rw [if_pos c, if_pos c]; exact repI
  · rw [if_neg c, if_neg c]; exact repI

/-- a, b = value -/
theorem AX_AsgTuple {Q : Fl → St → Prop} {ts : List Expr} {k : Nat} {tpos pos : Pos} {e : Expr} (h : AE C e st fun d st₁ => AAsg C (.Tuple ts k tpos) d st₁ fun st₂ => Q .next st₂)
    (hs : swapsWithSole [.Tuple ts k tpos] e pos.line C.env = pure false := by rfl) (hw : swappedStores [.Tuple ts k tpos] e C.env = pure none := by rfl) : AX C (.Assign [.Tuple ts k tpos] e pos) st Q := fun s ρ I =>
  Assign_Tuple (h.use I fun v s₁ d st₁ ρ₁ I₁ L₁ r₁ h₁ => wpAny_mono (h₁ v s₁ ρ₁ I₁ r₁) (fun _ s₂ ⟨st₂, ρ₂, I₂, L₂, h₂⟩ => ⟨.next, st₂, ρ₂, I₂, L₁.trans L₂, trivial, h₂⟩) fun _ _ x => x) hs hw
end
end Mine

end
section
open PySem PySem.W PyProof.Rows
set_option Elab.async false
set_option maxRecDepth 100000
set_option maxHeartbeats 8000000
namespace Mine
open_top hd for PySem.Challenge.rw_dm0156_04
end Mine

end
section
open PySem PySem.W PyProof.Rows PySem.Calls
set_option linter.all false
set_option Elab.async false
set_option maxRecDepth 100000
set_option maxHeartbeats 8000000
namespace Mine
noncomputable abbrev KK (w : World) : Frag := hd.heap_39 w.params
local macro_rules | `(tactic| walk_at "s") => `(tactic| first | assumption | omega | decide | (simp only [List.length_map, List.length_append, List.length_cons, List.length_nil, S_len, sizeLine_eq]; omega) | (rw [sizeLine_eq]; omega) | (refine Nat.le_trans (by assumption) ?_; decide))
local macro_rules | `(tactic| walk_at "name") => `(tactic| first
  | refine AE_loc (by assumption) (by rfl) (by rfl) ?_
  | refine AE_cel (by assumption) (by rfl) (by rfl) ?_
  | refine AE_gF (by assumption) (by rfl) (by rfl) ?_
  | refine AE_gB (by assumption) (by rfl) (by rfl) (by rfl) ?_)
local macro_rules | `(tactic| walk_at "stmt") => `(tactic| first
  | with_reducible refine AS_nil ?_
  | with_reducible refine AS_cons ?_
  | with_reducible refine AX_If ?_
  | with_reducible refine AX_Return ?_
  | with_reducible refine AX_Continue ?_
  | with_reducible refine AX_Break ?_
  | with_reducible refine AX_Pass ?_
  | ((with_reducible show AX _ (Stmt.Assign [Expr.Name _ _] _ _) _ _); refine AX_Assign ?_)
  | ((with_reducible show AX _ (Stmt.Expr _ _) _ _); refine AX_ExprI (In.ok (by assumption)) ?_))
local macro_rules | `(tactic| walk_at "meth") => `(tactic| first
  | ((with_reducible show AE _ (Expr.Call (Expr.Attribute _ "lower" _) _ _ _) _ _); refine AE_meth (id := "str.lower") (In.ok (by assumption)) ?_)
  | ((with_reducible show AE _ (Expr.Call (Expr.Attribute _ "upper" _) _ _ _) _ _); refine AE_meth (id := "str.upper") (In.ok (by assumption)) ?_)
  | ((with_reducible show AE _ (Expr.Call (Expr.Attribute _ "swapcase" _) _ _ _) _ _); refine AE_meth (id := "str.swapcase") (In.ok (by assumption)) ?_)
  | ((with_reducible show AE _ (Expr.Call (Expr.Attribute _ "rfind" _) _ _ _) _ _); refine AE_meth (id := "str.rfind") (In.ok (by assumption)) ?_)
  | ((with_reducible show AE _ (Expr.Call (Expr.Attribute _ "find" _) _ _ _) _ _); refine AE_meth (id := "str.find") (In.ok (by assumption)) ?_)
  | ((with_reducible show AE _ (Expr.Call (Expr.Attribute _ "startswith" _) _ _ _) _ _); refine AE_meth (id := "str.startswith") (In.ok (by assumption)) ?_)
  | ((with_reducible show AE _ (Expr.Call (Expr.Attribute _ "lstrip" _) _ _ _) _ _); refine AE_meth (id := "str.lstrip") (In.ok (by assumption)) ?_)
  | ((with_reducible show AE _ (Expr.Call (Expr.Attribute _ "rstrip" _) _ _ _) _ _); refine AE_meth (id := "str.rstrip") (In.ok (by assumption)) ?_)
  | ((with_reducible show AE _ (Expr.Call (Expr.Attribute _ "isspace" _) _ _ _) _ _); refine AE_meth (id := "str.isspace") (In.ok (by assumption)) ?_)
  | ((with_reducible show AE _ (Expr.Call (Expr.Attribute _ "split" _) _ _ _) _ _); refine AE_meth (id := "str.split") (In.ok (by assumption)) ?_)
  | ((with_reducible show AE _ (Expr.Call (Expr.Attribute _ "join" _) _ _ _) _ _); refine AE_meth (id := "str.join") (In.ok (by assumption)) ?_)
  | ((with_reducible show AE _ (Expr.Call (Expr.Attribute _ "replace" _) _ _ _) _ _); refine AE_meth (id := "str.replace") (In.ok (by assumption)) ?_)
  | ((with_reducible show AE _ (Expr.Call (Expr.Attribute _ "append" _) _ _ _) _ _); refine AE_meth (id := "list.append") (In.ok (by assumption)) ?_)
  | ((with_reducible show AE _ (Expr.Call (Expr.Attribute _ "search" _) _ _ _) _ _); refine AE_meth (id := "re.Pattern.search") (In.ok (by assumption)) ?_))
local macro_rules | `(tactic| walk_at "gm") => `(tactic| with_reducible first
  | refine ⟨AGm_lower, ?_⟩ | refine ⟨AGm_upper, ?_⟩ | refine ⟨AGm_swapcase, ?_⟩ | refine ⟨AGm_rfind, ?_⟩ | refine ⟨AGm_find, ?_⟩ | refine ⟨AGm_startswith, ?_⟩
  | refine ⟨AGm_lstrip, ?_⟩ | refine ⟨AGm_rstrip, ?_⟩ | refine ⟨AGm_isspace, ?_⟩ | refine ⟨AGm_split, ?_⟩ | refine ⟨AGm_join, ?_⟩ | refine ⟨AGm_replace, ?_⟩)
local macro_rules | `(tactic| walk_at "own") => `(tactic| first
  | ((with_reducible show AGm _ (PV.own _) "append" _ _ ∧ _); refine ⟨AGm_append (by rfl), ?_⟩)
  | ((with_reducible show ACallB _ "list.append" _ _ _); refine ACall_append (In.ok (by assumption)) (by rfl) ?hs ?_; (case hs => walk_at "s"))
  | ((with_reducible show ACallB _ "len" [PV.own _] _ _); refine ACall_lenO (In.ok (by assumption)) (by rfl) ?hs ?_; (case hs => walk_at "s"))
  | ((with_reducible show ATru _ (PV.own _) _ _); refine ATru_own (In.ok (by assumption)) (by rfl) ?hs ?_; (case hs => walk_at "s")))
local macro_rules | `(tactic| walk_at "expr") => `(tactic| first
  | with_reducible refine AE_int (In.ok (by assumption)) ?_
  | with_reducible refine AE_str (In.ok (by assumption)) ?_
  | with_reducible refine AE_none (In.ok (by assumption)) ?_
  | with_reducible refine AE_bool (In.ok (by assumption)) ?_
  | ((with_reducible show AE _ (Expr.Name _ _) _ _); walk_at "name")
  | with_reducible refine AE_BinOp (In.ok (by assumption)) ?_
  | ((with_reducible show AE _ (Expr.Compare _ [_] [_] _) _ _); refine AE_Compare (In.ok (by assumption)) ?_)
  | with_reducible refine AE_IfExp ?_
  | with_reducible refine AE_Unary (In.ok (by assumption)) ?_
  | with_reducible refine AE_Slice (In.ok (by assumption)) ?_
  | with_reducible refine AE_Tuple (In.ok (by assumption)) ?_
  | ((with_reducible show AE _ (Expr.Subscript _ _ _) _ _); refine AE_Item (In.ok (by assumption)) ?_)
  | walk_at "meth"
  | ((with_reducible show AE _ (Expr.Call (Expr.Name _ _) _ _ _) _ _); first
      | refine AE_bi (by assumption) (by rfl) (by rfl) (by rfl) ?_
      | refine AE_ty (by assumption) (by rfl) (by rfl) (by rfl) ?_))
local macro_rules | `(tactic| walk_at "test") => `(tactic| first
  | ((with_reducible show AT _ (Expr.Compare _ [_] [_] _) _ _); refine AT_Compare (In.ok (by assumption)) ?_)
  | with_reducible refine AT_not ?_
  | with_reducible refine AAll_nilA ?_
  | with_reducible refine AAll_nilO ?_
  | with_reducible refine AAll_and ?_
  | with_reducible refine AAll_or ?_
  | ((with_reducible show AT _ (Expr.BoolOp _ _ _) _ _); fail "bool")
  | ((with_reducible show AT _ _ _ _); refine AT_plain ?_))
local macro_rules | `(tactic| walk_at "op") => `(tactic| first
  | with_reducible refine iteT ?_
  | with_reducible refine iteF ?_
  | with_reducible refine ATru_bool ?_
  | with_reducible refine ATru_none ?_
  | with_reducible refine ATru_int ?_
  | with_reducible refine ATru_mt ?_
  | (with_reducible refine ATru_str (In.ok (by assumption)) ?hs ?_; (case hs => walk_at "s"))
  | (with_reducible refine ATru_list (In.ok (by assumption)) ?hs ?_; (case hs => walk_at "s"))
  | with_reducible refine ACmp_eqS ?_
  | with_reducible refine ACmp_neS ?_
  | with_reducible refine ACmp_inS ?_
  | with_reducible refine ACmp_notinS ?_
  | with_reducible refine ACmp_eqI ?_
  | with_reducible refine ACmp_neI ?_
  | with_reducible refine ACmp_ltI ?_
  | with_reducible refine ACmp_leI ?_
  | with_reducible refine ACmp_gtI ?_
  | with_reducible refine ACmp_geI ?_
  | with_reducible refine ACmp_isB ?_
  | with_reducible refine ACmp_isnotB ?_
  | with_reducible refine ACmp_isN ?_
  | with_reducible refine ACmp_isnotN ?_
  | with_reducible refine ABin_addI (In.ok (by assumption)) ?_
  | with_reducible refine ABin_subI (In.ok (by assumption)) ?_
  | ((with_reducible show ABin _ Operator.Mod (PV.dat (PyData.int _)) (PV.dat (PyData.int _)) _ _); refine ABin_modI (In.ok (by assumption)) (by decide) ?_)
  | ((with_reducible show ABin _ Operator.FloorDiv (PV.dat (PyData.int _)) (PV.dat (PyData.int _)) _ _); refine ABin_divI (In.ok (by assumption)) (by decide) (by decide) ?_)
  | with_reducible refine AUn_neg (In.ok (by assumption)) ?_
  | (with_reducible refine ABin_addS (In.ok (by assumption)) ?hs ?_; (case hs => walk_at "s"))
  | (with_reducible refine ASl_str (In.ok (by assumption)) ?hs ?_; (case hs => walk_at "s"))
  | (with_reducible refine ASl_list (In.ok (by assumption)) ?hs ?_; (case hs => walk_at "s"))
  | with_reducible refine ABo_last ?_
  | with_reducible refine ABo_and (In.ok (by assumption)) ?_
  | with_reducible refine ABo_or (In.ok (by assumption)) ?_)
local macro_rules | `(tactic| walk_at "row") => `(tactic| first
  | refine ⟨Nat.le_of_ble_eq_true rfl, [], rfl, ?_⟩
  | refine ⟨Nat.le_of_ble_eq_true rfl, [_], rfl, ?_⟩
  | refine ⟨Nat.le_of_ble_eq_true rfl, [_, _], rfl, ?_⟩
  | refine ⟨Nat.le_of_ble_eq_true rfl, [_, _, _], rfl, ?_⟩
  | refine ⟨Nat.le_of_ble_eq_true rfl, [_, _, _, _], rfl, ?_⟩
  | refine ⟨Nat.le_of_ble_eq_true rfl, [_, _, _, _, _], rfl, ?_⟩
  | refine ⟨Nat.le_of_ble_eq_true rfl, [_, _, _, _, _, _], rfl, ?_⟩
  | refine ⟨Nat.le_of_ble_eq_true rfl, [_, _, _, _, _, _, _], rfl, ?_⟩
  | refine ⟨Nat.le_of_ble_eq_true rfl, [_, _, _, _, _, _, _, _], rfl, ?_⟩)
local macro_rules | `(tactic| walk_at "call") => `(tactic| first
  | with_reducible refine AEs_nil ?_
  | ((with_reducible show AEs _ _ (_ :: _) _ _); refine AEs_cons (In.ok (by assumption)) ?_)
  | walk_at "gm"
  | (with_reducible refine ACall_lower (In.ok (by assumption)) ?hs ?_; (case hs => walk_at "s"))
  | (with_reducible refine ACall_upper (In.ok (by assumption)) ?hs ?_; (case hs => walk_at "s"))
  | (with_reducible refine ACall_swapcase (In.ok (by assumption)) ?hs ?_; (case hs => walk_at "s"))
  | with_reducible refine ACall_rfind (In.ok (by assumption)) ?_
  | with_reducible refine ACall_find (In.ok (by assumption)) ?_
  | with_reducible refine ACall_startswith ?_
  | with_reducible refine ACall_isspace ?_
  | (with_reducible refine ACall_lstrip (In.ok (by assumption)) ?hs ?_; (case hs => walk_at "s"))
  | (with_reducible refine ACall_rstrip (In.ok (by assumption)) ?hs ?_; (case hs => walk_at "s"))
  | (with_reducible refine ACall_lenS (In.ok (by assumption)) ?hs ?_; (case hs => walk_at "s"))
  | (with_reducible refine ACall_lenL (In.ok (by assumption)) ?hs ?_; (case hs => walk_at "s"))
  | with_reducible refine ACall_sum (In.ok (by assumption)) ?_
  | with_reducible refine ACall_range1 (In.ok (by assumption)) ?_
  | with_reducible refine ACall_range2 (In.ok (by assumption)) ?_)
local macro_rules | `(tactic| walk_at "store") => `(tactic| first
  | ((with_reducible show ASt _ _ _ _ _); first | refine ASt_loc (by assumption) (by rfl) ?_ | refine ASt_cel (by assumption) (by rfl) ?_)
  | with_reducible refine AAsg_name ?_)
local macro_rules | `(tactic| walk_at "slice") => `(tactic| first
  | with_reducible refine AOpt_none ?_
  | with_reducible refine AOpt_some ?_
  | with_reducible refine exInt ?_)
local macro_rules | `(tactic| walk_at "m1") => `(tactic| first
  | walk_at "stmt" | walk_at "test" | walk_at "slice" | walk_at "expr" | walk_at "own" | walk_at "call" | walk_at "op" | walk_at "store" | dsimp only)
local macro_rules | `(tactic| walk_at "m") => `(tactic| repeat walk_at "m1")
local macro_rules | `(tactic| walk_at "mm") => `(tactic| repeat (first | walk_at "m1" | with_reducible refine AT_BoolOp ?_ | with_reducible refine AE_BoolOp ?_))
local macro_rules | `(tactic| walk_at "x") => `(tactic| repeat (first | walk_at "test" | walk_at "slice" | walk_at "expr" | walk_at "own" | walk_at "call" | walk_at "op" | walk_at "store" | dsimp only))
theorem pat_ip {w : World} {h : Heap} (b : Base (KK w) h) : IsPat h 36 ipCode 0 :=
  ⟨_, _, _, _, _, _, _, _, _, b.frag 36 _ rfl, b.frag 35 _ rfl, rfl⟩
theorem length_zero {x : Str} (h : x.length = 0) : x = "" := by
  obtain ⟨⟨l⟩⟩ := x
  have : l = [] := by simpa [Str.length] using h
  subst this; rfl
theorem hdn_fn (prog : Program) (w : World) (x : Str) (hx : x.length ≤ 100000) : Fn prog w (Base (KK w)) 43 1 [pstr x] fun d => d = pbool (hdn x) := by
  refine Fn.of (fd := _) (body := _) (ps := ["text"]) (fun h b => b.fn (fd := _) rfl) (fun h b => b.lim) (fun h b => b.code rfl) rfl (fun vs hv => ?_) rfl (by decide) ?_ ?_
  · match vs, hv with
    | [v], _ => rfl
  · intro x hx
    simp only [List.mem_singleton] at hx
    subst hx
    exact .inl rfl
  · intro C hIn
    dsimp only at hIn ⊢
    have hsz : x.cps.size < 16777217 := by have : x.cps.size = x.length := rfl; omega
    obtain ⟨m', k, hgo, hk, ho⟩ := ip_forSearch hsz
    walk_at "mm"
    refine ⟨AGm_pat (pat_ip hIn.base) slot_pat_search type_pat_search, ?_⟩
    walk_at "mm"
    refine ACall_search hIn.ok (pat_ip hIn.base) (by walk_at "s") hgo hk ho (sp := [m'.start, m'.handed]) (fun _ M A s p str R h => newMatch0 h) ?_
    cases h1 : ipAny x.cps with
    | true =>
      rw [if_pos rfl]
      walk_at "mm"
      exact ⟨rfl, by unfold hdn; rw [h1]; rfl⟩
    | false =>
      rw [if_neg Bool.false_ne_true]
      walk_at "mm"
      refine ite_of (fun h2 => ?_) (fun h2 => ?_)
      · walk_at "mm"
        exact ⟨rfl, by unfold hdn; rw [h1, h2]; rfl⟩
      · have hl : 0 < x.length := by
          rcases Nat.eq_zero_or_pos x.length with h | h
          · exact absurd (length_zero h) (of_decide_eq_false h2)
          · exact h
        walk_at "mm"
        refine AItem_str hIn.ok (by omega) (by omega) (by walk_at "s") ?_
        walk_at "mm"
        refine ite_of (fun h3 => ?_) (fun h3 => ?_)
        · walk_at "mm"
          exact ⟨rfl, by unfold hdn; rw [h1, h2, h3]; rfl⟩
        · walk_at "mm"
          refine AItem_str hIn.ok (by omega) (by omega) (by walk_at "s") ?_
          walk_at "mm"
          refine ite_of (fun h4 => ?_) (fun h4 => ?_)
          · walk_at "mm"
            exact ⟨rfl, by unfold hdn; rw [h1, h2, h3, h4]; rfl⟩
          · walk_at "mm"
            exact ⟨rfl, by unfold hdn; rw [h1, h2, h3, h4]; rfl⟩
end Mine

end
section
open PySem PySem.W PyProof.Rows PySem.Calls
set_option linter.all false
set_option Elab.async false
set_option maxRecDepth 100000
set_option maxHeartbeats 8000000
namespace Mine
local macro_rules | `(tactic| walk_at "s") => `(tactic| first | assumption | omega | decide | (simp only [List.length_map, List.length_append, List.length_cons, List.length_nil, S_len, sizeLine_eq]; omega) | (rw [sizeLine_eq]; omega) | (refine Nat.le_trans (by assumption) ?_; decide))
local macro_rules | `(tactic| walk_at "name") => `(tactic| first
  | refine AE_loc (by assumption) (by rfl) (by rfl) ?_
  | refine AE_cel (by assumption) (by rfl) (by rfl) ?_
  | refine AE_gF (by assumption) (by rfl) (by rfl) ?_
  | refine AE_gB (by assumption) (by rfl) (by rfl) (by rfl) ?_)
local macro_rules | `(tactic| walk_at "stmt") => `(tactic| first
  | with_reducible refine AS_nil ?_
  | with_reducible refine AS_cons ?_
  | with_reducible refine AX_If ?_
  | with_reducible refine AX_Return ?_
  | with_reducible refine AX_Continue ?_
  | with_reducible refine AX_Break ?_
  | with_reducible refine AX_Pass ?_
  | ((with_reducible show AX _ (Stmt.Assign [Expr.Name _ _] _ _) _ _); refine AX_Assign ?_)
  | ((with_reducible show AX _ (Stmt.Expr _ _) _ _); refine AX_ExprI (In.ok (by assumption)) ?_))
local macro_rules | `(tactic| walk_at "meth") => `(tactic| first
  | ((with_reducible show AE _ (Expr.Call (Expr.Attribute _ "lower" _) _ _ _) _ _); refine AE_meth (id := "str.lower") (In.ok (by assumption)) ?_)
  | ((with_reducible show AE _ (Expr.Call (Expr.Attribute _ "upper" _) _ _ _) _ _); refine AE_meth (id := "str.upper") (In.ok (by assumption)) ?_)
  | ((with_reducible show AE _ (Expr.Call (Expr.Attribute _ "swapcase" _) _ _ _) _ _); refine AE_meth (id := "str.swapcase") (In.ok (by assumption)) ?_)
  | ((with_reducible show AE _ (Expr.Call (Expr.Attribute _ "rfind" _) _ _ _) _ _); refine AE_meth (id := "str.rfind") (In.ok (by assumption)) ?_)
  | ((with_reducible show AE _ (Expr.Call (Expr.Attribute _ "find" _) _ _ _) _ _); refine AE_meth (id := "str.find") (In.ok (by assumption)) ?_)
  | ((with_reducible show AE _ (Expr.Call (Expr.Attribute _ "startswith" _) _ _ _) _ _); refine AE_meth (id := "str.startswith") (In.ok (by assumption)) ?_)
  | ((with_reducible show AE _ (Expr.Call (Expr.Attribute _ "lstrip" _) _ _ _) _ _); refine AE_meth (id := "str.lstrip") (In.ok (by assumption)) ?_)
  | ((with_reducible show AE _ (Expr.Call (Expr.Attribute _ "rstrip" _) _ _ _) _ _); refine AE_meth (id := "str.rstrip") (In.ok (by assumption)) ?_)
  | ((with_reducible show AE _ (Expr.Call (Expr.Attribute _ "isspace" _) _ _ _) _ _); refine AE_meth (id := "str.isspace") (In.ok (by assumption)) ?_)
  | ((with_reducible show AE _ (Expr.Call (Expr.Attribute _ "split" _) _ _ _) _ _); refine AE_meth (id := "str.split") (In.ok (by assumption)) ?_)
  | ((with_reducible show AE _ (Expr.Call (Expr.Attribute _ "join" _) _ _ _) _ _); refine AE_meth (id := "str.join") (In.ok (by assumption)) ?_)
  | ((with_reducible show AE _ (Expr.Call (Expr.Attribute _ "replace" _) _ _ _) _ _); refine AE_meth (id := "str.replace") (In.ok (by assumption)) ?_)
  | ((with_reducible show AE _ (Expr.Call (Expr.Attribute _ "append" _) _ _ _) _ _); refine AE_meth (id := "list.append") (In.ok (by assumption)) ?_)
  | ((with_reducible show AE _ (Expr.Call (Expr.Attribute _ "search" _) _ _ _) _ _); refine AE_meth (id := "re.Pattern.search") (In.ok (by assumption)) ?_))
local macro_rules | `(tactic| walk_at "gm") => `(tactic| with_reducible first
  | refine ⟨AGm_lower, ?_⟩ | refine ⟨AGm_upper, ?_⟩ | refine ⟨AGm_swapcase, ?_⟩ | refine ⟨AGm_rfind, ?_⟩ | refine ⟨AGm_find, ?_⟩ | refine ⟨AGm_startswith, ?_⟩
  | refine ⟨AGm_lstrip, ?_⟩ | refine ⟨AGm_rstrip, ?_⟩ | refine ⟨AGm_isspace, ?_⟩ | refine ⟨AGm_split, ?_⟩ | refine ⟨AGm_join, ?_⟩ | refine ⟨AGm_replace, ?_⟩)
local macro_rules | `(tactic| walk_at "own") => `(tactic| first
  | ((with_reducible show AGm _ (PV.own _) "append" _ _ ∧ _); refine ⟨AGm_append (by rfl), ?_⟩)
  | ((with_reducible show ACallB _ "list.append" _ _ _); refine ACall_append (In.ok (by assumption)) (by rfl) ?hs ?_; (case hs => walk_at "s"))
  | ((with_reducible show ACallB _ "len" [PV.own _] _ _); refine ACall_lenO (In.ok (by assumption)) (by rfl) ?hs ?_; (case hs => walk_at "s"))
  | ((with_reducible show ATru _ (PV.own _) _ _); refine ATru_own (In.ok (by assumption)) (by rfl) ?hs ?_; (case hs => walk_at "s")))
local macro_rules | `(tactic| walk_at "expr") => `(tactic| first
  | with_reducible refine AE_int (In.ok (by assumption)) ?_
  | with_reducible refine AE_str (In.ok (by assumption)) ?_
  | with_reducible refine AE_none (In.ok (by assumption)) ?_
  | with_reducible refine AE_bool (In.ok (by assumption)) ?_
  | ((with_reducible show AE _ (Expr.Name _ _) _ _); walk_at "name")
  | with_reducible refine AE_BinOp (In.ok (by assumption)) ?_
  | ((with_reducible show AE _ (Expr.Compare _ [_] [_] _) _ _); refine AE_Compare (In.ok (by assumption)) ?_)
  | with_reducible refine AE_IfExp ?_
  | with_reducible refine AE_Unary (In.ok (by assumption)) ?_
  | with_reducible refine AE_Slice (In.ok (by assumption)) ?_
  | with_reducible refine AE_Tuple (In.ok (by assumption)) ?_
  | ((with_reducible show AE _ (Expr.Subscript _ _ _) _ _); refine AE_Item (In.ok (by assumption)) ?_)
  | walk_at "meth"
  | ((with_reducible show AE _ (Expr.Call (Expr.Name _ _) _ _ _) _ _); first
      | refine AE_bi (by assumption) (by rfl) (by rfl) (by rfl) ?_
      | refine AE_ty (by assumption) (by rfl) (by rfl) (by rfl) ?_))
local macro_rules | `(tactic| walk_at "test") => `(tactic| first
  | ((with_reducible show AT _ (Expr.Compare _ [_] [_] _) _ _); refine AT_Compare (In.ok (by assumption)) ?_)
  | with_reducible refine AT_not ?_
  | with_reducible refine AAll_nilA ?_
  | with_reducible refine AAll_nilO ?_
  | with_reducible refine AAll_and ?_
  | with_reducible refine AAll_or ?_
  | ((with_reducible show AT _ (Expr.BoolOp _ _ _) _ _); fail "bool")
  | ((with_reducible show AT _ _ _ _); refine AT_plain ?_))
local macro_rules | `(tactic| walk_at "op") => `(tactic| first
  | with_reducible refine iteT ?_
  | with_reducible refine iteF ?_
  | with_reducible refine ATru_bool ?_
  | with_reducible refine ATru_none ?_
  | with_reducible refine ATru_int ?_
  | with_reducible refine ATru_mt ?_
  | (with_reducible refine ATru_str (In.ok (by assumption)) ?hs ?_; (case hs => walk_at "s"))
  | (with_reducible refine ATru_list (In.ok (by assumption)) ?hs ?_; (case hs => walk_at "s"))
  | with_reducible refine ACmp_eqS ?_
  | with_reducible refine ACmp_neS ?_
  | with_reducible refine ACmp_inS ?_
  | with_reducible refine ACmp_notinS ?_
  | with_reducible refine ACmp_eqI ?_
  | with_reducible refine ACmp_neI ?_
  | with_reducible refine ACmp_ltI ?_
  | with_reducible refine ACmp_leI ?_
  | with_reducible refine ACmp_gtI ?_
  | with_reducible refine ACmp_geI ?_
  | with_reducible refine ACmp_isB ?_
  | with_reducible refine ACmp_isnotB ?_
  | with_reducible refine ACmp_isN ?_
  | with_reducible refine ACmp_isnotN ?_
  | with_reducible refine ABin_addI (In.ok (by assumption)) ?_
  | with_reducible refine ABin_subI (In.ok (by assumption)) ?_
  | ((with_reducible show ABin _ Operator.Mod (PV.dat (PyData.int _)) (PV.dat (PyData.int _)) _ _); refine ABin_modI (In.ok (by assumption)) (by decide) ?_)
  | ((with_reducible show ABin _ Operator.FloorDiv (PV.dat (PyData.int _)) (PV.dat (PyData.int _)) _ _); refine ABin_divI (In.ok (by assumption)) (by decide) (by decide) ?_)
  | with_reducible refine AUn_neg (In.ok (by assumption)) ?_
  | (with_reducible refine ABin_addS (In.ok (by assumption)) ?hs ?_; (case hs => walk_at "s"))
  | (with_reducible refine ASl_str (In.ok (by assumption)) ?hs ?_; (case hs => walk_at "s"))
  | (with_reducible refine ASl_list (In.ok (by assumption)) ?hs ?_; (case hs => walk_at "s"))
  | with_reducible refine ABo_last ?_
  | with_reducible refine ABo_and (In.ok (by assumption)) ?_
  | with_reducible refine ABo_or (In.ok (by assumption)) ?_)
local macro_rules | `(tactic| walk_at "row") => `(tactic| first
  | refine ⟨Nat.le_of_ble_eq_true rfl, [], rfl, ?_⟩
  | refine ⟨Nat.le_of_ble_eq_true rfl, [_], rfl, ?_⟩
  | refine ⟨Nat.le_of_ble_eq_true rfl, [_, _], rfl, ?_⟩
  | refine ⟨Nat.le_of_ble_eq_true rfl, [_, _, _], rfl, ?_⟩
  | refine ⟨Nat.le_of_ble_eq_true rfl, [_, _, _, _], rfl, ?_⟩
  | refine ⟨Nat.le_of_ble_eq_true rfl, [_, _, _, _, _], rfl, ?_⟩
  | refine ⟨Nat.le_of_ble_eq_true rfl, [_, _, _, _, _, _], rfl, ?_⟩
  | refine ⟨Nat.le_of_ble_eq_true rfl, [_, _, _, _, _, _, _], rfl, ?_⟩
  | refine ⟨Nat.le_of_ble_eq_true rfl, [_, _, _, _, _, _, _, _], rfl, ?_⟩)
local macro_rules | `(tactic| walk_at "call") => `(tactic| first
  | with_reducible refine AEs_nil ?_
  | ((with_reducible show AEs _ _ (_ :: _) _ _); refine AEs_cons (In.ok (by assumption)) ?_)
  | walk_at "gm"
  | (with_reducible refine ACall_lower (In.ok (by assumption)) ?hs ?_; (case hs => walk_at "s"))
  | (with_reducible refine ACall_upper (In.ok (by assumption)) ?hs ?_; (case hs => walk_at "s"))
  | (with_reducible refine ACall_swapcase (In.ok (by assumption)) ?hs ?_; (case hs => walk_at "s"))
  | with_reducible refine ACall_rfind (In.ok (by assumption)) ?_
  | with_reducible refine ACall_find (In.ok (by assumption)) ?_
  | with_reducible refine ACall_startswith ?_
  | with_reducible refine ACall_isspace ?_
  | (with_reducible refine ACall_lstrip (In.ok (by assumption)) ?hs ?_; (case hs => walk_at "s"))
  | (with_reducible refine ACall_rstrip (In.ok (by assumption)) ?hs ?_; (case hs => walk_at "s"))
  | (with_reducible refine ACall_lenS (In.ok (by assumption)) ?hs ?_; (case hs => walk_at "s"))
  | (with_reducible refine ACall_lenL (In.ok (by assumption)) ?hs ?_; (case hs => walk_at "s"))
  | with_reducible refine ACall_sum (In.ok (by assumption)) ?_
  | with_reducible refine ACall_range1 (In.ok (by assumption)) ?_
  | with_reducible refine ACall_range2 (In.ok (by assumption)) ?_)
local macro_rules | `(tactic| walk_at "store") => `(tactic| first
  | ((with_reducible show ASt _ _ _ _ _); first | refine ASt_loc (by assumption) (by rfl) ?_ | refine ASt_cel (by assumption) (by rfl) ?_)
  | with_reducible refine AAsg_name ?_)
local macro_rules | `(tactic| walk_at "slice") => `(tactic| first
  | with_reducible refine AOpt_none ?_
  | with_reducible refine AOpt_some ?_
  | with_reducible refine exInt ?_)
local macro_rules | `(tactic| walk_at "m1") => `(tactic| first
  | walk_at "stmt" | walk_at "test" | walk_at "slice" | walk_at "expr" | walk_at "own" | walk_at "call" | walk_at "op" | walk_at "store" | dsimp only)
local macro_rules | `(tactic| walk_at "m") => `(tactic| repeat walk_at "m1")
local macro_rules | `(tactic| walk_at "mm") => `(tactic| repeat (first | walk_at "m1" | with_reducible refine AT_BoolOp ?_ | with_reducible refine AE_BoolOp ?_))
local macro_rules | `(tactic| walk_at "x") => `(tactic| repeat (first | walk_at "test" | walk_at "slice" | walk_at "expr" | walk_at "own" | walk_at "call" | walk_at "op" | walk_at "store" | dsimp only))
theorem dm_fn (prog : Program) (w : World) (A B : Str) (hA : A.length ≤ 30000) (hB : B.length ≤ 30000) : Fn prog w (Base (KK w)) 50 2 [pstr A, pstr B] fun d => d = pbool (dmatch A B) := by
  refine Fn.of (fd := _) (body := _) (ps := ["A", "B"]) (fun h b => b.fn (fd := _) rfl) (fun h b => b.lim) (fun h b => b.code rfl) rfl (fun vs hv => ?_) rfl (by decide) ?_ ?_
  · match vs, hv with
    | [v, u], _ => rfl
  · intro x hx
    simp only [List.mem_cons, List.not_mem_nil, or_false] at hx
    rcases hx with rfl | rfl <;> exact .inl rfl
  · intro C hIn
    dsimp only at hIn ⊢
    have hA' := len_lower A
    have hB' := len_lower B
    walk_at "mm"
    refine ite_of (fun h1 => ?_) (fun h1 => ?_)
    · walk_at "mm"
      exact ⟨rfl, by unfold dmatch; rw [if_pos (of_decide_eq_true h1)]⟩
    have h1' := of_decide_eq_false h1
    walk_at "mm"
    refine AE_def (by assumption) 1 rfl rfl rfl ?_ (Nat.le_refl _)
    walk_at "mm"
    refine ⟨rfl, (hdn_fn prog w _ (by omega)).mono fun d e => ?_⟩
    subst e
    walk_at "mm"
    refine ite_of (fun h2 => ?_) (fun h2 => ?_)
    · walk_at "mm"
      exact ⟨rfl, by unfold dmatch; rw [if_neg h1']; simp only [Bool.not_eq_true'] at h2; rw [h2]; rfl⟩
    have h2' : hdn (Txt.lower A) = true := by simpa using h2
    walk_at "mm"
    refine ite_of (fun h3 => ?_) (fun h3 => ?_)
    · walk_at "mm"
      exact ⟨rfl, by unfold dmatch; rw [if_neg h1', h2', h3]; rfl⟩
    walk_at "mm"
    refine ite_of (fun h4 => ?_) (fun h4 => ?_)
    · walk_at "mm"
      exact ⟨rfl, by unfold dmatch; rw [if_neg h1', h2', h3, h4]; rfl⟩
    walk_at "mm"
    refine ite_of (fun h5 => ?_) (fun h5 => ?_)
    · walk_at "mm"
      exact ⟨rfl, by unfold dmatch; rw [if_neg h1', h2', h3, h4]; simp only [Bool.not_eq_true'] at h5; rw [h5]; rfl⟩
    have h5' : Txt.startswith (Txt.lower B) "." = true := by simpa using h5
    walk_at "mm"
    refine AE_def (by assumption) 1 rfl rfl rfl ?_ (Nat.le_refl _)
    walk_at "mm"
    have hs := Txt.slice_le (Txt.lower B) (some 1) none
    refine ⟨rfl, (hdn_fn prog w _ (by omega)).mono fun d e => ?_⟩
    subst e
    walk_at "mm"
    refine ite_of (fun h6 => ?_) (fun h6 => ?_)
    · walk_at "mm"
      exact ⟨rfl, by unfold dmatch; rw [if_neg h1', h2', h3, h4, h5']; simp only [Bool.not_eq_true'] at h6; rw [h6]; rfl⟩
    walk_at "mm"
    have h6' : hdn (Txt.slice (Txt.lower B) (some 1) none) = true := by simpa using h6
    exact ⟨rfl, by unfold dmatch; rw [if_neg h1', h2', h3, h4, h5', h6']; rfl⟩
end Mine

end
section
open PySem PySem.W PyProof.Rows PySem.Calls
set_option linter.all false
set_option Elab.async false
set_option maxRecDepth 100000
set_option maxHeartbeats 8000000
namespace Mine
local macro_rules | `(tactic| walk_at "s") => `(tactic| first | assumption | omega | decide | (simp only [List.length_map, List.length_append, List.length_cons, List.length_nil, S_len, sizeLine_eq]; omega) | (rw [sizeLine_eq]; omega) | (refine Nat.le_trans (by assumption) ?_; decide))
local macro_rules | `(tactic| walk_at "name") => `(tactic| first
  | refine AE_loc (by assumption) (by rfl) (by rfl) ?_
  | refine AE_cel (by assumption) (by rfl) (by rfl) ?_
  | refine AE_gF (by assumption) (by rfl) (by rfl) ?_
  | refine AE_gB (by assumption) (by rfl) (by rfl) (by rfl) ?_)
local macro_rules | `(tactic| walk_at "stmt") => `(tactic| first
  | with_reducible refine AS_nil ?_
  | with_reducible refine AS_cons ?_
  | with_reducible refine AX_If ?_
  | with_reducible refine AX_Return ?_
  | with_reducible refine AX_Continue ?_
  | with_reducible refine AX_Break ?_
  | with_reducible refine AX_Pass ?_
  | ((with_reducible show AX _ (Stmt.Assign [Expr.Name _ _] _ _) _ _); refine AX_Assign ?_)
  | ((with_reducible show AX _ (Stmt.Expr _ _) _ _); refine AX_ExprI (In.ok (by assumption)) ?_))
local macro_rules | `(tactic| walk_at "meth") => `(tactic| first
  | ((with_reducible show AE _ (Expr.Call (Expr.Attribute _ "lower" _) _ _ _) _ _); refine AE_meth (id := "str.lower") (In.ok (by assumption)) ?_)
  | ((with_reducible show AE _ (Expr.Call (Expr.Attribute _ "upper" _) _ _ _) _ _); refine AE_meth (id := "str.upper") (In.ok (by assumption)) ?_)
  | ((with_reducible show AE _ (Expr.Call (Expr.Attribute _ "swapcase" _) _ _ _) _ _); refine AE_meth (id := "str.swapcase") (In.ok (by assumption)) ?_)
  | ((with_reducible show AE _ (Expr.Call (Expr.Attribute _ "rfind" _) _ _ _) _ _); refine AE_meth (id := "str.rfind") (In.ok (by assumption)) ?_)
  | ((with_reducible show AE _ (Expr.Call (Expr.Attribute _ "find" _) _ _ _) _ _); refine AE_meth (id := "str.find") (In.ok (by assumption)) ?_)
  | ((with_reducible show AE _ (Expr.Call (Expr.Attribute _ "startswith" _) _ _ _) _ _); refine AE_meth (id := "str.startswith") (In.ok (by assumption)) ?_)
  | ((with_reducible show AE _ (Expr.Call (Expr.Attribute _ "lstrip" _) _ _ _) _ _); refine AE_meth (id := "str.lstrip") (In.ok (by assumption)) ?_)
  | ((with_reducible show AE _ (Expr.Call (Expr.Attribute _ "rstrip" _) _ _ _) _ _); refine AE_meth (id := "str.rstrip") (In.ok (by assumption)) ?_)
  | ((with_reducible show AE _ (Expr.Call (Expr.Attribute _ "isspace" _) _ _ _) _ _); refine AE_meth (id := "str.isspace") (In.ok (by assumption)) ?_)
  | ((with_reducible show AE _ (Expr.Call (Expr.Attribute _ "split" _) _ _ _) _ _); refine AE_meth (id := "str.split") (In.ok (by assumption)) ?_)
  | ((with_reducible show AE _ (Expr.Call (Expr.Attribute _ "join" _) _ _ _) _ _); refine AE_meth (id := "str.join") (In.ok (by assumption)) ?_)
  | ((with_reducible show AE _ (Expr.Call (Expr.Attribute _ "replace" _) _ _ _) _ _); refine AE_meth (id := "str.replace") (In.ok (by assumption)) ?_)
  | ((with_reducible show AE _ (Expr.Call (Expr.Attribute _ "append" _) _ _ _) _ _); refine AE_meth (id := "list.append") (In.ok (by assumption)) ?_)
  | ((with_reducible show AE _ (Expr.Call (Expr.Attribute _ "search" _) _ _ _) _ _); refine AE_meth (id := "re.Pattern.search") (In.ok (by assumption)) ?_))
local macro_rules | `(tactic| walk_at "gm") => `(tactic| with_reducible first
  | refine ⟨AGm_lower, ?_⟩ | refine ⟨AGm_upper, ?_⟩ | refine ⟨AGm_swapcase, ?_⟩ | refine ⟨AGm_rfind, ?_⟩ | refine ⟨AGm_find, ?_⟩ | refine ⟨AGm_startswith, ?_⟩
  | refine ⟨AGm_lstrip, ?_⟩ | refine ⟨AGm_rstrip, ?_⟩ | refine ⟨AGm_isspace, ?_⟩ | refine ⟨AGm_split, ?_⟩ | refine ⟨AGm_join, ?_⟩ | refine ⟨AGm_replace, ?_⟩)
local macro_rules | `(tactic| walk_at "own") => `(tactic| first
  | ((with_reducible show AGm _ (PV.own _) "append" _ _ ∧ _); refine ⟨AGm_append (by rfl), ?_⟩)
  | ((with_reducible show ACallB _ "list.append" _ _ _); refine ACall_append (In.ok (by assumption)) (by rfl) ?hs ?_; (case hs => walk_at "s"))
  | ((with_reducible show ACallB _ "len" [PV.own _] _ _); refine ACall_lenO (In.ok (by assumption)) (by rfl) ?hs ?_; (case hs => walk_at "s"))
  | ((with_reducible show ATru _ (PV.own _) _ _); refine ATru_own (In.ok (by assumption)) (by rfl) ?hs ?_; (case hs => walk_at "s")))
local macro_rules | `(tactic| walk_at "expr") => `(tactic| first
  | with_reducible refine AE_int (In.ok (by assumption)) ?_
  | with_reducible refine AE_str (In.ok (by assumption)) ?_
  | with_reducible refine AE_none (In.ok (by assumption)) ?_
  | with_reducible refine AE_bool (In.ok (by assumption)) ?_
  | ((with_reducible show AE _ (Expr.Name _ _) _ _); walk_at "name")
  | with_reducible refine AE_BinOp (In.ok (by assumption)) ?_
  | ((with_reducible show AE _ (Expr.Compare _ [_] [_] _) _ _); refine AE_Compare (In.ok (by assumption)) ?_)
  | with_reducible refine AE_IfExp ?_
  | with_reducible refine AE_Unary (In.ok (by assumption)) ?_
  | with_reducible refine AE_Slice (In.ok (by assumption)) ?_
  | with_reducible refine AE_Tuple (In.ok (by assumption)) ?_
  | ((with_reducible show AE _ (Expr.Subscript _ _ _) _ _); refine AE_Item (In.ok (by assumption)) ?_)
  | walk_at "meth"
  | ((with_reducible show AE _ (Expr.Call (Expr.Name _ _) _ _ _) _ _); first
      | refine AE_bi (by assumption) (by rfl) (by rfl) (by rfl) ?_
      | refine AE_ty (by assumption) (by rfl) (by rfl) (by rfl) ?_))
local macro_rules | `(tactic| walk_at "test") => `(tactic| first
  | ((with_reducible show AT _ (Expr.Compare _ [_] [_] _) _ _); refine AT_Compare (In.ok (by assumption)) ?_)
  | with_reducible refine AT_not ?_
  | with_reducible refine AAll_nilA ?_
  | with_reducible refine AAll_nilO ?_
  | with_reducible refine AAll_and ?_
  | with_reducible refine AAll_or ?_
  | ((with_reducible show AT _ (Expr.BoolOp _ _ _) _ _); fail "bool")
  | ((with_reducible show AT _ _ _ _); refine AT_plain ?_))
local macro_rules | `(tactic| walk_at "op") => `(tactic| first
  | with_reducible refine iteT ?_
  | with_reducible refine iteF ?_
  | with_reducible refine ATru_bool ?_
  | with_reducible refine ATru_none ?_
  | with_reducible refine ATru_int ?_
  | with_reducible refine ATru_mt ?_
  | (with_reducible refine ATru_str (In.ok (by assumption)) ?hs ?_; (case hs => walk_at "s"))
  | (with_reducible refine ATru_list (In.ok (by assumption)) ?hs ?_; (case hs => walk_at "s"))
  | with_reducible refine ACmp_eqS ?_
  | with_reducible refine ACmp_neS ?_
  | with_reducible refine ACmp_inS ?_
  | with_reducible refine ACmp_notinS ?_
  | with_reducible refine ACmp_eqI ?_
  | with_reducible refine ACmp_neI ?_
  | with_reducible refine ACmp_ltI ?_
  | with_reducible refine ACmp_leI ?_
  | with_reducible refine ACmp_gtI ?_
  | with_reducible refine ACmp_geI ?_
  | with_reducible refine ACmp_isB ?_
  | with_reducible refine ACmp_isnotB ?_
  | with_reducible refine ACmp_isN ?_
  | with_reducible refine ACmp_isnotN ?_
  | with_reducible refine ABin_addI (In.ok (by assumption)) ?_
  | with_reducible refine ABin_subI (In.ok (by assumption)) ?_
  | ((with_reducible show ABin _ Operator.Mod (PV.dat (PyData.int _)) (PV.dat (PyData.int _)) _ _); refine ABin_modI (In.ok (by assumption)) (by decide) ?_)
  | ((with_reducible show ABin _ Operator.FloorDiv (PV.dat (PyData.int _)) (PV.dat (PyData.int _)) _ _); refine ABin_divI (In.ok (by assumption)) (by decide) (by decide) ?_)
  | with_reducible refine AUn_neg (In.ok (by assumption)) ?_
  | (with_reducible refine ABin_addS (In.ok (by assumption)) ?hs ?_; (case hs => walk_at "s"))
  | (with_reducible refine ASl_str (In.ok (by assumption)) ?hs ?_; (case hs => walk_at "s"))
  | (with_reducible refine ASl_list (In.ok (by assumption)) ?hs ?_; (case hs => walk_at "s"))
  | with_reducible refine ABo_last ?_
  | with_reducible refine ABo_and (In.ok (by assumption)) ?_
  | with_reducible refine ABo_or (In.ok (by assumption)) ?_)
local macro_rules | `(tactic| walk_at "row") => `(tactic| first
  | refine ⟨Nat.le_of_ble_eq_true rfl, [], rfl, ?_⟩
  | refine ⟨Nat.le_of_ble_eq_true rfl, [_], rfl, ?_⟩
  | refine ⟨Nat.le_of_ble_eq_true rfl, [_, _], rfl, ?_⟩
  | refine ⟨Nat.le_of_ble_eq_true rfl, [_, _, _], rfl, ?_⟩
  | refine ⟨Nat.le_of_ble_eq_true rfl, [_, _, _, _], rfl, ?_⟩
  | refine ⟨Nat.le_of_ble_eq_true rfl, [_, _, _, _, _], rfl, ?_⟩
  | refine ⟨Nat.le_of_ble_eq_true rfl, [_, _, _, _, _, _], rfl, ?_⟩
  | refine ⟨Nat.le_of_ble_eq_true rfl, [_, _, _, _, _, _, _], rfl, ?_⟩
  | refine ⟨Nat.le_of_ble_eq_true rfl, [_, _, _, _, _, _, _, _], rfl, ?_⟩)
local macro_rules | `(tactic| walk_at "call") => `(tactic| first
  | with_reducible refine AEs_nil ?_
  | ((with_reducible show AEs _ _ (_ :: _) _ _); refine AEs_cons (In.ok (by assumption)) ?_)
  | walk_at "gm"
  | (with_reducible refine ACall_lower (In.ok (by assumption)) ?hs ?_; (case hs => walk_at "s"))
  | (with_reducible refine ACall_upper (In.ok (by assumption)) ?hs ?_; (case hs => walk_at "s"))
  | (with_reducible refine ACall_swapcase (In.ok (by assumption)) ?hs ?_; (case hs => walk_at "s"))
  | with_reducible refine ACall_rfind (In.ok (by assumption)) ?_
  | with_reducible refine ACall_find (In.ok (by assumption)) ?_
  | with_reducible refine ACall_startswith ?_
  | with_reducible refine ACall_isspace ?_
  | (with_reducible refine ACall_lstrip (In.ok (by assumption)) ?hs ?_; (case hs => walk_at "s"))
  | (with_reducible refine ACall_rstrip (In.ok (by assumption)) ?hs ?_; (case hs => walk_at "s"))
  | (with_reducible refine ACall_lenS (In.ok (by assumption)) ?hs ?_; (case hs => walk_at "s"))
  | (with_reducible refine ACall_lenL (In.ok (by assumption)) ?hs ?_; (case hs => walk_at "s"))
  | with_reducible refine ACall_sum (In.ok (by assumption)) ?_
  | with_reducible refine ACall_range1 (In.ok (by assumption)) ?_
  | with_reducible refine ACall_range2 (In.ok (by assumption)) ?_)
local macro_rules | `(tactic| walk_at "store") => `(tactic| first
  | ((with_reducible show ASt _ _ _ _ _); first | refine ASt_loc (by assumption) (by rfl) ?_ | refine ASt_cel (by assumption) (by rfl) ?_)
  | with_reducible refine AAsg_name ?_)
local macro_rules | `(tactic| walk_at "slice") => `(tactic| first
  | with_reducible refine AOpt_none ?_
  | with_reducible refine AOpt_some ?_
  | with_reducible refine exInt ?_)
local macro_rules | `(tactic| walk_at "m1") => `(tactic| first
  | walk_at "stmt" | walk_at "test" | walk_at "slice" | walk_at "expr" | walk_at "own" | walk_at "call" | walk_at "op" | walk_at "store" | dsimp only)
local macro_rules | `(tactic| walk_at "m") => `(tactic| repeat walk_at "m1")
local macro_rules | `(tactic| walk_at "mm") => `(tactic| repeat (first | walk_at "m1" | with_reducible refine AT_BoolOp ?_ | with_reducible refine AE_BoolOp ?_))
local macro_rules | `(tactic| walk_at "x") => `(tactic| repeat (first | walk_at "test" | walk_at "slice" | walk_at "expr" | walk_at "own" | walk_at "call" | walk_at "op" | walk_at "store" | dsimp only))
def L04 : List (List Nat) := [[97], [65, 98], [55], [55, 55], [55, 97], [66]]
def lab04 : List Str := ["a", "Ab", "7", "77", "7a", "B"]
theorem lab04_eq : lab04 = L04.map S := by rfl
def rowD (row : List (List Nat)) : PyData := .list (row.map fun l => .str (S l))
def Row04 (row : List (List Nat)) : Prop := row ≠ [] ∧ (∀ l ∈ row, l ∈ L04) ∧ row.length ≤ 30

theorem lab_at (k : Int) (h0 : 0 ≤ k) (h1 : k < 6) : ∃ l, l ∈ L04 ∧ (lab04.map PyData.str)[k.toNat]? = some (.str (S l)) := by
  have : k.toNat < L04.length := by show _ < 6; omega
  refine ⟨L04[k.toNat], List.getElem_mem _, ?_⟩
  rw [lab04_eq, List.getElem?_map, List.getElem?_map, List.getElem?_eq_getElem this]; rfl
theorem sub_dats (i : Nat) (ys : List PyData) {α : Type} (f : α → PyData) (xs : List α) : (xs.map fun x => PV.dat (f x)).map (PV.sub i ys) = xs.map fun x => PV.dat (f x) := by
  rw [List.map_map]; rfl
theorem sub_ne {i j : Nat} {xs : List PyData} (h : j ≠ i) : (PV.own j).sub i xs = .own j := by simp [PV.sub, h]
theorem sub_eq {i : Nat} {xs : List PyData} : (PV.own i).sub i xs = .dat (.list xs) := by simp [PV.sub]
theorem lkm_nil {m : List (Str × PV)} {f : PV → PV} : ∀ x d, ([] : List (Str × PV)).lookup x = some d → (m.lookup x).map f = some d := fun _ _ h => nomatch h
theorem lkm_cons {m m' : List (Str × PV)} {f : PV → PV} {x : Str} {d : PV} (h : (m.lookup x).map f = some d) (hr : ∀ x d, m'.lookup x = some d → (m.lookup x).map f = some d) : ∀ y e, ((x, d) :: m').lookup y = some e → (m.lookup y).map f = some e := fun y e hy => by
  rw [List.lookup_cons] at hy
  cases q : y == x with
  | true =>
    rw [q] at hy
    cases hy
    have : y = x := by simpa using q
    rw [this]; exact h
  | false => rw [q] at hy; exact hr y e hy
abbrev rowP (row : List (List Nat)) : List PV := row.map fun l => pstr (S l)
theorem rows_fn (prog : Program) (w : World) (ns : List Int) (hns : ns.length ≤ 63) : Fn prog w (Base (KK w)) 57 2 [plist (ns.map .int)] fun d => ∃ host other : List (List Nat), Row04 host ∧ Row04 other ∧ other.length ≤ 8 ∧ d = ptup [rowD host, rowD other] := by
  refine Fn.of (fd := _) (body := _) (ps := ["script"]) (fun h b => b.fn (fd := _) rfl) (fun h b => b.lim) (fun h b => b.code rfl) rfl (fun vs hv => ?_) rfl (by decide) ?_ ?_
  · match vs, hv with
    | [v], _ => rfl
  · intro x hx
    simp only [List.mem_singleton] at hx
    subst hx
    exact .inl rfl
  · intro C hIn
    dsimp only at hIn ⊢
    walk_at "m"
    refine AE_List hIn.ok ?_
    walk_at "x"
    walk_at "row"
    walk_at "m"
    refine AE_ListOwn hIn.ok ?_
    walk_at "m"
    refine ⟨by decide, ?_⟩
    walk_at "x"
    refine AS_cons (AX_For hIn.ok ?_)
    walk_at "x"
    refine ⟨_, AItr_list, fun r st => ∃ (zs ds : List Int), r = zs.map .int ∧ (∀ x ∈ ds, 0 ≤ x ∧ x < 12) ∧ ds.length + zs.length ≤ 63 + 30 ∧ zs.length ≤ 63 ∧ st = ⟨[("labels", plist (lab04.map .str)), ("figures", .own 0)], [some (ds.map pint)]⟩, ⟨⟨[("labels", plist (lab04.map .str)), ("figures", .own 0)], [some []]⟩, ?_, ns, [], rfl, (fun _ h => nomatch h), by simp; omega, hns, rfl⟩, ?_, ?_⟩
    · exact Wk.of (lk_cons rfl (lk_cons rfl lk_nil))
    · rintro x r st ⟨zs, ds, hr, hd, hlen, hzl, rfl⟩
      cases zs with
      | nil => cases hr
      | cons z zs =>
        simp only [List.map_cons, List.cons.injEq] at hr
        obtain ⟨rfl, rfl⟩ := hr
        have hz0 : 0 ≤ z.fmod 12 := Int.fmod_nonneg_of_pos _ (by decide)
        have hz1 : z.fmod 12 < 12 := Int.fmod_lt_of_pos _ (by decide)
        have hlen' : ds.length + (zs.length + 1) ≤ 93 := hlen
        have hzl' : zs.length + 1 ≤ 63 := hzl
        walk_at "m"
        refine AX_While (fun k st => ∃ (m : Int) (es : List Int), (es.length < 30 → k = 30 - es.length) ∧ (30 ≤ es.length → k = 0) ∧ (∀ x ∈ es, 0 ≤ x ∧ x < 12) ∧ es.length + zs.length ≤ 93 ∧ st = ⟨[("labels", plist (lab04.map .str)), ("figures", .own 0), ("rest", pint m)], [some (es.map pint)]⟩) (30 - (ds.length + 1)) ⟨⟨[("labels", plist (lab04.map .str)), ("figures", .own 0), ("rest", pint (z.fdiv 12))], [some ((ds ++ [z.fmod 12]).map pint)]⟩, ?_, z.fdiv 12, ds ++ [z.fmod 12], ?_, ?_, ?_, ?_, rfl⟩ ?_
        · rw [List.map_append]
          exact Wk.of (lk_cons rfl (lk_cons rfl (lk_cons rfl lk_nil)))
        · intro h; simp
        · intro h; simp at h; omega
        · intro x hx
          rcases List.mem_append.mp hx with h | h
          · exact hd x h
          · rw [List.mem_singleton.mp h]; exact ⟨hz0, hz1⟩
        · simp; omega
        · rintro k st ⟨m, es, hk1, hk2, he, hel, rfl⟩
          have hm0 : 0 ≤ m.fmod 12 := Int.fmod_nonneg_of_pos _ (by decide)
          have hm1 : m.fmod 12 < 12 := Int.fmod_lt_of_pos _ (by decide)
          walk_at "mm"
          walk_at "row"
          refine ACmp_notinT hIn.un (Nat.le_trans (depth_int m) (by decide)) ?_
          walk_at "m"
          refine ite_of (fun h1 => ?_) (fun h1 => ?_)
          · walk_at "m"
            refine ite_of (fun h2 => ?_) (fun h2 => ?_)
            · have h2' : es.length < 30 := by have := of_decide_eq_true h2; simp at this; omega
              walk_at "m"
              refine ⟨30 - (es.length + 1), ?_, ⟨[("labels", plist (lab04.map .str)), ("figures", .own 0), ("rest", pint (m.fdiv 12))], [some ((es ++ [m.fmod 12]).map pint)]⟩, ?_, m.fdiv 12, es ++ [m.fmod 12], ?_, ?_, ?_, ?_, rfl⟩
              · have := hk1 h2'; omega
              · rw [List.map_append]
                exact Wk.of (lk_cons rfl (lk_cons rfl (lk_cons rfl lk_nil)))
              · intro h; simp
              · intro h; simp at h; omega
              · intro x hx
                rcases List.mem_append.mp hx with h | h
                · exact he x h
                · rw [List.mem_singleton.mp h]; exact ⟨hm0, hm1⟩
              · simp; omega
            · walk_at "m"
              refine ⟨_, Wk.of (lk_cons rfl (lk_cons rfl lk_nil)), zs, es, rfl, he, by omega, by omega, rfl⟩
          · walk_at "m"
            refine ⟨_, Wk.of (lk_cons rfl (lk_cons rfl lk_nil)), zs, es, rfl, he, by omega, by omega, rfl⟩
    · rintro st ⟨zs, ds, hr, hd, hlen, hzl, rfl⟩
      dsimp only
      refine AS_cons (AX_Assign (AE_ListOwn hIn.ok ?_))
      refine AEs_cons hIn.ok (AE_ListOwn hIn.ok (AEs_nil ⟨by decide, ?_⟩))
      refine AEs_cons hIn.ok (AE_ListOwn hIn.ok (AEs_nil ⟨by decide, ?_⟩))
      refine AEs_nil ⟨Nat.le_of_ble_eq_true rfl, ?_⟩
      walk_at "x"
      refine AS_cons (AX_For hIn.ok ?_)
      walk_at "x"
      refine ASl_own hIn.ok (xs := ds.map .int) (by rw [List.map_map]; rfl) (by walk_at "s") ?_
      refine ⟨_, AItr_list, fun r st => ∃ (zs : List Int) (host other : List (List Nat)), r = zs.map .int ∧ (∀ x ∈ zs, 0 ≤ x ∧ x < 12) ∧ (∀ l ∈ host, l ∈ L04) ∧ (∀ l ∈ other, l ∈ L04) ∧ host.length + other.length + zs.length ≤ 30 ∧
        st = ⟨[("labels", plist (lab04.map .str)), ("rows", .own 3)], [some (ds.map pint), some (rowP host), some (rowP other), some [.own 1, .own 2]]⟩, ⟨_, Wk.of (lk_cons rfl (lk_cons rfl lk_nil)), ds.take 30, [], [], ?_, fun x hx => hd x (List.mem_of_mem_take hx), (fun _ h => nomatch h), (fun _ h => nomatch h), ?_, rfl⟩, ?_, ?_⟩
      · rw [show (30 : Int) = ((30 : Nat) : Int) from rfl, slc_take, List.map_take]
      · rw [List.length_take]; simp; omega
      · rintro x r st ⟨zs, host, other, hr, hz, hh, ho, hl, rfl⟩
        cases zs with
        | nil => cases hr
        | cons z zs =>
          simp only [List.map_cons, List.cons.injEq] at hr
          obtain ⟨rfl, rfl⟩ := hr
          have hz0 := hz z List.mem_cons_self
          have hl' : host.length + other.length + (zs.length + 1) ≤ 30 := hl
          have hd0 : 0 ≤ z.fdiv 2 := by rw [Int.fdiv_eq_ediv_of_nonneg _ (by decide)]; omega
          have hd1 : z.fdiv 2 < 6 := by rw [Int.fdiv_eq_ediv_of_nonneg _ (by decide)]; omega
          obtain ⟨l, hl1, hx⟩ := lab_at _ hd0 hd1
          have hzz : ∀ y ∈ zs, 0 ≤ y ∧ y < 12 := fun y hy => hz y (List.mem_cons_of_mem _ hy)
          have hm : z.fmod 2 = 0 ∨ z.fmod 2 = 1 := by
            have h1 : 0 ≤ z.fmod 2 := Int.fmod_nonneg_of_pos _ (by decide)
            have h2 : z.fmod 2 < 2 := Int.fmod_lt_of_pos _ (by decide)
            omega
          have hhl : (rowP host).length ≤ sizeLine := by rw [List.length_map, sizeLine_eq]; omega
          have hol : (rowP other).length ≤ sizeLine := by rw [List.length_map, sizeLine_eq]; omega
          walk_at "x"
          refine AS_cons (AX_ExprI hIn.ok ?_)
          walk_at "x"
          rcases hm with hm | hm
          · rw [hm]
            refine AItem_own 0 (by rfl) (.inl ⟨by decide, rfl⟩) rfl (by decide) ?_
            walk_at "x"
            refine AItem_list _ (.inl ⟨hd0, rfl⟩) hx (by decide) ?_
            walk_at "x"
            refine AS_nil ⟨_, ⟨?_, lk_cons rfl (lk_cons rfl lk_nil)⟩, zs, host ++ [l], other, rfl, hzz, ?_, ho, ?_, rfl⟩
            · show _ = ([some _, some (rowP host ++ [pstr (S l)]), some _, some _] : List (Option (List PV)))
              unfold rowP
              rw [List.map_append]; rfl
            · intro q hq
              rcases List.mem_append.mp hq with h | h
              · exact hh q h
              · rw [List.mem_singleton.mp h]; exact hl1
            · simp; omega
          · rw [hm]
            refine AItem_own 1 (by rfl) (.inl ⟨by decide, rfl⟩) rfl (by decide) ?_
            walk_at "x"
            refine AItem_list _ (.inl ⟨hd0, rfl⟩) hx (by decide) ?_
            walk_at "x"
            refine AS_nil ⟨_, ⟨?_, lk_cons rfl (lk_cons rfl lk_nil)⟩, zs, host, other ++ [l], rfl, hzz, hh, ?_, ?_, rfl⟩
            · show _ = ([some _, some _, some (rowP other ++ [pstr (S l)]), some _] : List (Option (List PV)))
              unfold rowP
              rw [List.map_append]; rfl
            · intro q hq
              rcases List.mem_append.mp hq with h | h
              · exact ho q h
              · rw [List.mem_singleton.mp h]; exact hl1
            · simp; omega
      · rintro st ⟨zs, host, other, hr, hz, hh, ho, hl, rfl⟩
        have hhl : (host.map fun l => PyData.str (S l)).length ≤ sizeLine := by rw [List.length_map, sizeLine_eq]; omega
        have hol : (other.map fun l => PyData.str (S l)).length ≤ sizeLine := by rw [List.length_map, sizeLine_eq]; omega
        refine AG.freezeTo hIn.ok (i := 1) (xs := host.map fun l => .str (S l)) ⟨[("rows", .own 3)], [some (ds.map pint), none, some (rowP other), some [.dat (rowD host), .own 2]]⟩ ?_ (lkm_cons rfl lkm_nil) ?_ ?_
        · rw [List.map_map]; rfl
        · show _ = [some ((ds.map pint).map _), none, some ((rowP other).map _), some [_, _]]
          rw [sub_dats 1 _ PyData.int, sub_dats 1 _ (fun l => PyData.str (S l))]; rfl
        refine AG.freezeTo hIn.ok (i := 2) (xs := other.map fun l => .str (S l)) ⟨[("rows", .own 3)], [some (ds.map pint), none, none, some [.dat (rowD host), .dat (rowD other)]]⟩ ?_ (lkm_cons rfl lkm_nil) ?_ ?_
        · rw [List.map_map]; rfl
        · show _ = [some ((ds.map pint).map _), none, none, some [_, _]]
          rw [sub_dats 2 _ PyData.int]; rfl
        have ew : ∀ r : List (List Nat), (r.map fun l => PyData.str (S l)).isEmpty = r.isEmpty := by intro r; cases r <;> rfl
        refine AS_cons (AX_Return (AE_Tuple hIn.ok ?_))
        refine AEs_cons hIn.ok ?_
        refine AG.mono (Q := fun d st₁ => st₁ = ⟨[("rows", .own 3)], [some (ds.map pint), none, none, some [.dat (rowD host), .dat (rowD other)]]⟩ ∧ ∃ host, Row04 host ∧ d = .dat (rowD host)) ?_ ?_
        · walk_at "mm"
          refine AItem_own 0 (by rfl) (.inl ⟨by decide, rfl⟩) rfl (Nat.le_of_ble_eq_true rfl) ?_
          unfold rowD
          walk_at "mm"
          rw [ew]
          refine ite_of (fun h1 => ?_) (fun h1 => ?_)
          · exact ⟨rfl, host, ⟨by intro e; subst e; simp at h1, hh, by omega⟩, rfl⟩
          · walk_at "mm"
            refine AE_List hIn.ok ?_
            walk_at "mm"
            walk_at "row"
            exact ⟨rfl, [[97]], ⟨by simp, by decide, by decide⟩, rfl⟩
        rintro d st₁ ⟨rfl, host', hh', rfl⟩
        refine AEs_cons hIn.ok ?_
        refine AG.mono (Q := fun d st₁ => ∃ other, Row04 other ∧ other.length ≤ 8 ∧ d = .dat (rowD other)) ?_ ?_
        · walk_at "mm"
          refine AItem_own 1 (by rfl) (.inl ⟨by decide, rfl⟩) rfl (Nat.le_of_ble_eq_true rfl) ?_
          unfold rowD
          walk_at "mm"
          rw [show (8 : Int) = ((8 : Nat) : Int) from rfl, slc_take, ← List.map_take]
          have hol8 : ((other.take 8).map fun l => PyData.str (S l)).length ≤ sizeLine := by rw [List.length_map, List.length_take, sizeLine_eq]; omega
          walk_at "mm"
          rw [ew]
          refine ite_of (fun h1 => ?_) (fun h1 => ?_)
          · exact ⟨other.take 8, ⟨by intro e; rw [e] at h1; simp at h1, fun l hl => ho l (List.mem_of_mem_take hl), by rw [List.length_take]; omega⟩, by rw [List.length_take]; omega, rfl⟩
          · walk_at "mm"
            refine AE_List hIn.ok ?_
            walk_at "mm"
            walk_at "row"
            exact ⟨[[97]], ⟨by simp, by decide, by decide⟩, by decide, rfl⟩
        rintro d st₁ ⟨other', ho', hol', rfl⟩
        refine AEs_nil ⟨Nat.le_of_ble_eq_true rfl, [_, _], rfl, rfl, host', other', hh', ho', hol', rfl⟩
end Mine

end
section
open PySem PySem.W PyProof.Rows PySem.Calls
set_option linter.all false
set_option Elab.async false
set_option maxRecDepth 100000
set_option maxHeartbeats 8000000
namespace Mine
local macro_rules | `(tactic| walk_at "s") => `(tactic| first | assumption | omega | decide | (simp only [List.length_map, List.length_append, List.length_cons, List.length_nil, S_len, sizeLine_eq]; omega) | (rw [sizeLine_eq]; omega) | (refine Nat.le_trans (by assumption) ?_; decide))
local macro_rules | `(tactic| walk_at "name") => `(tactic| first
  | refine AE_loc (by assumption) (by rfl) (by rfl) ?_
  | refine AE_cel (by assumption) (by rfl) (by rfl) ?_
  | refine AE_gF (by assumption) (by rfl) (by rfl) ?_
  | refine AE_gB (by assumption) (by rfl) (by rfl) (by rfl) ?_)
local macro_rules | `(tactic| walk_at "stmt") => `(tactic| first
  | with_reducible refine AS_nil ?_
  | with_reducible refine AS_cons ?_
  | with_reducible refine AX_If ?_
  | with_reducible refine AX_Return ?_
  | with_reducible refine AX_Continue ?_
  | with_reducible refine AX_Break ?_
  | with_reducible refine AX_Pass ?_
  | ((with_reducible show AX _ (Stmt.Assign [Expr.Name _ _] _ _) _ _); refine AX_Assign ?_)
  | ((with_reducible show AX _ (Stmt.Expr _ _) _ _); refine AX_ExprI (In.ok (by assumption)) ?_))
local macro_rules | `(tactic| walk_at "meth") => `(tactic| first
  | ((with_reducible show AE _ (Expr.Call (Expr.Attribute _ "lower" _) _ _ _) _ _); refine AE_meth (id := "str.lower") (In.ok (by assumption)) ?_)
  | ((with_reducible show AE _ (Expr.Call (Expr.Attribute _ "upper" _) _ _ _) _ _); refine AE_meth (id := "str.upper") (In.ok (by assumption)) ?_)
  | ((with_reducible show AE _ (Expr.Call (Expr.Attribute _ "swapcase" _) _ _ _) _ _); refine AE_meth (id := "str.swapcase") (In.ok (by assumption)) ?_)
  | ((with_reducible show AE _ (Expr.Call (Expr.Attribute _ "rfind" _) _ _ _) _ _); refine AE_meth (id := "str.rfind") (In.ok (by assumption)) ?_)
  | ((with_reducible show AE _ (Expr.Call (Expr.Attribute _ "find" _) _ _ _) _ _); refine AE_meth (id := "str.find") (In.ok (by assumption)) ?_)
  | ((with_reducible show AE _ (Expr.Call (Expr.Attribute _ "startswith" _) _ _ _) _ _); refine AE_meth (id := "str.startswith") (In.ok (by assumption)) ?_)
  | ((with_reducible show AE _ (Expr.Call (Expr.Attribute _ "lstrip" _) _ _ _) _ _); refine AE_meth (id := "str.lstrip") (In.ok (by assumption)) ?_)
  | ((with_reducible show AE _ (Expr.Call (Expr.Attribute _ "rstrip" _) _ _ _) _ _); refine AE_meth (id := "str.rstrip") (In.ok (by assumption)) ?_)
  | ((with_reducible show AE _ (Expr.Call (Expr.Attribute _ "isspace" _) _ _ _) _ _); refine AE_meth (id := "str.isspace") (In.ok (by assumption)) ?_)
  | ((with_reducible show AE _ (Expr.Call (Expr.Attribute _ "split" _) _ _ _) _ _); refine AE_meth (id := "str.split") (In.ok (by assumption)) ?_)
  | ((with_reducible show AE _ (Expr.Call (Expr.Attribute _ "join" _) _ _ _) _ _); refine AE_meth (id := "str.join") (In.ok (by assumption)) ?_)
  | ((with_reducible show AE _ (Expr.Call (Expr.Attribute _ "replace" _) _ _ _) _ _); refine AE_meth (id := "str.replace") (In.ok (by assumption)) ?_)
  | ((with_reducible show AE _ (Expr.Call (Expr.Attribute _ "append" _) _ _ _) _ _); refine AE_meth (id := "list.append") (In.ok (by assumption)) ?_)
  | ((with_reducible show AE _ (Expr.Call (Expr.Attribute _ "search" _) _ _ _) _ _); refine AE_meth (id := "re.Pattern.search") (In.ok (by assumption)) ?_))
local macro_rules | `(tactic| walk_at "gm") => `(tactic| with_reducible first
  | refine ⟨AGm_lower, ?_⟩ | refine ⟨AGm_upper, ?_⟩ | refine ⟨AGm_swapcase, ?_⟩ | refine ⟨AGm_rfind, ?_⟩ | refine ⟨AGm_find, ?_⟩ | refine ⟨AGm_startswith, ?_⟩
  | refine ⟨AGm_lstrip, ?_⟩ | refine ⟨AGm_rstrip, ?_⟩ | refine ⟨AGm_isspace, ?_⟩ | refine ⟨AGm_split, ?_⟩ | refine ⟨AGm_join, ?_⟩ | refine ⟨AGm_replace, ?_⟩)
local macro_rules | `(tactic| walk_at "own") => `(tactic| first
  | ((with_reducible show AGm _ (PV.own _) "append" _ _ ∧ _); refine ⟨AGm_append (by rfl), ?_⟩)
  | ((with_reducible show ACallB _ "list.append" _ _ _); refine ACall_append (In.ok (by assumption)) (by rfl) ?hs ?_; (case hs => walk_at "s"))
  | ((with_reducible show ACallB _ "len" [PV.own _] _ _); refine ACall_lenO (In.ok (by assumption)) (by rfl) ?hs ?_; (case hs => walk_at "s"))
  | ((with_reducible show ATru _ (PV.own _) _ _); refine ATru_own (In.ok (by assumption)) (by rfl) ?hs ?_; (case hs => walk_at "s")))
local macro_rules | `(tactic| walk_at "expr") => `(tactic| first
  | with_reducible refine AE_int (In.ok (by assumption)) ?_
  | with_reducible refine AE_str (In.ok (by assumption)) ?_
  | with_reducible refine AE_none (In.ok (by assumption)) ?_
  | with_reducible refine AE_bool (In.ok (by assumption)) ?_
  | ((with_reducible show AE _ (Expr.Name _ _) _ _); walk_at "name")
  | with_reducible refine AE_BinOp (In.ok (by assumption)) ?_
  | ((with_reducible show AE _ (Expr.Compare _ [_] [_] _) _ _); refine AE_Compare (In.ok (by assumption)) ?_)
  | with_reducible refine AE_IfExp ?_
  | with_reducible refine AE_Unary (In.ok (by assumption)) ?_
  | with_reducible refine AE_Slice (In.ok (by assumption)) ?_
  | with_reducible refine AE_Tuple (In.ok (by assumption)) ?_
  | ((with_reducible show AE _ (Expr.Subscript _ _ _) _ _); refine AE_Item (In.ok (by assumption)) ?_)
  | walk_at "meth"
  | ((with_reducible show AE _ (Expr.Call (Expr.Name _ _) _ _ _) _ _); first
      | refine AE_bi (by assumption) (by rfl) (by rfl) (by rfl) ?_
      | refine AE_ty (by assumption) (by rfl) (by rfl) (by rfl) ?_))
local macro_rules | `(tactic| walk_at "test") => `(tactic| first
  | ((with_reducible show AT _ (Expr.Compare _ [_] [_] _) _ _); refine AT_Compare (In.ok (by assumption)) ?_)
  | with_reducible refine AT_not ?_
  | with_reducible refine AAll_nilA ?_
  | with_reducible refine AAll_nilO ?_
  | with_reducible refine AAll_and ?_
  | with_reducible refine AAll_or ?_
  | ((with_reducible show AT _ (Expr.BoolOp _ _ _) _ _); fail "bool")
  | ((with_reducible show AT _ _ _ _); refine AT_plain ?_))
local macro_rules | `(tactic| walk_at "op") => `(tactic| first
  | with_reducible refine iteT ?_
  | with_reducible refine iteF ?_
  | with_reducible refine ATru_bool ?_
  | with_reducible refine ATru_none ?_
  | with_reducible refine ATru_int ?_
  | with_reducible refine ATru_mt ?_
  | (with_reducible refine ATru_str (In.ok (by assumption)) ?hs ?_; (case hs => walk_at "s"))
  | (with_reducible refine ATru_list (In.ok (by assumption)) ?hs ?_; (case hs => walk_at "s"))
  | with_reducible refine ACmp_eqS ?_
  | with_reducible refine ACmp_neS ?_
  | with_reducible refine ACmp_inS ?_
  | with_reducible refine ACmp_notinS ?_
  | with_reducible refine ACmp_eqI ?_
  | with_reducible refine ACmp_neI ?_
  | with_reducible refine ACmp_ltI ?_
  | with_reducible refine ACmp_leI ?_
  | with_reducible refine ACmp_gtI ?_
  | with_reducible refine ACmp_geI ?_
  | with_reducible refine ACmp_isB ?_
  | with_reducible refine ACmp_isnotB ?_
  | with_reducible refine ACmp_isN ?_
  | with_reducible refine ACmp_isnotN ?_
  | with_reducible refine ABin_addI (In.ok (by assumption)) ?_
  | with_reducible refine ABin_subI (In.ok (by assumption)) ?_
  | ((with_reducible show ABin _ Operator.Mod (PV.dat (PyData.int _)) (PV.dat (PyData.int _)) _ _); refine ABin_modI (In.ok (by assumption)) (by decide) ?_)
  | ((with_reducible show ABin _ Operator.FloorDiv (PV.dat (PyData.int _)) (PV.dat (PyData.int _)) _ _); refine ABin_divI (In.ok (by assumption)) (by decide) (by decide) ?_)
  | with_reducible refine AUn_neg (In.ok (by assumption)) ?_
  | (with_reducible refine ABin_addS (In.ok (by assumption)) ?hs ?_; (case hs => walk_at "s"))
  | (with_reducible refine ASl_str (In.ok (by assumption)) ?hs ?_; (case hs => walk_at "s"))
  | (with_reducible refine ASl_list (In.ok (by assumption)) ?hs ?_; (case hs => walk_at "s"))
  | with_reducible refine ABo_last ?_
  | with_reducible refine ABo_and (In.ok (by assumption)) ?_
  | with_reducible refine ABo_or (In.ok (by assumption)) ?_)
local macro_rules | `(tactic| walk_at "row") => `(tactic| first
  | refine ⟨Nat.le_of_ble_eq_true rfl, [], rfl, ?_⟩
  | refine ⟨Nat.le_of_ble_eq_true rfl, [_], rfl, ?_⟩
  | refine ⟨Nat.le_of_ble_eq_true rfl, [_, _], rfl, ?_⟩
  | refine ⟨Nat.le_of_ble_eq_true rfl, [_, _, _], rfl, ?_⟩
  | refine ⟨Nat.le_of_ble_eq_true rfl, [_, _, _, _], rfl, ?_⟩
  | refine ⟨Nat.le_of_ble_eq_true rfl, [_, _, _, _, _], rfl, ?_⟩
  | refine ⟨Nat.le_of_ble_eq_true rfl, [_, _, _, _, _, _], rfl, ?_⟩
  | refine ⟨Nat.le_of_ble_eq_true rfl, [_, _, _, _, _, _, _], rfl, ?_⟩
  | refine ⟨Nat.le_of_ble_eq_true rfl, [_, _, _, _, _, _, _, _], rfl, ?_⟩)
local macro_rules | `(tactic| walk_at "call") => `(tactic| first
  | with_reducible refine AEs_nil ?_
  | ((with_reducible show AEs _ _ (_ :: _) _ _); refine AEs_cons (In.ok (by assumption)) ?_)
  | walk_at "gm"
  | (with_reducible refine ACall_lower (In.ok (by assumption)) ?hs ?_; (case hs => walk_at "s"))
  | (with_reducible refine ACall_upper (In.ok (by assumption)) ?hs ?_; (case hs => walk_at "s"))
  | (with_reducible refine ACall_swapcase (In.ok (by assumption)) ?hs ?_; (case hs => walk_at "s"))
  | with_reducible refine ACall_rfind (In.ok (by assumption)) ?_
  | with_reducible refine ACall_find (In.ok (by assumption)) ?_
  | with_reducible refine ACall_startswith ?_
  | with_reducible refine ACall_isspace ?_
  | (with_reducible refine ACall_lstrip (In.ok (by assumption)) ?hs ?_; (case hs => walk_at "s"))
  | (with_reducible refine ACall_rstrip (In.ok (by assumption)) ?hs ?_; (case hs => walk_at "s"))
  | (with_reducible refine ACall_lenS (In.ok (by assumption)) ?hs ?_; (case hs => walk_at "s"))
  | (with_reducible refine ACall_lenL (In.ok (by assumption)) ?hs ?_; (case hs => walk_at "s"))
  | with_reducible refine ACall_sum (In.ok (by assumption)) ?_
  | with_reducible refine ACall_range1 (In.ok (by assumption)) ?_
  | with_reducible refine ACall_range2 (In.ok (by assumption)) ?_)
local macro_rules | `(tactic| walk_at "store") => `(tactic| first
  | ((with_reducible show ASt _ _ _ _ _); first | refine ASt_loc (by assumption) (by rfl) ?_ | refine ASt_cel (by assumption) (by rfl) ?_)
  | with_reducible refine AAsg_name ?_)
local macro_rules | `(tactic| walk_at "slice") => `(tactic| first
  | with_reducible refine AOpt_none ?_
  | with_reducible refine AOpt_some ?_
  | with_reducible refine exInt ?_)
local macro_rules | `(tactic| walk_at "m1") => `(tactic| first
  | walk_at "stmt" | walk_at "test" | walk_at "slice" | walk_at "expr" | walk_at "own" | walk_at "call" | walk_at "op" | walk_at "store" | dsimp only)
local macro_rules | `(tactic| walk_at "m") => `(tactic| repeat walk_at "m1")
local macro_rules | `(tactic| walk_at "mm") => `(tactic| repeat (first | walk_at "m1" | with_reducible refine AT_BoolOp ?_ | with_reducible refine AE_BoolOp ?_))
local macro_rules | `(tactic| walk_at "x") => `(tactic| repeat (first | walk_at "test" | walk_at "slice" | walk_at "expr" | walk_at "own" | walk_at "call" | walk_at "op" | walk_at "store" | dsimp only))
def runL : List (List Nat) → List (List Nat) → Nat
  | h :: hs, o :: os => if h = o then 1 + runL hs os else if o.isPrefixOf h then 1 else 0
  | _, _ => 0
def bestF : List (List Nat) → List (List Nat) → Nat
  | [], _ => 0
  | h :: r, os => max (bestF r os) (runL (h :: r) os)
theorem runL_nil (hs : List (List Nat)) : runL hs [] = 0 := by cases hs <;> rfl
theorem starts_S (a b : List Nat) : Txt.startswith (S a) (S b) = b.isPrefixOf a := by
  unfold Txt.startswith
  rw [StrLaws.subAt_eq]
  simp only [S_len]
  rw [Bool.eq_iff_iff, List.isPrefixOf_iff_prefix]
  simp only [Nat.zero_add, List.drop_zero, Bool.and_eq_true, decide_eq_true_eq, beq_iff_eq]
  show b.length ≤ a.length ∧ a.take b.length = b ↔ _
  constructor
  · rintro ⟨h1, h2⟩; rw [← h2]; exact List.take_prefix _ _
  · rintro ⟨c, rfl⟩; simp
abbrev tab {α : Type} (n : Nat) (f : Nat → α) : List α := (List.range n).map f
theorem tab_get {α : Type} {n : Nat} {f : Nat → α} {p : Nat} (h : p < n) : (tab n f)[p]? = some (f p) := by
  rw [List.getElem?_map, List.getElem?_range h]; rfl
theorem tab_set {α : Type} {n : Nat} {f : Nat → α} {p : Nat} {v : α} : (tab n f).set p v = tab n fun q => if q = p then v else f q := by
  apply List.ext_getElem?
  intro i
  rw [List.getElem?_set]
  by_cases hi : i < n
  · rw [tab_get hi, tab_get hi]
    by_cases h : p = i
    · subst h
      simp [hi]
    · rw [if_neg h, if_neg (fun q => h q.symm)]
  · rw [List.getElem?_eq_none (by simp; omega), List.getElem?_eq_none (by simp; omega)]
    simp [tab, hi]
    omega
theorem own_end {α : Type} (N : List α) (x : α) : (N ++ [x])[N.length]? = some x := by simp
theorem set_end {α : Type} (N : List α) (x y : α) : (N ++ [x]).set N.length y = N ++ [y] := by simp
theorem tab_len {α : Type} {n : Nat} {f : Nat → α} : (tab n f).length = n := by simp
theorem zeros (l : List (List Nat)) : (l.map fun x => PyData.str (S x)).filterMap (fun _ => some (PyData.int 0)) = tab l.length fun _ => .int 0 := by
  apply List.ext_getElem?
  intro i
  rw [List.filterMap_eq_map', List.getElem?_map, List.getElem?_map, List.getElem?_map]
  by_cases h : i < l.length
  · rw [List.getElem?_eq_getElem h, List.getElem?_range h]; rfl
  · rw [List.getElem?_eq_none (by omega), List.getElem?_eq_none (by simp; omega)]; rfl
theorem tab_succ {α : Type} {n : Nat} {f : Nat → α} : tab (n + 1) f = tab n f ++ [f n] := by simp [tab, List.range_succ]
def maxD (b h : Nat → Nat) : PyData → Option PyData
  | .int i => some (.int ((max (b i.toNat) (h i.toNat) : Nat) : Int))
  | _ => none
theorem maxD_tab (b h : Nat → Nat) (n : Nat) : (rngItems 0 (n : Int) 1).filterMap (maxD b h) = tab n fun p => .int ((max (b p) (h p) : Nat) : Int) := by
  rw [rngItems_one, List.filterMap_map]
  rw [show ((n : Int) - 0).toNat = n by omega]
  have : (maxD b h ∘ fun k : Nat => PyData.int (0 + (k : Int))) = fun p : Nat => some (PyData.int ((max (b p) (h p) : Nat) : Int)) := by
    funext p
    show some (PyData.int ((max (b ((0 : Int) + (p : Int)).toNat) (h ((0 : Int) + (p : Int)).toNat) : Nat) : Int)) = _
    rw [show ((0 : Int) + (p : Int)).toNat = p by omega]
  rw [this, List.filterMap_eq_map']
theorem row_get {l : List (List Nat)} {i : Nat} (h : i < l.length) : (l.map fun x => PyData.str (S x))[i]? = some (.str (S l[i])) := by
  rw [List.getElem?_map, List.getElem?_eq_getElem h]; rfl

theorem runs_fn (prog : Program) (w : World) (host other : List (List Nat)) (h1 : host ≠ []) (hl1 : host.length ≤ 30) (hl2 : other.length ≤ 8) : Fn prog w (Base (KK w)) 62 1 [.dat (rowD host), .dat (rowD other)] fun d => d = plist (tab other.length fun p => .int (bestF (host.drop 1) (other.drop p) : Int)) := by
  refine Fn.of (fd := _) (body := _) (ps := ["host", "other"]) (fun h b => b.fn (fd := _) rfl) (fun h b => b.lim) (fun h b => b.code rfl) rfl (fun vs hv => ?_) rfl (by decide) ?_ ?_
  · match vs, hv with
    | [v, u], _ => rfl
  · intro x hx
    simp only [List.mem_cons, List.not_mem_nil, or_false] at hx
    rcases hx with rfl | rfl <;> exact .inl rfl
  · intro C hIn
    dsimp only at hIn ⊢
    unfold rowD
    have hpos : 0 < host.length := List.length_pos_iff.mpr h1
    have hhz : (host.map fun l => PyData.str (S l)).length ≤ sizeLine := by rw [List.length_map, sizeLine_eq]; omega
    have hoz : (other.map fun l => PyData.str (S l)).length ≤ sizeLine := by rw [List.length_map, sizeLine_eq]; omega
    refine AS_cons (AX_Assign (AE_Comp hIn [] rfl ?_) (swaps_no hIn rfl))
    walk_at "x"
    refine ⟨_, fun _ => some (.int 0), AItr_list, CapOk.nil, hoz, ?_, ?_⟩
    · intro C' hIn' y hy l
      refine AIfs_nil ?_
      rw [if_pos rfl]
      walk_at "x"
      exact ⟨rfl, _, rfl, rfl⟩
    rw [zeros]
    walk_at "x"
    refine AS_cons (AX_Assign (AE_BinOp hIn.ok (AE_Comp hIn [] rfl ?_)))
    walk_at "x"
    refine ⟨_, fun _ => some (.int 0), AItr_list, CapOk.nil, hoz, ?_, ?_⟩
    · intro C' hIn' y hy l
      refine AIfs_nil ?_
      rw [if_pos rfl]
      walk_at "x"
      exact ⟨rfl, _, rfl, rfl⟩
    rw [zeros]
    refine AE_List hIn.ok ?_
    walk_at "x"
    walk_at "row"
    refine ABin_addL hIn.ok (by rw [tab_len, sizeLine_eq]; simp only [List.length_cons, List.length_nil]; omega) ?_
    walk_at "x"
    refine AS_cons (AX_For hIn.ok ?_)
    walk_at "x"
    rw [List.length_map]
    refine ACall_range3 hIn.ok (by decide) (by decide) ?_
    have hsm : Builtin.Range.small ((host.length : Int) - 1) 0 (-1) = true := small_down (by omega) (by omega) (by omega) (by omega)
    refine ⟨_, AItr_rng hsm, fun r st => ∃ (t : Nat) (N : List (Option (List PV))), t < host.length ∧ r = (List.range t).map (fun k : Nat => .int ((t : Int) - (k : Int))) ∧
      st = ⟨[("host", plist (host.map fun l => .str (S l))), ("other", plist (other.map fun l => .str (S l))), ("best", plist (tab other.length fun p => .int (bestF (host.drop (t + 1)) (other.drop p) : Int))), ("below", plist (tab (other.length + 1) fun p => .int (runL (host.drop (t + 1)) (other.drop p) : Int)))], N⟩,
      ⟨_, Wk.of (lk_cons rfl (lk_cons rfl (lk_cons ?_ (lk_cons ?_ lk_nil)))), host.length - 1, [], by omega, ?_, rfl⟩, ?_, ?_⟩
    · rw [show host.length - 1 + 1 = host.length by omega, List.drop_length]; rfl
    · rw [show host.length - 1 + 1 = host.length by omega, List.drop_length, tab_succ]; rfl
    · unfold rngItems
      rw [rangeSize_downNat, show (((host.length : Int) - 1 - 0).toNat : Int).toNat = host.length - 1 by omega]
      apply List.map_congr_left
      intro k hk
      have := List.mem_range.mp hk
      congr 1; omega
    · rintro x r st ⟨t, N, ht, hr, rfl⟩
      cases t with
      | zero => cases hr
      | succ t =>
        rw [List.range_succ_eq_map, List.map_cons, List.map_map, List.cons.injEq] at hr
        obtain ⟨rfl, rfl⟩ := hr
        rw [show ((t + 1 : Nat) : Int) - ((0 : Nat) : Int) = ((t + 1 : Nat) : Int) by omega]
        walk_at "x"
        refine AS_cons (AX_Assign (AE_BinOp hIn.ok (AE_Comp hIn [] rfl ?_)))
        walk_at "x"
        refine ⟨_, fun _ => some (.int 0), AItr_list, CapOk.nil, hoz, ?_, ?_⟩
        · intro C' hIn' y hy l
          refine AIfs_nil ?_
          rw [if_pos rfl]
          walk_at "x"
          exact ⟨rfl, _, rfl, rfl⟩
        rw [zeros]
        refine AE_List hIn.ok ?_
        walk_at "x"
        walk_at "row"
        refine ABin_addOwn hIn.ok (by rw [tab_len, sizeLine_eq]; simp only [List.length_cons, List.length_nil]; omega) ?_
        walk_at "x"
        refine AS_cons (AX_For hIn.ok ?_)
        walk_at "x"
        rw [List.length_map]
        have hsm2 : Builtin.Range.small 0 (other.length : Int) 1 = true := small_one (by decide) (by decide) (by omega) (by omega)
        refine ⟨_, AItr_rng hsm2, fun r st => ∃ (p m : Nat), p + m = other.length ∧ r = (List.range' p m).map (fun k : Nat => .int (k : Int)) ∧
          st = ⟨[("host", plist (host.map fun l => .str (S l))), ("other", plist (other.map fun l => .str (S l))), ("best", plist (tab other.length fun p => .int (bestF (host.drop (t + 1 + 1)) (other.drop p) : Int))), ("below", plist (tab (other.length + 1) fun p => .int (runL (host.drop (t + 1 + 1)) (other.drop p) : Int))), ("t", pint ((t + 1 : Nat) : Int)), ("here", .own N.length)], N ++ [some (tab (other.length + 1) fun q => pint (if q < p then (runL (host.drop (t + 1)) (other.drop q) : Int) else 0))]⟩,
          ⟨_, ⟨?_, lk_cons rfl (lk_cons rfl (lk_cons rfl (lk_cons rfl (lk_cons rfl (lk_cons rfl lk_nil)))))⟩, 0, other.length, by omega, ?_, rfl⟩, ?_, ?_⟩
        · show _ = N ++ [some ((tab other.length (fun _ => PyData.int 0) ++ [PyData.int 0]).map PV.dat)]
          rw [← tab_succ (f := fun _ => PyData.int 0), List.map_map]
          rfl
        · rw [rngItems_one, List.range_eq_range']
          simp
        · rintro y r st ⟨p, m, hpm, hr2, rfl⟩
          cases m with
          | zero => cases hr2
          | succ m =>
            rw [List.range'_succ, List.map_cons, List.cons.injEq] at hr2
            obtain ⟨rfl, rfl⟩ := hr2
            have hp : p < other.length := by omega
            have ed1 : host.drop (t + 1) = host[t + 1] :: host.drop (t + 1 + 1) := List.drop_eq_getElem_cons ht
            have ed2 : other.drop p = other[p] :: other.drop (p + 1) := List.drop_eq_getElem_cons hp
            have hset : ∀ v : Int, v = (runL (host.drop (t + 1)) (other.drop p) : Int) → (tab (other.length + 1) fun q => pint (if q < p then (runL (host.drop (t + 1)) (other.drop q) : Int) else 0)).set p (pint v) = tab (other.length + 1) fun q => pint (if q < p + 1 then (runL (host.drop (t + 1)) (other.drop q) : Int) else 0) := by
              intro v hv
              rw [tab_set]
              apply List.map_congr_left
              intro q hq
              by_cases e : q = p
              · subst e; rw [if_pos rfl, if_pos (by omega), hv]
              · rw [if_neg e]
                by_cases e2 : q < p
                · rw [if_pos e2, if_pos (by omega)]
                · rw [if_neg e2, if_neg (by omega)]
            have hself : (runL (host.drop (t + 1)) (other.drop p) : Int) = 0 → (tab (other.length + 1) fun q => pint (if q < p + 1 then (runL (host.drop (t + 1)) (other.drop q) : Int) else 0)) = tab (other.length + 1) fun q => pint (if q < p then (runL (host.drop (t + 1)) (other.drop q) : Int) else 0) := by
              intro hv
              apply List.map_congr_left
              intro q hq
              by_cases e : q = p
              · subst e; rw [if_pos (by omega), if_neg (by omega), hv]
              · by_cases e2 : q < p
                · rw [if_pos e2, if_pos (by omega)]
                · rw [if_neg e2, if_neg (by omega)]
            walk_at "x"
            refine AS_cons (AX_If ?_)
            walk_at "x"
            refine AItem_list (t + 1) (.inl ⟨by omega, by omega⟩) (row_get ht) hhz ?_
            walk_at "x"
            refine AItem_list p (.inl ⟨by omega, by omega⟩) (row_get hp) hoz ?_
            walk_at "x"
            refine ite_of (fun h3 => ?_) (fun h3 => ?_)
            · have h3' : host[t + 1] = other[p] := S_inj.mp (of_decide_eq_true h3)
              refine AS_cons (AX_SetItem hIn.ok ?_)
              walk_at "x"
              refine AItem_list (p + 1) (.inl ⟨by omega, by omega⟩) (tab_get (by omega)) (by rw [tab_len, sizeLine_eq]; omega) ?_
              walk_at "x"
              refine ⟨_, _, p, rfl, rfl, own_end _ _, by rw [tab_len]; omega, by rw [tab_len, sizeLine_eq]; omega, ?_⟩
              walk_at "m"
              refine ⟨_, ⟨?_, lk_cons rfl (lk_cons rfl (lk_cons rfl (lk_cons rfl (lk_cons rfl (lk_cons rfl lk_nil)))))⟩, p + 1, m, by omega, rfl, rfl⟩
              show _ = (N ++ [_]).set N.length _
              rw [set_end, hset]
              rw [ed1, ed2, runL, if_pos h3']; push_cast; rfl
            · have h3' : ¬ host[t + 1] = other[p] := fun q => by rw [q] at h3; simp at h3
              refine AS_cons (AX_If ?_)
              walk_at "x"
              refine AItem_list (t + 1) (.inl ⟨by omega, by omega⟩) (row_get ht) hhz ?_
              walk_at "x"
              refine AItem_list p (.inl ⟨by omega, by omega⟩) (row_get hp) hoz ?_
              walk_at "x"
              rw [starts_S]
              refine ite_of (fun h4 => ?_) (fun h4 => ?_)
              · refine AS_cons (AX_SetItem hIn.ok ?_)
                walk_at "x"
                refine ⟨_, _, p, rfl, rfl, own_end _ _, by rw [tab_len]; omega, by rw [tab_len, sizeLine_eq]; omega, ?_⟩
                walk_at "m"
                refine ⟨_, ⟨?_, lk_cons rfl (lk_cons rfl (lk_cons rfl (lk_cons rfl (lk_cons rfl (lk_cons rfl lk_nil)))))⟩, p + 1, m, by omega, rfl, rfl⟩
                show _ = (N ++ [_]).set N.length _
                rw [set_end, hset]
                rw [ed1, ed2, runL, if_neg h3', if_pos h4]; rfl
              · walk_at "m"
                refine ⟨_, ⟨?_, lk_cons rfl (lk_cons rfl (lk_cons rfl (lk_cons rfl (lk_cons rfl (lk_cons rfl lk_nil)))))⟩, p + 1, m, by omega, rfl, rfl⟩
                have hs0 := hself (by rw [ed1, ed2, runL, if_neg h3', if_neg (by rw [h4]; simp)]; rfl)
                rw [hs0]; rfl
        · rintro st ⟨p, m, hpm, hr2, rfl⟩
          have hm : m = 0 := by cases m with
            | zero => rfl
            | succ => rw [List.range'_succ] at hr2; cases hr2
          have hp : p = other.length := by omega
          subst hp
          have ehere : (tab (other.length + 1) fun q => pint (if q < other.length then (runL (host.drop (t + 1)) (other.drop q) : Int) else 0)) = tab (other.length + 1) fun q => pint (runL (host.drop (t + 1)) (other.drop q) : Int) := by
            apply List.map_congr_left
            intro q hq
            by_cases e : q < other.length
            · rw [if_pos e]
            · rw [if_neg e, List.drop_eq_nil_of_le (as := other) (by omega), runL_nil]; rfl
          rw [ehere]
          refine AG.freezeTo hIn.ok (i := N.length) (xs := tab (other.length + 1) fun q => .int (runL (host.drop (t + 1)) (other.drop q) : Int)) ⟨[("host", plist (host.map fun l => .str (S l))), ("other", plist (other.map fun l => .str (S l))), ("best", plist (tab other.length fun p => .int (bestF (host.drop (t + 1 + 1)) (other.drop p) : Int))), ("here", plist (tab (other.length + 1) fun q => .int (runL (host.drop (t + 1)) (other.drop q) : Int)))], _⟩ ?_ (lkm_cons rfl (lkm_cons rfl (lkm_cons rfl (lkm_cons (congrArg some sub_eq) lkm_nil)))) rfl ?_
          · rw [List.map_map]; exact own_end _ _
          · refine AS_cons (AX_Assign (AE_Comp hIn [("best", plist (tab other.length fun p => .int (bestF (host.drop (t + 1 + 1)) (other.drop p) : Int))), ("here", plist (tab (other.length + 1) fun q => .int (runL (host.drop (t + 1)) (other.drop q) : Int)))] rfl ?_) (swaps_no hIn rfl))
            walk_at "x"
            rw [List.length_map]
            refine ⟨_, maxD (fun p => bestF (host.drop (t + 1 + 1)) (other.drop p)) (fun p => runL (host.drop (t + 1)) (other.drop p)), AItr_rng hsm2, CapOk.cons rfl rfl rfl rfl (CapOk.cons rfl rfl rfl rfl CapOk.nil), ?_, ?_, ?_⟩
            · rw [rngItems_one, List.length_map, List.length_range, sizeLine_eq]; omega
            · intro C' hIn' y hy l
              rw [rngItems_one] at hy
              obtain ⟨p, hp, rfl⟩ := List.mem_map.mp hy
              have hp' : p < other.length := by have := List.mem_range.mp hp; omega
              refine AIfs_nil ?_
              rw [if_pos rfl]
              walk_at "x"
              refine AItem_list p (.inl ⟨by omega, by omega⟩) (tab_get hp') (by rw [tab_len, sizeLine_eq]; omega) ?_
              walk_at "x"
              refine AItem_list p (.inl ⟨by omega, by omega⟩) (tab_get (by omega)) (by rw [tab_len, sizeLine_eq]; omega) ?_
              walk_at "x"
              refine ACall_max hIn'.ok ?_
              refine ⟨rfl, _, rfl, ?_⟩
              show some (PyData.int ((max (bestF (host.drop (t + 1 + 1)) (other.drop ((0 : Int) + (p : Int)).toNat)) (runL (host.drop (t + 1)) (other.drop ((0 : Int) + (p : Int)).toNat)) : Nat) : Int)) = _
              rw [show ((0 : Int) + (p : Int)).toNat = p by omega]
              have em : ∀ a b : Nat, ((max a b : Nat) : Int) = if (b : Int) > (a : Int) then (b : Int) else (a : Int) := by
                intro a b; split <;> omega
              rw [em]
            · rw [maxD_tab]
              walk_at "m"
              refine ⟨⟨[("host", plist (host.map fun l => .str (S l))), ("other", plist (other.map fun l => .str (S l))), ("best", plist (tab other.length fun p => .int (bestF (host.drop (t + 1)) (other.drop p) : Int))), ("below", plist (tab (other.length + 1) fun p => .int (runL (host.drop (t + 1)) (other.drop p) : Int)))], _⟩, ⟨rfl, lk_cons rfl (lk_cons rfl (lk_cons ?_ (lk_cons rfl lk_nil)))⟩, t, _, by omega, ?_, rfl⟩
              · have ed1 : host.drop (t + 1) = host[t + 1] :: host.drop (t + 1 + 1) := List.drop_eq_getElem_cons ht
                have e : (fun p : Nat => PyData.int ((max (bestF (host.drop (t + 1 + 1)) (other.drop p)) (runL (host.drop (t + 1)) (other.drop p)) : Nat) : Int)) = fun p => PyData.int (bestF (host.drop (t + 1)) (other.drop p) : Int) := by
                  funext p
                  rw [ed1, bestF]
                exact congrArg (fun f => some (plist (tab other.length f))) e
              · apply List.map_congr_left
                intro k hk
                exact congrArg PyData.int (show ((t + 1 : Nat) : Int) - ((k + 1 : Nat) : Int) = (t : Int) - (k : Int) by omega)
    · rintro st ⟨t, N, ht, hr, rfl⟩
      have htz : t = 0 := by cases t with
        | zero => rfl
        | succ => rw [List.range_succ_eq_map] at hr; cases hr
      subst htz
      walk_at "m"
      exact ⟨rfl, rfl⟩
end Mine

end
section
open PySem PySem.W PyProof.Rows PySem.Calls
set_option linter.all false
set_option Elab.async false
set_option maxRecDepth 100000
set_option maxHeartbeats 8000000
namespace Mine
open PySem.Sre
abbrev lowR (row : List (List Nat)) : List (List Nat) := row.map (List.map lowA)
def L04low : List (List Nat) := L04.map (List.map lowA)
def isNum (l : List Nat) : Bool := decide (l = [55]) || decide (l = [55, 55])
theorem L04_lab : ∀ l ∈ L04, Lab (l.map lowA) ∧ (l.map lowA).all isDigit = isNum l := by
  intro l hl
  have : l = [97] ∨ l = [65, 98] ∨ l = [55] ∨ l = [55, 55] ∨ l = [55, 97] ∨ l = [66] := by simpa [L04] using hl
  rcases this with rfl | rfl | rfl | rfl | rfl | rfl <;> (refine ⟨⟨by decide, by decide, by decide⟩, by decide⟩)
theorem L04_ascii : ∀ l ∈ L04, ∀ c ∈ l, c < 128 := by decide
theorem lowR_labs {row : List (List Nat)} (h : ∀ l ∈ row, l ∈ L04) : Labs (lowR row) := fun l hl => by
  obtain ⟨a, ha, rfl⟩ := List.mem_map.mp hl
  exact (L04_lab a (h a ha)).1
theorem mem_flat {c : Nat} : ∀ {rs : List (List Nat)}, c ∈ flat rs → c = 46 ∨ ∃ r ∈ rs, c ∈ r
  | [], h => nomatch h
  | r :: rs, h => by
    rw [flat] at h
    rcases List.mem_cons.mp h with rfl | h
    · exact .inl rfl
    · rcases List.mem_append.mp h with h | h
      · exact .inr ⟨r, List.mem_cons_self, h⟩
      · rcases mem_flat h with h | ⟨q, hq, h⟩
        · exact .inl h
        · exact .inr ⟨q, List.mem_cons_of_mem _ hq, h⟩
theorem mem_join {c : Nat} {rs : List (List Nat)} (h : c ∈ joinL rs) : c = 46 ∨ ∃ r ∈ rs, c ∈ r := by
  cases rs with
  | nil => cases h
  | cons r rs =>
    rcases List.mem_append.mp h with h | h
    · exact .inr ⟨r, List.mem_cons_self, h⟩
    · rcases mem_flat h with h | ⟨q, hq, h⟩
      · exact .inl h
      · exact .inr ⟨q, List.mem_cons_of_mem _ hq, h⟩
theorem join_ascii {row : List (List Nat)} (h : ∀ l ∈ row, l ∈ L04) : ∀ c ∈ joinL row, c < 128 := by
  intro c hc
  rcases mem_join hc with rfl | ⟨r, hr, hc⟩
  · decide
  · exact L04_ascii r (h r hr) c hc
theorem low_up : ∀ c < 128, lowA (upA c) = lowA c ∧ upA c < 128 := by decide
theorem lower_upper {row : List (List Nat)} (h : ∀ l ∈ row, l ∈ L04) : Txt.lower (Txt.upper (S (joinL row))) = S (joinL (lowR row)) := by
  have ha := join_ascii h
  rw [upper_ascii _ ha, lower_ascii _ (fun c hc => by
    obtain ⟨d, hd, rfl⟩ := List.mem_map.mp hc
    exact (low_up d (ha d hd)).2), List.map_map]
  rw [show (joinL row).map (lowA ∘ upA) = (joinL row).map lowA from List.map_congr_left fun c hc => (low_up c (ha c hc)).1, join_map lowA rfl]
theorem lower_dot {row : List (List Nat)} (h : ∀ l ∈ row, l ∈ L04) : Txt.lower (S (46 :: joinL row)) = S (46 :: joinL (lowR row)) := by
  rw [lower_ascii _ (fun c hc => by
    rcases List.mem_cons.mp hc with rfl | hc
    · decide
    · exact join_ascii h c hc), List.map_cons, join_map lowA rfl]; rfl

theorem pre_run : ∀ (os xs : List (List Nat)) (m : Nat), 1 ≤ m → m ≤ os.length → (preR (os.take m) xs = true ↔ m ≤ runL xs os)
  | [], _, m, h1, h2 => by simp at h2; omega
  | o :: os, xs, 0, h1, _ => by omega
  | o :: os, [], m + 1, _, _ => by simp [preR, runL]
  | o :: os, x :: xs, 1, _, _ => by
    rw [List.take_succ_cons, List.take_zero, preR, runL]
    by_cases h : x = o
    · subst h; simp
    · rw [if_neg h]
      cases h2 : o.isPrefixOf x <;> simp
  | o :: os, x :: xs, m + 2, _, h2 => by
    have ih := pre_run os xs (m + 1) (by omega) (by simp at h2; omega)
    rw [List.take_succ_cons, runL]
    cases e : os.take (m + 1) with
    | nil => 
      have := congrArg List.length e
      rw [List.length_take] at this
      simp only [List.length_nil, List.length_cons] at this h2
      omega
    | cons p ps =>
      rw [e] at ih
      rw [preR, Bool.and_eq_true, ih, decide_eq_true_eq]
      · by_cases h : x = o
        · subst h; simp; omega
        · rw [if_neg h]
          constructor
          · rintro ⟨e, _⟩; exact absurd e.symm h
          · intro h3; split at h3 <;> omega
      · simp
theorem any_best (os : List (List Nat)) (m : Nat) (h1 : 1 ≤ m) (h2 : m ≤ os.length) : ∀ rs : List (List Nat), ((List.range rs.length).any fun t => preR (os.take m) (rs.drop t)) = decide (m ≤ bestF rs os)
  | [] => by simp [bestF]; omega
  | r :: rs => by
    have ih := any_best os m h1 h2 rs
    rw [List.length_cons, List.range_succ_eq_map, List.any_cons, List.any_map]
    have e : ((fun t => preR (os.take m) ((r :: rs).drop t)) ∘ Nat.succ) = fun t => preR (os.take m) (rs.drop t) := by funext t; rfl
    rw [e, ih, bestF, List.drop_zero, Bool.eq_iff_iff, Bool.or_eq_true, pre_run os _ m h1 h2, decide_eq_true_eq, decide_eq_true_eq]
    omega

theorem last_num {row : List (List Nat)} (h : ∀ l ∈ row, l ∈ L04) (hne : row ≠ []) : lastNum (lowR row) = isNum (row.getLast hne) := by
  unfold lastNum
  rw [List.getLast?_map, List.getLast?_eq_some_getLast hne]
  exact (L04_lab _ (h _ (List.getLast_mem hne))).2
def name04 (host : List (List Nat)) : Bool := decide (host.length = 1) || !isNum (host.getD (host.length - 1) [])
theorem getLast_D {row : List (List Nat)} (hne : row ≠ []) : row.getLast hne = row.getD (row.length - 1) [] := by
  have := List.length_pos_iff.mpr hne
  rw [List.getLast_eq_getElem, List.getD_eq_getElem?_getD, List.getElem?_eq_getElem (by omega)]; rfl
theorem hdn_row {row : List (List Nat)} (h : ∀ l ∈ row, l ∈ L04) (hne : row ≠ []) : hdnL (joinL (lowR row)) = name04 row := by
  cases row with
  | nil => exact absurd rfl hne
  | cons r rs =>
    have hl : Labs (lowR (r :: rs)) := lowR_labs h
    have e := last_num h hne
    rw [show lowR (r :: rs) = r.map lowA :: lowR rs from rfl] at hl e ⊢
    rw [hdn_join _ _ hl, e, getLast_D]
    unfold name04
    cases rs with
    | nil => rfl
    | cons a b => simp
theorem dm_04 {host other : List (List Nat)} (h1 : Row04 host) (h2 : Row04 other) {p m : Nat} (hm : 1 ≤ m) (hp : p + m ≤ other.length) :
    dmatch (Txt.upper (S (joinL host))) (S (46 :: joinL ((other.drop p).take m))) = (name04 host && (decide (m ≤ bestF ((lowR host).drop 1) ((lowR other).drop p)) && (decide (m = 1) || !isNum (other.getD (p + m - 1) [])))) := by
  have ho : ∀ l ∈ (other.drop p).take m, l ∈ L04 := fun l hl => h2.2.1 l (List.mem_of_mem_drop (List.mem_of_mem_take hl))
  rw [dmatch_eq _ _ _ _ (lower_upper h1.2.1) (lower_dot ho)]
  obtain ⟨r, rs, e⟩ : ∃ r rs, lowR host = r :: rs := by
    cases host with
    | nil => exact absurd rfl h1.1
    | cons r rs => exact ⟨_, _, rfl⟩
  have hlen : ((other.drop p).take m).length = m := by rw [List.length_take, List.length_drop]; omega
  have hos : (other.drop p).take m ≠ [] := by intro q; rw [q] at hlen; simp at hlen; omega
  have hl : Labs (r :: rs) := by rw [← e]; exact lowR_labs h1.2.1
  have hne : joinL (lowR host) ≠ 46 :: joinL (lowR ((other.drop p).take m)) := by
    rw [e]
    intro q
    exact (join_ends r rs hl).1 (by rw [q]; rfl)
  unfold dmL
  rw [if_neg hne, hdn_row h1.2.1 h1.1, List.drop_succ_cons, List.drop_zero, hdn_row ho hos]
  have hflat : 46 :: joinL (lowR ((other.drop p).take m)) = flat (lowR ((other.drop p).take m)) := by
    cases hc : lowR ((other.drop p).take m) with
    | nil => exact absurd (List.map_eq_nil_iff.mp hc) hos
    | cons a b => rfl
  rw [hflat, e, occ_join r rs _ hl (by intro q; exact hos (List.map_eq_nil_iff.mp q)) (lowR_labs ho)]
  have et : lowR ((other.drop p).take m) = ((lowR other).drop p).take m := by rw [lowR, List.map_take, List.map_drop]
  rw [show (r :: rs).drop 1 = rs from rfl]
  have hh : ((flat (lowR ((other.drop p).take m))).head? == some 46) = true := by rw [← hflat]; rfl
  rw [hh, Bool.and_true, et, any_best _ m hm (by rw [List.length_drop, List.length_map]; omega), Bool.and_assoc]
  congr 2
  unfold name04
  rw [hlen]
  congr 3
  rw [List.getD_eq_getElem?_getD, List.getD_eq_getElem?_getD, List.getElem?_take_of_lt (by omega), List.getElem?_drop]
  congr 2
  omega
end Mine

end
section
open PySem PySem.W PyProof.Rows PySem.Calls
set_option linter.all false
set_option Elab.async false
set_option maxRecDepth 100000
set_option maxHeartbeats 8000000
namespace Mine
local macro_rules | `(tactic| walk_at "s") => `(tactic| first | assumption | omega | decide | (simp only [List.length_map, List.length_append, List.length_cons, List.length_nil, S_len, sizeLine_eq]; omega) | (rw [sizeLine_eq]; omega) | (refine Nat.le_trans (by assumption) ?_; decide))
local macro_rules | `(tactic| walk_at "name") => `(tactic| first
  | refine AE_loc (by assumption) (by rfl) (by rfl) ?_
  | refine AE_cel (by assumption) (by rfl) (by rfl) ?_
  | refine AE_gF (by assumption) (by rfl) (by rfl) ?_
  | refine AE_gB (by assumption) (by rfl) (by rfl) (by rfl) ?_)
local macro_rules | `(tactic| walk_at "stmt") => `(tactic| first
  | with_reducible refine AS_nil ?_
  | with_reducible refine AS_cons ?_
  | with_reducible refine AX_If ?_
  | with_reducible refine AX_Return ?_
  | with_reducible refine AX_Continue ?_
  | with_reducible refine AX_Break ?_
  | with_reducible refine AX_Pass ?_
  | ((with_reducible show AX _ (Stmt.Assign [Expr.Name _ _] _ _) _ _); refine AX_Assign ?_)
  | ((with_reducible show AX _ (Stmt.Expr _ _) _ _); refine AX_ExprI (In.ok (by assumption)) ?_))
local macro_rules | `(tactic| walk_at "meth") => `(tactic| first
  | ((with_reducible show AE _ (Expr.Call (Expr.Attribute _ "lower" _) _ _ _) _ _); refine AE_meth (id := "str.lower") (In.ok (by assumption)) ?_)
  | ((with_reducible show AE _ (Expr.Call (Expr.Attribute _ "upper" _) _ _ _) _ _); refine AE_meth (id := "str.upper") (In.ok (by assumption)) ?_)
  | ((with_reducible show AE _ (Expr.Call (Expr.Attribute _ "swapcase" _) _ _ _) _ _); refine AE_meth (id := "str.swapcase") (In.ok (by assumption)) ?_)
  | ((with_reducible show AE _ (Expr.Call (Expr.Attribute _ "rfind" _) _ _ _) _ _); refine AE_meth (id := "str.rfind") (In.ok (by assumption)) ?_)
  | ((with_reducible show AE _ (Expr.Call (Expr.Attribute _ "find" _) _ _ _) _ _); refine AE_meth (id := "str.find") (In.ok (by assumption)) ?_)
  | ((with_reducible show AE _ (Expr.Call (Expr.Attribute _ "startswith" _) _ _ _) _ _); refine AE_meth (id := "str.startswith") (In.ok (by assumption)) ?_)
  | ((with_reducible show AE _ (Expr.Call (Expr.Attribute _ "lstrip" _) _ _ _) _ _); refine AE_meth (id := "str.lstrip") (In.ok (by assumption)) ?_)
  | ((with_reducible show AE _ (Expr.Call (Expr.Attribute _ "rstrip" _) _ _ _) _ _); refine AE_meth (id := "str.rstrip") (In.ok (by assumption)) ?_)
  | ((with_reducible show AE _ (Expr.Call (Expr.Attribute _ "isspace" _) _ _ _) _ _); refine AE_meth (id := "str.isspace") (In.ok (by assumption)) ?_)
  | ((with_reducible show AE _ (Expr.Call (Expr.Attribute _ "split" _) _ _ _) _ _); refine AE_meth (id := "str.split") (In.ok (by assumption)) ?_)
  | ((with_reducible show AE _ (Expr.Call (Expr.Attribute _ "join" _) _ _ _) _ _); refine AE_meth (id := "str.join") (In.ok (by assumption)) ?_)
  | ((with_reducible show AE _ (Expr.Call (Expr.Attribute _ "replace" _) _ _ _) _ _); refine AE_meth (id := "str.replace") (In.ok (by assumption)) ?_)
  | ((with_reducible show AE _ (Expr.Call (Expr.Attribute _ "append" _) _ _ _) _ _); refine AE_meth (id := "list.append") (In.ok (by assumption)) ?_)
  | ((with_reducible show AE _ (Expr.Call (Expr.Attribute _ "search" _) _ _ _) _ _); refine AE_meth (id := "re.Pattern.search") (In.ok (by assumption)) ?_))
local macro_rules | `(tactic| walk_at "gm") => `(tactic| with_reducible first
  | refine ⟨AGm_lower, ?_⟩ | refine ⟨AGm_upper, ?_⟩ | refine ⟨AGm_swapcase, ?_⟩ | refine ⟨AGm_rfind, ?_⟩ | refine ⟨AGm_find, ?_⟩ | refine ⟨AGm_startswith, ?_⟩
  | refine ⟨AGm_lstrip, ?_⟩ | refine ⟨AGm_rstrip, ?_⟩ | refine ⟨AGm_isspace, ?_⟩ | refine ⟨AGm_split, ?_⟩ | refine ⟨AGm_join, ?_⟩ | refine ⟨AGm_replace, ?_⟩)
local macro_rules | `(tactic| walk_at "own") => `(tactic| first
  | ((with_reducible show AGm _ (PV.own _) "append" _ _ ∧ _); refine ⟨AGm_append (by rfl), ?_⟩)
  | ((with_reducible show ACallB _ "list.append" _ _ _); refine ACall_append (In.ok (by assumption)) (by rfl) ?hs ?_; (case hs => walk_at "s"))
  | ((with_reducible show ACallB _ "len" [PV.own _] _ _); refine ACall_lenO (In.ok (by assumption)) (by rfl) ?hs ?_; (case hs => walk_at "s"))
  | ((with_reducible show ATru _ (PV.own _) _ _); refine ATru_own (In.ok (by assumption)) (by rfl) ?hs ?_; (case hs => walk_at "s")))
local macro_rules | `(tactic| walk_at "expr") => `(tactic| first
  | with_reducible refine AE_int (In.ok (by assumption)) ?_
  | with_reducible refine AE_str (In.ok (by assumption)) ?_
  | with_reducible refine AE_none (In.ok (by assumption)) ?_
  | with_reducible refine AE_bool (In.ok (by assumption)) ?_
  | ((with_reducible show AE _ (Expr.Name _ _) _ _); walk_at "name")
  | with_reducible refine AE_BinOp (In.ok (by assumption)) ?_
  | ((with_reducible show AE _ (Expr.Compare _ [_] [_] _) _ _); refine AE_Compare (In.ok (by assumption)) ?_)
  | with_reducible refine AE_IfExp ?_
  | with_reducible refine AE_Unary (In.ok (by assumption)) ?_
  | with_reducible refine AE_Slice (In.ok (by assumption)) ?_
  | with_reducible refine AE_Tuple (In.ok (by assumption)) ?_
  | ((with_reducible show AE _ (Expr.Subscript _ _ _) _ _); refine AE_Item (In.ok (by assumption)) ?_)
  | walk_at "meth"
  | ((with_reducible show AE _ (Expr.Call (Expr.Name _ _) _ _ _) _ _); first
      | refine AE_bi (by assumption) (by rfl) (by rfl) (by rfl) ?_
      | refine AE_ty (by assumption) (by rfl) (by rfl) (by rfl) ?_))
local macro_rules | `(tactic| walk_at "test") => `(tactic| first
  | ((with_reducible show AT _ (Expr.Compare _ [_] [_] _) _ _); refine AT_Compare (In.ok (by assumption)) ?_)
  | with_reducible refine AT_not ?_
  | with_reducible refine AAll_nilA ?_
  | with_reducible refine AAll_nilO ?_
  | with_reducible refine AAll_and ?_
  | with_reducible refine AAll_or ?_
  | ((with_reducible show AT _ (Expr.BoolOp _ _ _) _ _); fail "bool")
  | ((with_reducible show AT _ _ _ _); refine AT_plain ?_))
local macro_rules | `(tactic| walk_at "op") => `(tactic| first
  | with_reducible refine iteT ?_
  | with_reducible refine iteF ?_
  | with_reducible refine ATru_bool ?_
  | with_reducible refine ATru_none ?_
  | with_reducible refine ATru_int ?_
  | with_reducible refine ATru_mt ?_
  | (with_reducible refine ATru_str (In.ok (by assumption)) ?hs ?_; (case hs => walk_at "s"))
  | (with_reducible refine ATru_list (In.ok (by assumption)) ?hs ?_; (case hs => walk_at "s"))
  | with_reducible refine ACmp_eqS ?_
  | with_reducible refine ACmp_neS ?_
  | with_reducible refine ACmp_inS ?_
  | with_reducible refine ACmp_notinS ?_
  | with_reducible refine ACmp_eqI ?_
  | with_reducible refine ACmp_neI ?_
  | with_reducible refine ACmp_ltI ?_
  | with_reducible refine ACmp_leI ?_
  | with_reducible refine ACmp_gtI ?_
  | with_reducible refine ACmp_geI ?_
  | with_reducible refine ACmp_isB ?_
  | with_reducible refine ACmp_isnotB ?_
  | with_reducible refine ACmp_isN ?_
  | with_reducible refine ACmp_isnotN ?_
  | with_reducible refine ABin_addI (In.ok (by assumption)) ?_
  | with_reducible refine ABin_subI (In.ok (by assumption)) ?_
  | ((with_reducible show ABin _ Operator.Mod (PV.dat (PyData.int _)) (PV.dat (PyData.int _)) _ _); refine ABin_modI (In.ok (by assumption)) (by decide) ?_)
  | ((with_reducible show ABin _ Operator.FloorDiv (PV.dat (PyData.int _)) (PV.dat (PyData.int _)) _ _); refine ABin_divI (In.ok (by assumption)) (by decide) (by decide) ?_)
  | with_reducible refine AUn_neg (In.ok (by assumption)) ?_
  | (with_reducible refine ABin_addS (In.ok (by assumption)) ?hs ?_; (case hs => walk_at "s"))
  | (with_reducible refine ASl_str (In.ok (by assumption)) ?hs ?_; (case hs => walk_at "s"))
  | (with_reducible refine ASl_list (In.ok (by assumption)) ?hs ?_; (case hs => walk_at "s"))
  | with_reducible refine ABo_last ?_
  | with_reducible refine ABo_and (In.ok (by assumption)) ?_
  | with_reducible refine ABo_or (In.ok (by assumption)) ?_)
local macro_rules | `(tactic| walk_at "row") => `(tactic| first
  | refine ⟨Nat.le_of_ble_eq_true rfl, [], rfl, ?_⟩
  | refine ⟨Nat.le_of_ble_eq_true rfl, [_], rfl, ?_⟩
  | refine ⟨Nat.le_of_ble_eq_true rfl, [_, _], rfl, ?_⟩
  | refine ⟨Nat.le_of_ble_eq_true rfl, [_, _, _], rfl, ?_⟩
  | refine ⟨Nat.le_of_ble_eq_true rfl, [_, _, _, _], rfl, ?_⟩
  | refine ⟨Nat.le_of_ble_eq_true rfl, [_, _, _, _, _], rfl, ?_⟩
  | refine ⟨Nat.le_of_ble_eq_true rfl, [_, _, _, _, _, _], rfl, ?_⟩
  | refine ⟨Nat.le_of_ble_eq_true rfl, [_, _, _, _, _, _, _], rfl, ?_⟩
  | refine ⟨Nat.le_of_ble_eq_true rfl, [_, _, _, _, _, _, _, _], rfl, ?_⟩)
local macro_rules | `(tactic| walk_at "call") => `(tactic| first
  | with_reducible refine AEs_nil ?_
  | ((with_reducible show AEs _ _ (_ :: _) _ _); refine AEs_cons (In.ok (by assumption)) ?_)
  | walk_at "gm"
  | (with_reducible refine ACall_lower (In.ok (by assumption)) ?hs ?_; (case hs => walk_at "s"))
  | (with_reducible refine ACall_upper (In.ok (by assumption)) ?hs ?_; (case hs => walk_at "s"))
  | (with_reducible refine ACall_swapcase (In.ok (by assumption)) ?hs ?_; (case hs => walk_at "s"))
  | with_reducible refine ACall_rfind (In.ok (by assumption)) ?_
  | with_reducible refine ACall_find (In.ok (by assumption)) ?_
  | with_reducible refine ACall_startswith ?_
  | with_reducible refine ACall_isspace ?_
  | (with_reducible refine ACall_lstrip (In.ok (by assumption)) ?hs ?_; (case hs => walk_at "s"))
  | (with_reducible refine ACall_rstrip (In.ok (by assumption)) ?hs ?_; (case hs => walk_at "s"))
  | (with_reducible refine ACall_lenS (In.ok (by assumption)) ?hs ?_; (case hs => walk_at "s"))
  | (with_reducible refine ACall_lenL (In.ok (by assumption)) ?hs ?_; (case hs => walk_at "s"))
  | with_reducible refine ACall_sum (In.ok (by assumption)) ?_
  | with_reducible refine ACall_range1 (In.ok (by assumption)) ?_
  | with_reducible refine ACall_range2 (In.ok (by assumption)) ?_)
local macro_rules | `(tactic| walk_at "store") => `(tactic| first
  | ((with_reducible show ASt _ _ _ _ _); first | refine ASt_loc (by assumption) (by rfl) ?_ | refine ASt_cel (by assumption) (by rfl) ?_)
  | with_reducible refine AAsg_name ?_)
local macro_rules | `(tactic| walk_at "slice") => `(tactic| first
  | with_reducible refine AOpt_none ?_
  | with_reducible refine AOpt_some ?_
  | with_reducible refine exInt ?_)
local macro_rules | `(tactic| walk_at "m1") => `(tactic| first
  | walk_at "stmt" | walk_at "test" | walk_at "slice" | walk_at "expr" | walk_at "own" | walk_at "call" | walk_at "op" | walk_at "store" | dsimp only)
local macro_rules | `(tactic| walk_at "m") => `(tactic| repeat walk_at "m1")
local macro_rules | `(tactic| walk_at "mm") => `(tactic| repeat (first | walk_at "m1" | with_reducible refine AT_BoolOp ?_ | with_reducible refine AE_BoolOp ?_))
local macro_rules | `(tactic| walk_at "x") => `(tactic| repeat (first | walk_at "test" | walk_at "slice" | walk_at "expr" | walk_at "own" | walk_at "call" | walk_at "op" | walk_at "store" | dsimp only))
def LawFn (prog : Program) (w : World) (K : Frag) (fa : Addr) (n : Nat) (ns : List Int) : Prop :=
  ∀ A s X vs, Room n A → Base K s.heap → (0 < s.toks ∨ ∃ p r, [("script" : Str)] = p :: r ∧ True) → (∀ a, X a → ∃ o, s.heap.get? a = some o ∧ Soft o) → RepAll s.heap [] X vs [plist (ns.map .int)] →
    codeAny (model prog w) A (.call (.ref fa) ⟨vs, []⟩) (fun r s' => ∃ v d h tk, r = .ok (.ret v) ∧ s' = { s with heap := h, toks := tk } ∧ (∀ b o, s.heap.get? b = some o → h.get? b = some o) ∧ s.toks ≤ tk ∧ Rep h [] X v d ∧ d = pbool true) s
theorem eqv_str (a b : Str) : PyData.eqv (.str a) (.str b) = decide (a = b) := by
  have h := eqvAll_str [a] [b]
  simp only [List.map_cons, List.map_nil, PyData.eqvAll, Bool.and_true] at h
  rw [h]; simp
theorem num_eq (l : List Nat) : ([PyData.str "7", PyData.str "77"].any fun x => PyData.eqv x (.str (S l))) = isNum l := by
  simp only [List.any_cons, List.any_nil, Bool.or_false, eqv_str]
  unfold isNum
  rw [show ("7" : Str) = S [55] from rfl, show ("77" : Str) = S [55, 55] from rfl]
  have e : ∀ a : List Nat, decide (S a = S l) = decide (l = a) := by
    intro a
    rw [Bool.eq_iff_iff]
    simp only [decide_eq_true_eq]
    exact ⟨fun h => (S_inj.mp h).symm, fun h => by rw [h]⟩
  rw [e, e]
theorem len_L04 : ∀ l ∈ L04, l.length ≤ 2 := by decide
theorem len_flat : ∀ (rs : List (List Nat)), (∀ l ∈ rs, l ∈ L04) → (flat rs).length ≤ 3 * rs.length
  | [], _ => Nat.zero_le _
  | r :: rs, h => by
    have := len_flat rs fun l hl => h l (List.mem_cons_of_mem _ hl)
    have := len_L04 r (h r List.mem_cons_self)
    simp [flat]; omega
theorem len_join {r : List (List Nat)} (h2 : ∀ l ∈ r, l ∈ L04) (h3 : r.length ≤ 30) : (joinL r).length ≤ 100 := by
  cases r with
  | nil => simp [joinL]
  | cons a rs =>
    have := len_flat rs fun l hl => h2 l (List.mem_cons_of_mem _ hl)
    have := len_L04 a (h2 a List.mem_cons_self)
    simp [joinL] at h3 ⊢; omega
theorem sum_len {r : List (List Nat)} : (∀ l ∈ r, l ∈ L04) → ((r.map S).map (·.length)).sum ≤ 2 * r.length := by
  induction r with
  | nil => intro _; exact Nat.le_refl _
  | cons a r ih =>
    intro h
    have := ih fun l hl => h l (List.mem_cons_of_mem _ hl)
    have h3 := len_L04 a (h a List.mem_cons_self)
    have h4 := S_len a
    simp only [List.map_cons, List.sum_cons, List.length_cons]; omega
def strOfD : PyData → Str
  | .str x => x
  | _ => ""
def low1 (d : PyData) : Option PyData := some (.str (Txt.lower (strOfD d)))
theorem lower_lab {l : List Nat} (h : l ∈ L04) : Txt.lower (S l) = S (l.map lowA) := lower_ascii l (L04_ascii l h)
theorem lowD_row {r : List (List Nat)} (h : ∀ l ∈ r, l ∈ L04) : (r.map fun l => PyData.str (S l)).filterMap low1 = (lowR r).map fun l => .str (S l) := by
  induction r with
  | nil => rfl
  | cons a r ih =>
    rw [List.map_cons, List.filterMap_cons, ih fun l hl => h l (List.mem_cons_of_mem _ hl)]
    show PyData.str (Txt.lower (S a)) :: _ = _
    rw [lower_lab (h a List.mem_cons_self)]; rfl
theorem row_getD {l : List (List Nat)} {i : Nat} (h : i < l.length) : (l.map fun x => PyData.str (S x))[i]? = some (.str (S (l.getD i []))) := by
  rw [List.getElem?_map, List.getD_eq_getElem?_getD, List.getElem?_eq_getElem h]; rfl
theorem slc_mid {α : Type} (l : List α) (t n : Nat) (h : t + n ≤ l.length) : slc (some (t : Int)) (some ((t : Int) + (n : Int))) l = (l.drop t).take n := by
  unfold slc
  simp only [Option.elim]
  rw [show (t : Int) + (n : Int) = ((t + n : Nat) : Int) by omega, clipAt_nat, clipAt_nat, Nat.min_eq_left h, Nat.min_eq_left (by omega)]
  congr 1; omega
theorem row_strs (r : List (List Nat)) : (r.map fun l => PyData.str (S l)) = (r.map S).map PyData.str := by rw [List.map_map]; rfl

theorem law_fn (prog : Program) (w : World) (ns : List Int) (hns : ns.length ≤ 63) : LawFn prog w (KK w) 67 6 ns := by
  intro A s X vs hroom hB htk hX hr
  refine Fn.core (n := 5) (fd := _) (body := _) (ps := ["script"]) (Q := fun d => d = pbool true) (args := [plist (ns.map .int)]) (fun h b => b.fn (fd := _) rfl) (fun h b => b.lim) (fun h b => b.code rfl) rfl (fun vs hv => ?_) rfl (by decide) ?_ ?_ rfl rfl rfl rfl rfl rfl A s X vs hroom hB (.inr ⟨_, _, rfl, rfl⟩) hX hr
  · match vs, hv with
    | [v], _ => rfl
  · intro x hx
    simp only [List.mem_singleton] at hx
    subst hx
    exact .inl rfl
  · clear hroom hB htk hX hr A s X vs
    intro C hIn
    dsimp only at hIn ⊢
    refine AS_cons (AX_AsgTuple ?_)
    refine AE_def (by assumption) 2 rfl rfl rfl ?_ (by decide)
    walk_at "m"
    refine ⟨rfl, (rows_fn prog w ns hns).mono fun d ⟨host, other, hh, ho, hol, e⟩ => ?_⟩
    subst e
    refine AAsg_tuple hIn.ok ?_ rfl
    show AAsg _ _ _ _ _
    walk_at "m"
    show AAsg _ _ _ _ _
    walk_at "m"
    show AS _ _ _ _
    have hhz : (host.map fun l => PyData.str (S l)).length ≤ sizeLine := by rw [List.length_map, sizeLine_eq]; have := hh.2.2; omega
    have hoz : (other.map fun l => PyData.str (S l)).length ≤ sizeLine := by rw [List.length_map, sizeLine_eq]; omega
    have hpos : 0 < host.length := List.length_pos_iff.mpr hh.1
    refine AS_cons (AX_Assign ?_)
    refine AE_def (by assumption) 1 rfl rfl rfl ?_ (by decide)
    refine AEs_cons hIn.ok (AE_Comp hIn [] rfl ?_)
    walk_at "x"
    unfold rowD
    refine ⟨_, low1, AItr_list, CapOk.nil, hhz, ?_, ?_⟩
    · intro C2 hIn2 y hy l2
      obtain ⟨lab, hlab, rfl⟩ := List.mem_map.mp hy
      have hll : (S lab).length ≤ 2 := by rw [S_len]; exact len_L04 lab (hh.2.1 lab hlab)
      refine AIfs_nil ?_
      rw [if_pos rfl]
      walk_at "x"
      exact ⟨rfl, _, rfl, rfl⟩
    rw [lowD_row hh.2.1]
    refine AEs_cons hIn.ok (AE_Comp hIn [] rfl ?_)
    walk_at "x"
    refine ⟨_, low1, AItr_list, CapOk.nil, hoz, ?_, ?_⟩
    · intro C2 hIn2 y hy l2
      obtain ⟨lab, hlab, rfl⟩ := List.mem_map.mp hy
      have hll : (S lab).length ≤ 2 := by rw [S_len]; exact len_L04 lab (ho.2.1 lab hlab)
      refine AIfs_nil ?_
      rw [if_pos rfl]
      walk_at "x"
      exact ⟨rfl, _, rfl, rfl⟩
    rw [lowD_row ho.2.1]
    refine AEs_nil ⟨rfl, (runs_fn prog w (lowR host) (lowR other) (by simp [hh.1]) (by rw [List.length_map]; exact hh.2.2) (by rw [List.length_map]; exact hol)).mono fun d e => ?_⟩
    subst e
    rw [show (lowR other).length = other.length from List.length_map ..]
    walk_at "x"
    refine AS_cons (AX_Assign (AE_List hIn.ok ?_))
    walk_at "x"
    walk_at "row"
    walk_at "x"
    refine AS_cons (AX_Assign ?_)
    refine AG.eq (pbool (name04 host)) ?_ ?_
    · walk_at "mm"
      rw [List.length_map]
      refine ite_of (fun h1 => ?_) (fun h1 => ?_)
      · have h1' : host.length = 1 := by have := beq_iff_eq.mp h1; omega
        exact ⟨by unfold name04; rw [h1, decide_eq_true h1']; rfl, rfl⟩
      · have h1' : ¬ host.length = 1 := by intro q; rw [q] at h1; simp at h1
        walk_at "mm"
        refine AItem_list (host.length - 1) (.inr ⟨by decide, by rw [List.length_map]; omega⟩) (row_getD (by omega)) hhz ?_
        walk_at "mm"
        refine ACmp_notinL hIn.un (Nat.le_trans (depth_str _) (by decide)) ?_
        rw [num_eq]
        exact ⟨by unfold name04; rw [decide_eq_false h1']; rfl, rfl⟩
    walk_at "x"
    refine AS_cons (AX_For hIn.ok ?_)
    walk_at "x"
    rw [List.length_map]
    have hsm : Builtin.Range.small 0 (other.length : Int) 1 = true := small_one (by decide) (by decide) (by omega) (by omega)
    refine ⟨_, AItr_rng hsm, fun r st => ∃ (p m : Nat), p + m = other.length ∧ r = (List.range' p m).map (fun k : Nat => .int (k : Int)) ∧
      st = ⟨[("host", plist (host.map fun l => .str (S l))), ("other", plist (other.map fun l => .str (S l))), ("best", plist (tab other.length fun p => .int (bestF ((lowR host).drop 1) ((lowR other).drop p) : Int))), ("numbers", plist [.str "7", .str "77"]), ("name", pbool (name04 host))], []⟩,
      ⟨_, Wk.of (lk_cons rfl (lk_cons rfl (lk_cons rfl (lk_cons rfl (lk_cons rfl lk_nil))))), 0, other.length, by omega, ?_, rfl⟩, ?_, ?_⟩
    · rw [rngItems_one, List.range_eq_range']
      simp
    · rintro y r st ⟨p, m, hpm, hr2, rfl⟩
      cases m with
      | zero => cases hr2
      | succ m =>
        rw [List.range'_succ, List.map_cons, List.cons.injEq] at hr2
        obtain ⟨rfl, rfl⟩ := hr2
        have hp : p < other.length := by omega
        walk_at "x"
        refine AS_cons (AX_For hIn.ok ?_)
        walk_at "x"
        rw [List.length_map]
        have hsm2 : Builtin.Range.small 1 ((other.length : Int) - (p : Int) + 1) 1 = true := small_one (by decide) (by decide) (by omega) (by omega)
        refine ⟨_, AItr_rng hsm2, fun r st => ∃ (i k : Nat), 1 ≤ i ∧ p + i + k = other.length + 1 ∧ r = (List.range' i k).map (fun k : Nat => .int (k : Int)) ∧
          st = ⟨[("host", plist (host.map fun l => .str (S l))), ("other", plist (other.map fun l => .str (S l))), ("best", plist (tab other.length fun p => .int (bestF ((lowR host).drop 1) ((lowR other).drop p) : Int))), ("numbers", plist [.str "7", .str "77"]), ("name", pbool (name04 host)), ("p", pint (p : Int))], []⟩,
          ⟨_, Wk.of (lk_cons rfl (lk_cons rfl (lk_cons rfl (lk_cons rfl (lk_cons rfl (lk_cons rfl lk_nil)))))), 1, other.length - p, by omega, by omega, ?_, rfl⟩, ?_, ?_⟩
        · rw [rngItems_one, show ((other.length : Int) - (p : Int) + 1 - 1).toNat = other.length - p by omega, List.range'_eq_map_range, List.map_map]
          rfl
        · rintro y r st ⟨i, k, hi, hik, hr3, rfl⟩
          cases k with
          | zero => cases hr3
          | succ k =>
            rw [List.range'_succ, List.map_cons, List.cons.injEq] at hr3
            obtain ⟨rfl, rfl⟩ := hr3
            have hpi : p + i ≤ other.length := by omega
            walk_at "x"
            refine AS_cons (AX_Assign ?_)
            refine AG.eq (pbool (name04 host && (decide (i ≤ bestF ((lowR host).drop 1) ((lowR other).drop p)) && (decide (i = 1) || !isNum (other.getD (p + i - 1) []))))) ?_ ?_
            · walk_at "mm"
              refine ite_of (fun h1 => ?_) (fun h1 => ?_)
              · walk_at "mm"
                refine AItem_list p (.inl ⟨by omega, by omega⟩) (tab_get hp) (by rw [tab_len, sizeLine_eq]; omega) ?_
                walk_at "mm"
                refine ite_of (fun h2 => ?_) (fun h2 => ?_)
                · have h2' : i ≤ bestF ((lowR host).drop 1) ((lowR other).drop p) := by have := of_decide_eq_true h2; omega
                  walk_at "mm"
                  refine ite_of (fun h3 => ?_) (fun h3 => ?_)
                  · have h3' : i = 1 := by have := beq_iff_eq.mp h3; omega
                    exact ⟨by rw [h1, decide_eq_true h2', decide_eq_true h3', h3]; rfl, rfl⟩
                  · have h3' : ¬ i = 1 := by intro q; rw [q] at h3; simp at h3
                    walk_at "mm"
                    refine AItem_list (p + i - 1) (.inl ⟨by omega, by omega⟩) (row_getD (by omega)) hoz ?_
                    walk_at "mm"
                    refine ACmp_notinL hIn.un (Nat.le_trans (depth_str _) (by decide)) ?_
                    rw [num_eq]
                    exact ⟨by rw [h1, decide_eq_true h2', decide_eq_false h3']; rfl, rfl⟩
                · have h2' : ¬ i ≤ bestF ((lowR host).drop 1) ((lowR other).drop p) := by have := of_decide_eq_false h2; omega
                  exact ⟨by rw [h1, decide_eq_false h2', h2]; rfl, rfl⟩
              · exact ⟨by rw [h1]; rfl, rfl⟩
            walk_at "x"
            refine AS_cons (AX_If ?_)
            walk_at "x"
            refine AE_def (by assumption) 2 rfl rfl rfl ?_ (by decide)
            refine AEs_cons hIn.ok ?_
            walk_at "x"
            rw [row_strs host]
            refine ACall_join hIn.ok (by have := sum_len hh.2.1; have := hh.2.2; rw [List.length_map, show (("." : Str)).length = 1 from rfl]; omega) ?_
            rw [join_eq, ← row_strs host]
            have hjl := len_join hh.2.1 hh.2.2
            have hjl' : (S (joinL host)).length ≤ 100 := by rw [S_len]; exact hjl
            have hju := len_upper (S (joinL host))
            walk_at "x"
            rw [slc_mid _ _ _ (by rw [List.length_map]; omega), ← List.map_drop, ← List.map_take, row_strs]
            have hos : ∀ l ∈ (other.drop p).take i, l ∈ L04 := fun l hl => ho.2.1 l (List.mem_of_mem_drop (List.mem_of_mem_take hl))
            have hosl : ((other.drop p).take i).length ≤ 8 := by rw [List.length_take, List.length_drop]; omega
            refine ACall_join hIn.ok (by have := sum_len hos; rw [List.length_map, show (("." : Str)).length = 1 from rfl]; omega) ?_
            rw [join_eq]
            have hjo := len_join hos (by omega)
            refine ABin_addS hIn.ok (by rw [show (("." : Str)).length = 1 from rfl, S_len, sizeLine_eq]; omega) ?_
            rw [show (("." : Str) ++ S (joinL ((other.drop p).take i))) = S (46 :: joinL ((other.drop p).take i)) from (S_app [46] _).symm]
            walk_at "x"
            refine ⟨rfl, (dm_fn prog w _ _ (by omega) (by rw [S_len, List.length_cons]; omega)).mono fun d e => ?_⟩
            subst e
            rw [dm_04 hh ho hi hpi]
            walk_at "x"
            rw [bne_self_eq_false]
            walk_at "m"
            exact ⟨_, Wk.of (lk_cons rfl (lk_cons rfl (lk_cons rfl (lk_cons rfl (lk_cons rfl (lk_cons rfl lk_nil)))))), i + 1, k, by omega, by omega, rfl, rfl⟩
        · rintro st ⟨i, k, hi, hik, hr3, rfl⟩
          walk_at "m"
          exact ⟨_, Wk.of (lk_cons rfl (lk_cons rfl (lk_cons rfl (lk_cons rfl (lk_cons rfl lk_nil))))), p + 1, m, by omega, rfl, rfl⟩
    · rintro st ⟨p, m, hpm, hr2, rfl⟩
      walk_at "m"
      exact ⟨rfl, rfl⟩
end Mine

end
section
open PySem PySem.W PyProof.Rows PySem.Calls
set_option linter.all false
set_option Elab.async false
set_option maxRecDepth 100000
set_option maxHeartbeats 8000000
namespace Mine
theorem nodAll_int : ∀ ns : List Int, nodAll (ns.map .int) = true
  | [] => rfl
  | _ :: r => by rw [List.map_cons, nodAll, nodAll_int r]; rfl
end Mine

end
open PySem PySem.W PyProof.Rows Mine
set_option maxRecDepth 100000 in
set_option maxHeartbeats 8000000 in
theorem PySem.Challenge.cw_dm0156_04_holds : PySem.Challenge.rw_dm0156_04.Holds := by
  refine Mine.hd ?_
  k_fill
  intro w s₀ s₁ mg mb G Y fa o pm cd doc dV kV ho hd hcd hD hmg hg args vals as hpre hlay hrd hwl hlo
  have KX := kIn_of Y
  have X := (Ground.X G).1
  have V := (Ground.X G).2
  have GL := glob_more (Ground.glob G (by first | k_qdec | decide +kernel) (by first | k_qdec | decide +kernel)) V
  refine Ground.open G ?_
  intro T B D TE TW
  try (refine guard_noD D (by decide +kernel) ?_; clear D)
  wrow_args hpre hlay hrd hwl hlo
  first | refine callC_kw (enter_call ?_) | refine enter_call ?_ | refine callC_kw (enter_callW ?_) | refine enter_callW ?_ | w_how
  w_top on
  try refine codeAny_mono ?_ (fun _ _ g => GoodW.toG g)
  clear hd hcd
  rename_i ns _ _ _ _ _ _ _ l _ _ _ _ _ r0 _ _ hlen _
  have bs : Base (KK w) s₁.heap := ⟨KX, GL.nolimit, ⟨mg, GL.g⟩, ⟨mb, GL.b, GL.builtins⟩, let ⟨mc, h, _⟩ := GL.digits; ⟨mc, h⟩⟩
  have e : mg "law" = some (.ref 67) := ns_some_of KX GL.g rfl
  have hmg' : mg "law" = some (.ref fa) := hmg
  rw [hmg'] at e
  cases e
  refine codeAny_mono (law_fn _ w ns (by omega) callerA s₁ (fun _ => False) [.ref l] ?_ bs (.inr ⟨_, _, rfl, trivial⟩) (fun _ h => h.elim) ⟨⟨_, r0, fun _ _ h => h, nodAll_int ns⟩, trivial⟩) (fun r s' ⟨v, d, h, tk, hr, hs, hk, htk, hrep, hq⟩ => ?_)
  · exact ⟨rfl, by decide, by decide⟩
  · subst hr hs hq
    cases rep_bool hrep
    exact ⟨.inl ⟨.bool true, .bool true, [], rfl, fun cls => rfl, .bool _, (by wrow_post), fun _ => ⟨List.nodup_nil, fun _ h => nomatch h⟩⟩, hk, rfl, hg⟩
