import PyProof.Rows.All
import Wide.All
import OpenK.AllK
import Wide.FinOn
import PySem.Challenge.RW_ik0216_01
open PySem PySem.W PyProof.Rows
set_option Elab.async false
set_option linter.unusedVariables false
set_option linter.unusedSimpArgs false
set_option compiler.extract_closed false
noncomputable section
namespace Mine

section
/-! ## conjunctions taken apart -/
theorem u2 {a0 a1 G : Prop} (h : a0 ∧ a1) (k : a0 → a1 → G) : G := k h.1 h.2
theorem u3 {a0 a1 a2 G : Prop} (h : a0 ∧ a1 ∧ a2) (k : a0 → a1 → a2 → G) : G := u2 h.2 (k h.1)
theorem u4 {a0 a1 a2 a3 G : Prop} (h : a0 ∧ a1 ∧ a2 ∧ a3) (k : a0 → a1 → a2 → a3 → G) : G := u3 h.2 (k h.1)
theorem u5 {a0 a1 a2 a3 a4 G : Prop} (h : a0 ∧ a1 ∧ a2 ∧ a3 ∧ a4) (k : a0 → a1 → a2 → a3 → a4 → G) : G := u4 h.2 (k h.1)
theorem u6 {a0 a1 a2 a3 a4 a5 G : Prop} (h : a0 ∧ a1 ∧ a2 ∧ a3 ∧ a4 ∧ a5) (k : a0 → a1 → a2 → a3 → a4 → a5 → G) : G := u5 h.2 (k h.1)
theorem x2 {α β : Sort _} {P : α → β → Prop} {G : Prop} (h : ∃ x y, P x y) (k : ∀ x y, P x y → G) : G := h.elim fun x h => h.elim (k x)
theorem x3 {α β γ : Sort _} {P : α → β → γ → Prop} {G : Prop} (h : ∃ x y z, P x y z) (k : ∀ x y z, P x y z → G) : G := h.elim fun x h => x2 h (k x)
theorem x4 {α β γ δ : Sort _} {P : α → β → γ → δ → Prop} {G : Prop} (h : ∃ x y z w, P x y z w) (k : ∀ x y z w, P x y z w → G) : G := h.elim fun x h => x3 h (k x)
theorem x5 {α β γ δ ε : Sort _} {P : α → β → γ → δ → ε → Prop} {G : Prop} (h : ∃ x y z w u, P x y z w u) (k : ∀ x y z w u, P x y z w u → G) : G := h.elim fun x h => x4 h (k x)

/-! ## the abstract values and the store -/
inductive V where
  | none | bool (b : Bool) | int (i : Int) | str (s : Str) | tup (xs : List V) | ref (a : Addr) | ty (n : String) | bi (n : String) | rng (a b c : Int)

inductive Cell where
  | list (xs : List V) | iter (l : Addr) (k : Nat) | dict (es : List (Str × Str)) | rit (x left step : Int) | junk

noncomputable abbrev Sto := Addr → Option Cell
noncomputable def Sto.set (σ : Sto) (a : Addr) (c : Cell) : Sto := fun b => if b = a then some c else σ b
noncomputable abbrev Loc := Str → Option V
noncomputable def Loc.set (ρ : Loc) (x : Str) (d : V) : Loc := fun y => if y = x then some d else ρ y

theorem Sto.set_self (σ : Sto) (a : Addr) (c : Cell) : (σ.set a c) a = some c := by simp [Sto.set]
theorem Sto.set_ne (σ : Sto) {a b : Addr} (c : Cell) (h : b ≠ a) : (σ.set a c) b = σ b := by simp [Sto.set, h]

/-- the base: a program, a world, the heap that the law's call starts from -/
structure Bs where
  prog : Program
  w : World
  h₀ : Heap

noncomputable def Imm (o : Obj) : Prop := (o.cls = .type "tuple" ∧ ∃ items n, o.data = .seq items n) ∨ (o.cls = .type "range" ∧ ∃ vs, o.data = .fields vs)
noncomputable def NT (o : Obj) : Prop := ¬ Imm o
theorem NT.cls {o : Obj} {c : String} (h : o.cls = .type c) (h1 : c ≠ "tuple") (h2 : c ≠ "range") : NT o := by
  rintro (⟨e, _⟩ | ⟨e, _⟩)
  · rw [h] at e; cases e; exact h1 rfl
  · rw [h] at e; cases e; exact h2 rfl
theorem NT.dict {o : Obj} {es : Array DictEntry} {n : Nat} (h : o.data = .dict es n) : NT o := by
  rintro (⟨_, i, k, e⟩ | ⟨_, vs, e⟩) <;> rw [h] at e <;> cases e

mutual
noncomputable def Rep (h : Heap) : V → Value → Prop
  | .none, v => v = .none
  | .bool b, v => v = .bool b
  | .int i, v => ∃ t, v = .int i t
  | .str s, v => ∃ t, v = .str s t
  | .tup xs, v => ∃ a vs, v = .ref a ∧ h.IsTuple a (List.toArray vs) ∧ RepL h xs vs
  | .ref a, v => v = .ref a
  | .ty n, v => v = .type n
  | .bi n, v => v = .builtin n
  | .rng a b c, v => ∃ r t u u', v = .ref r ∧ IsRange h r a b c t u u'
noncomputable def RepL (h : Heap) : List V → List Value → Prop
  | [], vs => vs = []
  | x :: xs, vs => ∃ v r, vs = v :: r ∧ Rep h x v ∧ RepL h xs r
end

noncomputable def Mono (h h' : Heap) : Prop := ∀ b o, Imm o → h.get? b = some o → h'.get? b = some o
theorem Mono.of_keeps {h h' : Heap} (k : ∀ b o, h.get? b = some o → h'.get? b = some o) : Mono h h' := fun b o _ e => k b o e

mutual
theorem Rep.mono {h h' : Heap} (M : Mono h h') : ∀ {d : V} {v : Value}, Rep h d v → Rep h' d v
  | .none, _, r => r
  | .bool _, _, r => r
  | .int _, _, r => r
  | .str _, _, r => r
  | .ref _, _, r => r
  | .ty _, _, r => r
  | .bi _, _, r => r
  | .tup xs, v, r => by
    obtain ⟨a, vs, e, ⟨o, ho, hc, n, hd⟩, hl⟩ := r
    exact ⟨a, vs, e, ⟨o, M a o (.inl ⟨hc, _, _, hd⟩) ho, hc, n, hd⟩, RepL.mono M hl⟩
  | .rng a b c, v, r => by
    obtain ⟨r', t, u, u', e, hr⟩ := r
    exact ⟨r', t, u, u', e, M r' _ (.inr ⟨rfl, _, rfl⟩) hr⟩
theorem RepL.mono {h h' : Heap} (M : Mono h h') : ∀ {ds : List V} {vs : List Value}, RepL h ds vs → RepL h' ds vs
  | [], _, r => r
  | d :: ds, vs, r => by
    obtain ⟨v, r', e, h1, h2⟩ := r
    exact ⟨v, r', e, Rep.mono M h1, RepL.mono M h2⟩
end

theorem RepL.length {h : Heap} : ∀ {ds : List V} {vs : List Value}, RepL h ds vs → vs.length = ds.length
  | [], _, r => by cases r; rfl
  | d :: ds, vs, r => by
    obtain ⟨v, r', rfl, _, h2⟩ := r
    simp [RepL.length h2]
theorem RepL.nil {h : Heap} : RepL h [] [] := rfl
theorem RepL.cons {h : Heap} {d : V} {v : Value} {ds : List V} {vs : List Value} (a : Rep h d v) (b : RepL h ds vs) : RepL h (d :: ds) (v :: vs) := ⟨v, vs, rfl, a, b⟩
theorem RepL.get {h : Heap} : ∀ {ds : List V} {vs : List Value}, RepL h ds vs → ∀ {i : Nat} {d : V}, ds[i]? = some d → ∃ v, vs[i]? = some v ∧ Rep h d v
  | [], _, _, i, d, e => by simp at e
  | x :: ds, vs, r, i, d, e => by
    obtain ⟨v, r', rfl, h1, h2⟩ := r
    cases i with
    | zero => simp at e; subst e; exact ⟨v, rfl, h1⟩
    | succ i => simp at e; obtain ⟨u, hu, hr⟩ := RepL.get h2 e; exact ⟨u, by simpa using hu, hr⟩
theorem RepL.append {h : Heap} : ∀ {ds es : List V} {vs us : List Value}, RepL h ds vs → RepL h es us → RepL h (ds ++ es) (vs ++ us)
  | [], _, _, _, a, b => by cases a; exact b
  | d :: ds, es, vs, us, a, b => by
    obtain ⟨v, r', rfl, h1, h2⟩ := a
    exact ⟨v, r' ++ us, rfl, h1, RepL.append h2 b⟩
theorem RepL.take {h : Heap} : ∀ {ds : List V} {vs : List Value} (n : Nat), RepL h ds vs → RepL h (ds.take n) (vs.take n)
  | [], _, n, a => by cases a; simp [RepL]
  | d :: ds, vs, 0, a => by simp [RepL]
  | d :: ds, vs, n + 1, a => by
    obtain ⟨v, r', rfl, h1, h2⟩ := a
    exact ⟨v, r'.take n, rfl, h1, RepL.take n h2⟩
theorem RepL.drop {h : Heap} : ∀ {ds : List V} {vs : List Value} (n : Nat), RepL h ds vs → RepL h (ds.drop n) (vs.drop n)
  | [], _, n, a => by cases a; simp [RepL]
  | d :: ds, vs, 0, a => a
  | d :: ds, vs, n + 1, a => by
    obtain ⟨v, r', rfl, h1, h2⟩ := a
    exact RepL.drop n h2
theorem RepL.set {h : Heap} : ∀ {ds : List V} {vs : List Value} (i : Nat) {d : V} {v : Value}, RepL h ds vs → Rep h d v → RepL h (ds.set i d) (vs.set i v)
  | [], _, i, _, _, a, _ => by cases a; simp [RepL]
  | x :: ds, vs, 0, d, v, a, b => by
    obtain ⟨u, r', rfl, h1, h2⟩ := a
    exact ⟨v, r', rfl, b, h2⟩
  | x :: ds, vs, i + 1, d, v, a, b => by
    obtain ⟨u, r', rfl, h1, h2⟩ := a
    exact ⟨u, r'.set i v, rfl, h1, RepL.set i h2 b⟩

/-- neither an immutable thing nor a frame's cell -/
noncomputable def Sth (o : Obj) : Prop := NT o ∧ ∀ v, o.data ≠ .cell v

/-- a dict of text keys and texts -/
noncomputable def DictAt (B : Bs) (h : Heap) (a : Addr) (es : List (Str × Str)) : Prop := StrTab B.prog B.w h a (es.map fun p => (PyData.str p.1, PyData.str p.2))

noncomputable def CellAt (B : Bs) (h : Heap) (a : Addr) : Cell → Prop
  | .list xs => ∃ vs, h.PlainList a (List.toArray vs) ∧ RepL h xs vs
  | .iter l k => h.IsListIter a l k
  | .dict es => DictAt B h a es
  | .rit x left step => IsRangeIter h a x left step
  | .junk => ∃ o, h.get? a = some o ∧ Sth o

theorem DictAt.sth {B : Bs} {h : Heap} {a : Addr} {es : List (Str × Str)} (x : DictAt B h a es) : ∃ o, h.get? a = some o ∧ Sth o := by
  obtain ⟨_, kvs, hk, _⟩ := x
  obtain ⟨o, ho, hd⟩ := Heap.dictOf_iff.mp hk
  obtain ⟨es', ep, ⟨hc, _, _⟩, hdat, _⟩ := hd
  exact ⟨o, ho, NT.cls hc (by decide) (by decide), fun v e => by rw [hdat] at e; cases e⟩
theorem CellAt.sth {B : Bs} {h : Heap} {a : Addr} {c : Cell} (x : CellAt B h a c) : ∃ o, h.get? a = some o ∧ Sth o := by
  cases c with
  | list xs => obtain ⟨vs, ⟨n, e⟩, _⟩ := x; exact ⟨_, e, NT.cls rfl (by decide) (by decide), fun v e => by cases e⟩
  | iter l k => obtain ⟨o, ho, hc, hd⟩ := x; exact ⟨o, ho, NT.cls hc (by decide) (by decide), fun v e => by rw [hd] at e; cases e⟩
  | dict es => exact DictAt.sth x
  | rit x' l s => exact ⟨_, x, NT.cls rfl (by decide) (by decide), fun v e => by cases e⟩
  | junk => exact x
theorem CellAt.nt {B : Bs} {h : Heap} {a : Addr} {c : Cell} (x : CellAt B h a c) : ∃ o, h.get? a = some o ∧ NT o := let ⟨o, h1, h2⟩ := x.sth; ⟨o, h1, h2.1⟩
theorem CellAt.mono {B : Bs} {h h' : Heap} {a : Addr} {c : Cell} (x : CellAt B h a c) (k : ∀ o, h.get? a = some o → h'.get? a = some o) (M : Mono h h') : CellAt B h' a c := by
  cases c with
  | list xs => obtain ⟨vs, e, r⟩ := x; exact ⟨vs, e.at k, r.mono M⟩
  | iter l k' => exact Heap.IsListIter.at x k
  | dict es =>
    obtain ⟨lo, kvs, hk, hf⟩ := x
    obtain ⟨o, ho, hd⟩ := Heap.dictOf_iff.mp hk
    exact ⟨lo, kvs, Heap.dictOf_iff.mpr ⟨o, k o ho, hd⟩, hf⟩
  | rit x' l s => exact k _ x
  | junk => obtain ⟨o, ho, hc⟩ := x; exact ⟨o, k o ho, hc⟩

structure OkS (B : Bs) (s : Shared) (σ : Sto) : Prop where
  keep : ∀ b o, B.h₀.get? b = some o → s.heap.get? b = some o
  cell : ∀ a c, σ a = some c → CellAt B s.heap a c
  fresh : ∀ a c, σ a = some c → B.h₀.get? a = none
  tk : 1 ≤ s.toks

theorem OkS.nt {B : Bs} {s : Shared} {σ : Sto} (O : OkS B s σ) {a : Addr} {c : Cell} (e : σ a = some c) {o : Obj} (g : s.heap.get? a = some o) : NT o := by
  obtain ⟨o', g', n⟩ := (O.cell a c e).nt
  rw [g] at g'; cases g'; exact n

structure Ext (own : Addr → Prop) (s : Shared) (σ : Sto) (s' : Shared) (σ' : Sto) : Prop where
  same : ∃ h' tk, s' = { s with heap := h', toks := tk }
  keep : ∀ b o, ¬ own b → σ b = none → s.heap.get? b = some o → σ' b = none ∧ s'.heap.get? b = some o
  alive : ∀ b, (σ b).isSome = true → (σ' b).isSome = true
theorem Sto.set_alive {σ : Sto} {a : Addr} {c : Cell} (b : Addr) (h : (σ b).isSome = true) : ((σ.set a c) b).isSome = true := by
  unfold Sto.set; split
  · rfl
  · exact h
noncomputable def no : Addr → Prop := fun _ => False
theorem Ext.refl {own : Addr → Prop} {s : Shared} {σ : Sto} : Ext own s σ s σ := ⟨⟨s.heap, s.toks, rfl⟩, fun _ _ _ h e => ⟨h, e⟩, fun _ h => h⟩
theorem Ext.toks {own : Addr → Prop} {s : Shared} {σ : Sto} {t : Nat} : Ext own s σ { s with toks := t } σ := ⟨⟨s.heap, t, rfl⟩, fun _ _ _ h e => ⟨h, e⟩, fun _ h => h⟩
theorem Ext.trans {own : Addr → Prop} {s s' s'' : Shared} {σ σ' σ'' : Sto} (x : Ext own s σ s' σ') (y : Ext own s' σ' s'' σ'') : Ext own s σ s'' σ'' := by
  obtain ⟨⟨h1, t1, rfl⟩, k1, a1⟩ := x
  obtain ⟨⟨h2, t2, rfl⟩, k2, a2⟩ := y
  refine ⟨⟨h2, t2, rfl⟩, fun b o ho hn e => ?_, fun b h => a2 b (a1 b h)⟩
  obtain ⟨n1, e1⟩ := k1 b o ho hn e
  exact k2 b o ho n1 e1
theorem Ext.weaken {own own' : Addr → Prop} {s s' : Shared} {σ σ' : Sto} (x : Ext own s σ s' σ') (h : ∀ b, own b → own' b) : Ext own' s σ s' σ' := ⟨x.same, fun b o hb hn e => x.keep b o (fun q => hb (h b q)) hn e, x.alive⟩
theorem Ext.of_no {own : Addr → Prop} {s s' : Shared} {σ σ' : Sto} (x : Ext no s σ s' σ') : Ext own s σ s' σ' := x.weaken fun _ h => h.elim
theorem Ext.mono {own : Addr → Prop} {B : Bs} {s s' : Shared} {σ σ' : Sto} (x : Ext own s σ s' σ') (O : OkS B s σ) (hown : ∀ b, own b → ∀ o, s.heap.get? b = some o → NT o) : Mono s.heap s'.heap := by
  intro b o hi e
  refine (x.keep b o (fun q => hown b q o e hi) ?_ e).2
  cases h : σ b with
  | none => rfl
  | some c => exact absurd hi (O.nt h e)
theorem Ext.mono_no {B : Bs} {s s' : Shared} {σ σ' : Sto} (x : Ext no s σ s' σ') (O : OkS B s σ) : Mono s.heap s'.heap := x.mono O fun _ h => h.elim

/-! ## steps of the store -/
theorem OkS.keeps {B : Bs} {s : Shared} {h' : Heap} {tk : Nat} {σ : Sto} (O : OkS B s σ) (k : ∀ b o, s.heap.get? b = some o → h'.get? b = some o) (ht : 1 ≤ s.toks → 1 ≤ tk := by omega) : OkS B { s with heap := h', toks := tk } σ :=
  ⟨fun b o e => k b o (O.keep b o e), fun a c e => (O.cell a c e).mono (fun o => k a o) (Mono.of_keeps k), O.fresh, ht O.tk⟩
theorem Ext.keeps {own : Addr → Prop} {s : Shared} {σ : Sto} {h' : Heap} {tk : Nat} (k : ∀ b o, s.heap.get? b = some o → h'.get? b = some o) : Ext own s σ { s with heap := h', toks := tk } σ :=
  ⟨⟨h', tk, rfl⟩, fun b o _ hn e => ⟨hn, k b o e⟩, fun _ h => h⟩
/-- a new object, a new cell -/
theorem OkS.new {B : Bs} {s : Shared} {h' : Heap} {tk : Nat} {σ : Sto} {a : Addr} {c : Cell} (O : OkS B s σ) (k : ∀ b o, s.heap.get? b = some o → h'.get? b = some o) (ha : s.heap.get? a = none) (hc : CellAt B h' a c) (ht : 1 ≤ s.toks → 1 ≤ tk := by omega) : OkS B { s with heap := h', toks := tk } (σ.set a c) := by
  have ne : ∀ b x, σ b = some x → b ≠ a := fun b x e q => by
    obtain ⟨o, ho, _⟩ := (O.cell b x e).nt
    rw [q, ha] at ho; cases ho
  refine ⟨fun b o e => k b o (O.keep b o e), fun b x e => ?_, fun b x e => ?_, ht O.tk⟩
  · by_cases q : b = a
    · subst q; rw [Sto.set_self] at e; cases e; exact hc
    · rw [Sto.set_ne σ c q] at e; exact (O.cell b x e).mono (fun o => k b o) (Mono.of_keeps k)
  · by_cases q : b = a
    · subst q
      cases hb : B.h₀.get? b with
      | none => rfl
      | some o => have := O.keep b o hb; rw [ha] at this; cases this
    · rw [Sto.set_ne σ c q] at e; exact O.fresh b x e
theorem Ext.new {own : Addr → Prop} {s : Shared} {σ : Sto} {h' : Heap} {tk : Nat} {a : Addr} {c : Cell} (k : ∀ b o, s.heap.get? b = some o → h'.get? b = some o) (ha : s.heap.get? a = none) :
    Ext own s σ { s with heap := h', toks := tk } (σ.set a c) :=
  ⟨⟨h', tk, rfl⟩, fun b o _ hn e => ⟨by rw [Sto.set_ne σ c (by rintro rfl; rw [ha] at e; cases e)]; exact hn, k b o e⟩, Sto.set_alive⟩
/-- a cell is changed -/
theorem OkS.upd {B : Bs} {s : Shared} {h' : Heap} {tk : Nat} {σ : Sto} {a : Addr} {c₀ c : Cell} (O : OkS B s σ) (hs : Heap.ExtBut a s.heap h') (h0 : σ a = some c₀) (hc : CellAt B h' a c) (ht : 1 ≤ s.toks → 1 ≤ tk := by omega) : OkS B { s with heap := h', toks := tk } (σ.set a c) := by
  have M : Mono s.heap h' := fun b o hi e => hs b o (by rintro rfl; exact O.nt h0 e hi) e
  refine ⟨fun b o e => hs b o (by rintro rfl; rw [O.fresh b c₀ h0] at e; cases e) (O.keep b o e), fun b x e => ?_, fun b x e => ?_, ht O.tk⟩
  · by_cases q : b = a
    · subst q; rw [Sto.set_self] at e; cases e; exact hc
    · rw [Sto.set_ne σ c q] at e; exact (O.cell b x e).mono (fun o => hs b o q) M
  · by_cases q : b = a
    · subst q; exact O.fresh b c₀ h0
    · rw [Sto.set_ne σ c q] at e; exact O.fresh b x e
theorem Ext.upd {own : Addr → Prop} {s : Shared} {σ : Sto} {h' : Heap} {tk : Nat} {a : Addr} {c₀ c : Cell} (hs : Heap.ExtBut a s.heap h') (h0 : σ a = some c₀) :
    Ext own s σ { s with heap := h', toks := tk } (σ.set a c) :=
  ⟨⟨h', tk, rfl⟩, fun b o _ hn e => by
    have : b ≠ a := by rintro rfl; rw [h0] at hn; cases hn
    exact ⟨by rw [Sto.set_ne σ c this]; exact hn, hs b o this e⟩, Sto.set_alive⟩

/-! ## frames -/
structure Frm where
  env : Env
  own : Addr → Prop
structure Sc where
  scope : Scope
  full : Bool
structure FrmOk (B : Bs) (sc : Sc) (F : Frm) : Prop where
  scope : F.env.scope = sc.scope
  fn : sc.scope.kind = .function
  globals : F.env.globals = mainGlobals
  builtins : F.env.builtins = builtinsNs
  ownL : F.own F.env.locals
  ownNew : ∀ b, F.own b → B.h₀.get? b = none
  full : sc.full = true → ∀ x a, sc.scope.names.lookup x = some .cell → F.env.cells.lookup x = some a → F.own a
  apart : ∀ x y a, F.env.cells.lookup x = some a → F.env.cells.lookup y = some a → x = y
  cex : ∀ x, sc.scope.names.lookup x = some .cell → ∃ a, F.env.cells.lookup x = some a
theorem FrmOk.kindOf {B : Bs} {sc : Sc} {F : Frm} (X : FrmOk B sc F) (x : Str) : F.env.kindOf x = sc.scope.names.lookup x := by unfold Env.kindOf; rw [X.scope]

structure Ok (B : Bs) (F : Frm) (S : Shared) (ρ : Loc) (σ : Sto) : Prop where
  s : OkS B S σ
  ns : ∃ m, S.heap.Ns F.env.locals m ∧ ∀ x d, F.env.kindOf x = some .local → ρ x = some d → ∃ v, m x = some v ∧ Rep S.heap d v
  cl : ∀ x a, F.env.kindOf x = some .cell → F.env.cells.lookup x = some a → ∃ v, S.heap.IsCell a v ∧ ∀ d, ρ x = some d → ∃ u, v = some u ∧ Rep S.heap d u
  own : ∀ b, F.own b → σ b = none ∧ ∃ o, S.heap.get? b = some o ∧ NT o

theorem nt_ns {h : Heap} {L : Addr} {m : Str → Option Value} (n : h.Ns L m) : ∃ o, h.get? L = some o ∧ NT o := by
  obtain ⟨o', es, ep, g, hd, _⟩ := n
  exact ⟨o', g, NT.dict hd⟩

theorem Ok.ownNT {B : Bs} {F : Frm} {s : Shared} {ρ : Loc} {σ : Sto} (O : Ok B F s ρ σ) : ∀ b, F.own b → ∀ o, s.heap.get? b = some o → NT o := fun b hb o e => by
  obtain ⟨_, o', e', n⟩ := O.own b hb
  rw [e] at e'; cases e'; exact n

/-- what a step that leaves the frame alone does to it -/
theorem Ok.step {B : Bs} {F : Frm} {s s' : Shared} {ρ : Loc} {σ σ' : Sto} (O : Ok B F s ρ σ) (hL : F.own F.env.locals) (x : Ext no s σ s' σ') (O' : OkS B s' σ') : Ok B F s' ρ σ' := by
  have M := x.mono_no O.s
  refine ⟨O', ?_, fun y a hk hc => ?_, fun b hb => ?_⟩
  · obtain ⟨m, hn, hr⟩ := O.ns
    refine ⟨m, ?_, fun y d hk e => ?_⟩
    · obtain ⟨o, es, ep, g, r⟩ := hn
      exact ⟨o, es, ep, (x.keep _ o id (O.own _ hL).1 g).2, r⟩
    · obtain ⟨v, h1, h2⟩ := hr y d hk e
      exact ⟨v, h1, h2.mono M⟩
  · obtain ⟨v, ⟨o, ho, hd⟩, h2⟩ := O.cl y a hk hc
    have hσ : σ a = none := by
      cases q : σ a with
      | none => rfl
      | some c =>
        exfalso
        obtain ⟨o', h1, h2⟩ := (O.s.cell a c q).sth
        rw [ho] at h1; cases h1
        exact h2.2 _ hd
    refine ⟨v, ⟨o, (x.keep a o id hσ ho).2, hd⟩, fun d e => ?_⟩
    obtain ⟨u, h3, h4⟩ := h2 d e
    exact ⟨u, h3, h4.mono M⟩
  · obtain ⟨h1, o, h2, h3⟩ := O.own b hb
    obtain ⟨q1, q2⟩ := x.keep b o id h1 h2
    exact ⟨q1, o, q2, h3⟩
end

section
/-! ## the predicates -/
noncomputable def Room (A : Around) (N : Nat) : Prop := A.handled = none ∧ A.depth + N < recursionLimit ∧ A.units + 16 * N < cLine
theorem Room.mono {A : Around} {N M : Nat} (h : Room A N) (k : M ≤ N) : Room A M := ⟨h.1, by have := h.2.1; lia, by have := h.2.2; lia⟩
theorem Room.in1 {A : Around} {N : Nat} (h : Room A (N + 1)) : Room A.in1 N := ⟨h.1, by have := h.2.1; show A.depth + N < _; lia, by have := h.2.2; show A.units + 1 + 16 * N < _; lia⟩
theorem Room.deeper {A : Around} {N : Nat} {env : Env} (h : Room A (N + 1)) : Room (A.deeper env) N := ⟨h.1, by have := h.2.1; show A.depth + 1 + N < _; lia, by have := h.2.2; show A.units + 3 + 16 * N < _; lia⟩
theorem Room.units {A : Around} {N : Nat} (h : Room A N) : A.units < cLine := by have := h.2.2; lia
theorem Room.depth {A : Around} {N : Nat} (h : Room A N) : A.depth < recursionLimit := by have := h.2.1; lia

noncomputable abbrev NoE : Value → Shared → Prop := fun _ _ => False
noncomputable abbrev Md (B : Bs) : Model := model B.prog B.w

inductive Fl where
  | next | brk | cont | ret (d : V)
noncomputable def RepF (h : Heap) : Fl → Flow → Prop
  | .next, f => f = .next
  | .brk, f => f = .brk
  | .cont, f => f = .cont
  | .ret d, f => ∃ v, f = .ret v ∧ Rep h d v

structure Post (B : Bs) (F : Frm) (s : Shared) (σ : Sto) (s' : Shared) (ρ' : Loc) (σ' : Sto) : Prop where
  x : Ext F.own s σ s' σ'
  o : Ok B F s' ρ' σ'
structure PostS (B : Bs) (s : Shared) (σ : Sto) (s' : Shared) (σ' : Sto) : Prop where
  x : Ext no s σ s' σ'
  o : OkS B s' σ'

/-! ## what holds after a step -/
/-- after an expression -/
inductive PE (B : Bs) (F : Frm) (s : Shared) (σ : Sto) (ρ : Loc) (Q : V → Sto → Prop) (v : Value) (s' : Shared) : Prop where
  | mk (d : V) (σ' : Sto) (P : Post B F s σ s' ρ σ') (r : Rep s'.heap d v) (q : Q d σ')
inductive PL (B : Bs) (F : Frm) (s : Shared) (σ : Sto) (ρ : Loc) (Q : List V → Sto → Prop) (vs : List Value) (s' : Shared) : Prop where
  | mk (ds : List V) (σ' : Sto) (P : Post B F s σ s' ρ σ') (r : RepL s'.heap ds vs) (q : Q ds σ')
inductive PI (B : Bs) (F : Frm) (s : Shared) (σ : Sto) (ρ : Loc) (Q : Bool → Sto → Prop) (b : Bool) (s' : Shared) : Prop where
  | mk (σ' : Sto) (P : Post B F s σ s' ρ σ') (q : Q b σ')
inductive PA (B : Bs) (F : Frm) (s : Shared) (σ : Sto) (Q : Loc → Sto → Prop) (s' : Shared) : Prop where
  | mk (ρ' : Loc) (σ' : Sto) (P : Post B F s σ s' ρ' σ') (q : Q ρ' σ')
inductive PX (B : Bs) (F : Frm) (s : Shared) (σ : Sto) (Q : Fl → Loc → Sto → Prop) (f : Flow) (s' : Shared) : Prop where
  | mk (fl : Fl) (ρ' : Loc) (σ' : Sto) (P : Post B F s σ s' ρ' σ') (r : RepF s'.heap fl f) (q : Q fl ρ' σ')
inductive PC (B : Bs) (s : Shared) (σ : Sto) (Q : V → Sto → Prop) (v : Value) (s' : Shared) : Prop where
  | mk (d : V) (σ' : Sto) (P : PostS B s σ s' σ') (r : Rep s'.heap d v) (q : Q d σ')
inductive PT {α : Type} (B : Bs) (s : Shared) (σ : Sto) (Q : α → Sto → Prop) (b : α) (s' : Shared) : Prop where
  | mk (σ' : Sto) (P : PostS B s σ s' σ') (q : Q b σ')

theorem PE.k {B : Bs} {F : Frm} {s : Shared} {σ : Sto} {ρ : Loc} {Q : V → Sto → Prop} {v : Value} {s' : Shared} {G : Prop} (h : PE B F s σ ρ Q v s') (f : ∀ d σ', Post B F s σ s' ρ σ' → Rep s'.heap d v → Q d σ' → G) : G := PE.rec (motive := fun _ => G) f h
theorem PL.k {B : Bs} {F : Frm} {s : Shared} {σ : Sto} {ρ : Loc} {Q : List V → Sto → Prop} {v : List Value} {s' : Shared} {G : Prop} (h : PL B F s σ ρ Q v s') (f : ∀ d σ', Post B F s σ s' ρ σ' → RepL s'.heap d v → Q d σ' → G) : G := PL.rec (motive := fun _ => G) f h
theorem PI.k {B : Bs} {F : Frm} {s : Shared} {σ : Sto} {ρ : Loc} {Q : Bool → Sto → Prop} {b : Bool} {s' : Shared} {G : Prop} (h : PI B F s σ ρ Q b s') (f : ∀ σ', Post B F s σ s' ρ σ' → Q b σ' → G) : G := PI.rec (motive := fun _ => G) f h
theorem PA.k {B : Bs} {F : Frm} {s : Shared} {σ : Sto} {Q : Loc → Sto → Prop} {s' : Shared} {G : Prop} (h : PA B F s σ Q s') (f : ∀ ρ' σ', Post B F s σ s' ρ' σ' → Q ρ' σ' → G) : G := PA.rec (motive := fun _ => G) f h
theorem PX.k {B : Bs} {F : Frm} {s : Shared} {σ : Sto} {Q : Fl → Loc → Sto → Prop} {v : Flow} {s' : Shared} {G : Prop} (h : PX B F s σ Q v s') (f : ∀ d ρ' σ', Post B F s σ s' ρ' σ' → RepF s'.heap d v → Q d ρ' σ' → G) : G := PX.rec (motive := fun _ => G) f h
theorem PC.k {B : Bs} {s : Shared} {σ : Sto} {Q : V → Sto → Prop} {v : Value} {s' : Shared} {G : Prop} (h : PC B s σ Q v s') (f : ∀ d σ', PostS B s σ s' σ' → Rep s'.heap d v → Q d σ' → G) : G := PC.rec (motive := fun _ => G) f h
theorem PT.k {α : Type} {B : Bs} {s : Shared} {σ : Sto} {Q : α → Sto → Prop} {b : α} {s' : Shared} {G : Prop} (h : PT B s σ Q b s') (f : ∀ σ', PostS B s σ s' σ' → Q b σ' → G) : G := PT.rec (motive := fun _ => G) f h

/-- an expression -/
structure WE (B : Bs) (sc : Sc) (N : Nat) (e : Expr) (ρ : Loc) (σ : Sto) (Q : V → Sto → Prop) : Prop where
  run : ∀ (A : Around) (F : Frm) (s : Shared), Room A N → FrmOk B sc F → Ok B F s ρ σ →
    wpAny (Md B) A (eval e F.env) (PE B F s σ ρ Q) NoE s
/-- a test -/
structure WI (B : Bs) (sc : Sc) (N : Nat) (e : Expr) (ρ : Loc) (σ : Sto) (Q : Bool → Sto → Prop) : Prop where
  run : ∀ (A : Around) (F : Frm) (s : Shared), Room A N → FrmOk B sc F → Ok B F s ρ σ →
    wpAny (Md B) A (isTrue e F.env (eval e F.env)) (PI B F s σ ρ Q) NoE s
/-- items in their order -/
structure WL (B : Bs) (sc : Sc) (N : Nat) (es : List Expr) (ρ : Loc) (σ : Sto) (Q : List V → Sto → Prop) : Prop where
  run : ∀ (A : Around) (F : Frm) (pos : Pos) (s : Shared), Room A N → FrmOk B sc F → Ok B F s ρ σ →
    wpAny (Md B) A (spliced (backTo pos (starEach es F.env))) (PL B F s σ ρ Q) NoE s
/-- an assignment of a value -/
structure WA (B : Bs) (sc : Sc) (N : Nat) (t : Expr) (d : V) (ρ : Loc) (σ : Sto) (Q : Loc → Sto → Prop) : Prop where
  run : ∀ (A : Around) (F : Frm) (s : Shared) (v : Value), Room A N → FrmOk B sc F → Ok B F s ρ σ → Rep s.heap d v →
    wpAny (Md B) A (assign t F.env v) (fun _ => PA B F s σ Q) NoE s
/-- a statement -/
structure WX (B : Bs) (sc : Sc) (N : Nat) (st : Stmt) (ρ : Loc) (σ : Sto) (Q : Fl → Loc → Sto → Prop) : Prop where
  run : ∀ (A : Around) (F : Frm) (s : Shared), Room A N → FrmOk B sc F → Ok B F s ρ σ →
    wpAny (Md B) A (exec st F.env) (PX B F s σ Q) NoE s
/-- statements -/
structure WS (B : Bs) (sc : Sc) (N : Nat) (ss : List Stmt) (ρ : Loc) (σ : Sto) (Q : Fl → Loc → Sto → Prop) : Prop where
  run : ∀ (A : Around) (F : Frm) (s : Shared), Room A N → FrmOk B sc F → Ok B F s ρ σ →
    wpAny (Md B) A (execs ss F.env) (PX B F s σ Q) NoE s
/-- a tree over one value, over two, over three -/
noncomputable def W1 (B : Bs) (N : Nat) (t : Value → Sem Value) (a : V) (σ : Sto) (Q : V → Sto → Prop) : Prop :=
  ∀ (A : Around) (s : Shared) (v : Value), Room A N → OkS B s σ → Rep s.heap a v →
    wpAny (Md B) A (t v) (PC B s σ Q) NoE s
noncomputable def W2 (B : Bs) (N : Nat) (t : Value → Value → Sem Value) (a b : V) (σ : Sto) (Q : V → Sto → Prop) : Prop :=
  ∀ (A : Around) (s : Shared) (v u : Value), Room A N → OkS B s σ → Rep s.heap a v → Rep s.heap b u →
    wpAny (Md B) A (t v u) (PC B s σ Q) NoE s
noncomputable def WT (B : Bs) (N : Nat) (a : V) (σ : Sto) (Q : Bool → Sto → Prop) : Prop :=
  ∀ (A : Around) (s : Shared) (v : Value), Room A N → OkS B s σ → Rep s.heap a v →
    wpAny (Md B) A (truthy v) (PT B s σ Q) NoE s
/-- a call -/
noncomputable def RepK (h : Heap) : List (Str × V) → List (Str × Value) → Prop
  | [], ks => ks = []
  | (n, d) :: r, ks => ∃ v q, ks = (n, v) :: q ∧ Rep h d v ∧ RepK h r q
noncomputable def WC (B : Bs) (N : Nat) (f : V) (args : List V) (kw : List (Str × V)) (σ : Sto) (Q : V → Sto → Prop) : Prop :=
  ∀ (A : Around) (s : Shared) (vf : Value) (vs : List Value) (kws : List (Str × Value)), Room A N → OkS B s σ → Rep s.heap f vf → RepL s.heap args vs → RepK s.heap kw kws →
    wpAny (Md B) A (call vf vs kws) (PC B s σ Q) NoE s

inductive PK (B : Bs) (F : Frm) (s : Shared) (σ : Sto) (ρ : Loc) (Q : List (Str × V) → Sto → Prop) (ns : List Str) (vs : List Value) (s' : Shared) : Prop where
  | mk (ds : List (Str × V)) (σ' : Sto) (P : Post B F s σ s' ρ σ') (r : RepK s'.heap ds (ns.zip vs)) (q : Q ds σ')
theorem PK.k {B : Bs} {F : Frm} {s : Shared} {σ : Sto} {ρ : Loc} {Q : List (Str × V) → Sto → Prop} {ns : List Str} {v : List Value} {s' : Shared} {G : Prop} (h : PK B F s σ ρ Q ns v s') (f : ∀ d σ', Post B F s σ s' ρ σ' → RepK s'.heap d (ns.zip v) → Q d σ' → G) : G := PK.rec (motive := fun _ => G) f h
theorem RepK.mono {h h' : Heap} (M : Mono h h') : ∀ {ds : List (Str × V)} {vs : List (Str × Value)}, RepK h ds vs → RepK h' ds vs
  | [], _, r => r
  | (n, d) :: ds, vs, r => by
    obtain ⟨v, r', e, h1, h2⟩ := r
    exact ⟨v, r', e, h1.mono M, RepK.mono M h2⟩

/-! ## glue -/
theorem Post.refl {B : Bs} {F : Frm} {s : Shared} {ρ : Loc} {σ : Sto} (O : Ok B F s ρ σ) : Post B F s σ s ρ σ := ⟨.refl, O⟩
theorem Post.toks {B : Bs} {F : Frm} {s : Shared} {ρ : Loc} {σ : Sto} {t : Nat} (O : Ok B F s ρ σ) (ht : 1 ≤ s.toks → 1 ≤ t := by lia) : Post B F s σ { s with toks := t } ρ σ := ⟨.toks, ⟨O.s.keep, O.s.cell, O.s.fresh, ht O.s.tk⟩, O.ns, O.cl, O.own⟩
theorem Post.trans {B : Bs} {F : Frm} {s s' s'' : Shared} {ρ' ρ'' : Loc} {σ σ' σ'' : Sto} (x : Post B F s σ s' ρ' σ') (y : Post B F s' σ' s'' ρ'' σ'') : Post B F s σ s'' ρ'' σ'' := ⟨x.x.trans y.x, y.o⟩
theorem PostS.refl {B : Bs} {s : Shared} {σ : Sto} (O : OkS B s σ) : PostS B s σ s σ := ⟨.refl, O⟩
theorem PostS.toks {B : Bs} {s : Shared} {σ : Sto} {t : Nat} (O : OkS B s σ) (ht : 1 ≤ s.toks → 1 ≤ t := by lia) : PostS B s σ { s with toks := t } σ := ⟨.toks, O.keep, O.cell, O.fresh, ht O.tk⟩
theorem PostS.trans {B : Bs} {s s' s'' : Shared} {σ σ' σ'' : Sto} (x : PostS B s σ s' σ') (y : PostS B s' σ' s'' σ'') : PostS B s σ s'' σ'' := ⟨x.x.trans y.x, y.o⟩
theorem PostS.keeps {B : Bs} {s : Shared} {σ : Sto} {h' : Heap} {tk : Nat} (O : OkS B s σ) (k : ∀ b o, s.heap.get? b = some o → h'.get? b = some o) (ht : 1 ≤ s.toks → 1 ≤ tk := by lia) : PostS B s σ { s with heap := h', toks := tk } σ := ⟨.keeps k, O.keeps k ht⟩
theorem PostS.push {B : Bs} {s : Shared} {σ : Sto} {o : Obj} {tk : Nat} (O : OkS B s σ) (ht : 1 ≤ s.toks → 1 ≤ tk := by lia) : PostS B s σ { s with heap := s.heap.push o, toks := tk } σ := .keeps O (fun _ _ e => Heap.get?_push_of_some o e) ht
theorem PostS.frame {B : Bs} {sc : Sc} {F : Frm} {s s' : Shared} {ρ : Loc} {σ σ' : Sto} (x : PostS B s σ s' σ') (X : FrmOk B sc F) (O : Ok B F s ρ σ) : Post B F s σ s' ρ σ' := ⟨x.x.of_no, O.step X.ownL x.x x.o⟩
theorem Post.mono {B : Bs} {F : Frm} {s s' : Shared} {ρ ρ' : Loc} {σ σ' : Sto} (x : Post B F s σ s' ρ' σ') (O : Ok B F s ρ σ) : Mono s.heap s'.heap := x.x.mono O.s O.ownNT
theorem PostS.mono {B : Bs} {s s' : Shared} {σ σ' : Sto} (x : PostS B s σ s' σ') (O : OkS B s σ) : Mono s.heap s'.heap := x.x.mono_no O
theorem new_none (h : Heap) : h.get? h.objs.size = none := by
  cases e : h.get? h.objs.size with
  | none => rfl
  | some o => exact absurd (Heap.lt_size e) (Nat.lt_irrefl _)
theorem PostS.new {B : Bs} {s : Shared} {σ : Sto} {o : Obj} {c : Cell} {tk : Nat} (O : OkS B s σ) (hc : CellAt B (s.heap.push o) s.heap.objs.size c) (ht : 1 ≤ s.toks → 1 ≤ tk := by lia) :
    PostS B s σ { s with heap := s.heap.push o, toks := tk } (σ.set s.heap.objs.size c) :=
  ⟨.new (fun _ _ e => Heap.get?_push_of_some o e) (new_none _), O.new (fun _ _ e => Heap.get?_push_of_some o e) (new_none _) hc ht⟩
theorem OkS.free {B : Bs} {s : Shared} {σ : Sto} (O : OkS B s σ) : σ s.heap.objs.size = none := by
  cases e : σ s.heap.objs.size with
  | none => rfl
  | some c =>
    obtain ⟨o, ho, _⟩ := (O.cell _ c e).nt
    rw [new_none] at ho; cases ho
theorem PostS.upd {B : Bs} {s : Shared} {σ : Sto} {h' : Heap} {tk : Nat} {a : Addr} {c₀ c : Cell} (O : OkS B s σ) (hs : Heap.ExtBut a s.heap h') (h0 : σ a = some c₀) (hc : CellAt B h' a c) (ht : 1 ≤ s.toks → 1 ≤ tk := by lia) :
    PostS B s σ { s with heap := h', toks := tk } (σ.set a c) := ⟨.upd hs h0, O.upd hs h0 hc ht⟩

section
variable {B : Bs} {sc : Sc} {N : Nat} {ρ : Loc} {σ : Sto} {F : Frm} {A : Around} {s : Shared}

theorem WE.mono {e : Expr} {Q Q' : V → Sto → Prop} (h : WE B sc N e ρ σ Q) (k : ∀ d σ', Q d σ' → Q' d σ') : WE B sc N e ρ σ Q' := .mk fun A F s R X O =>
  wpAny_mono (h.run A F s R X O) (fun v s' hp => hp.k fun d σ' P r q => ⟨d, σ', P, r, k _ _ q⟩) fun _ _ f => f
theorem WC.mono {f : V} {args : List V} {kw : List (Str × V)} {Q Q' : V → Sto → Prop} (h : WC B N f args kw σ Q) (k : ∀ d σ', Q d σ' → Q' d σ') : WC B N f args kw σ Q' := fun A s vf vs kws R O h1 h2 h3 =>
  wpAny_mono (h A s vf vs kws R O h1 h2 h3) (fun v s' hp => hp.k fun d σ' P r q => ⟨d, σ', P, r, k _ _ q⟩) fun _ _ f => f
theorem WC.room {N M : Nat} {f : V} {args : List V} {kw : List (Str × V)} {Q : V → Sto → Prop} (h : WC B N f args kw σ Q) (k : N ≤ M) : WC B M f args kw σ Q := fun A s vf vs kws R => h A s vf vs kws (R.mono k)
theorem W2.mono {t : Value → Value → Sem Value} {a b : V} {Q Q' : V → Sto → Prop} (h : W2 B N t a b σ Q) (k : ∀ d σ', Q d σ' → Q' d σ') : W2 B N t a b σ Q' := fun A s v u R O h1 h2 =>
  wpAny_mono (h A s v u R O h1 h2) (fun v s' hp => hp.k fun d σ' P r q => ⟨d, σ', P, r, k _ _ q⟩) fun _ _ f => f
theorem WS.mono {ss : List Stmt} {Q Q' : Fl → Loc → Sto → Prop} (h : WS B sc N ss ρ σ Q) (k : ∀ f ρ' σ', Q f ρ' σ' → Q' f ρ' σ') : WS B sc N ss ρ σ Q' := .mk fun A F s R X O =>
  wpAny_mono (h.run A F s R X O) (fun v s' hp => hp.k fun d ρ' σ' P r q => ⟨d, ρ', σ', P, r, k _ _ _ q⟩) fun _ _ f => f

/-- a tree that leaves the frame alone, from within a frame -/
theorem in_frame {α : Type} {t : Sem α} {P : α → Shared → Sto → Prop} (X : FrmOk B sc F) (O : Ok B F s ρ σ)
    (h : wpAny (Md B) A t (fun v s' => ∃ σ', PostS B s σ s' σ' ∧ P v s' σ') NoE s) : wpAny (Md B) A t (fun v s' => ∃ σ', Post B F s σ s' ρ σ' ∧ P v s' σ') NoE s :=
  wpAny_mono h (fun v s' ⟨σ', p, q⟩ => ⟨σ', p.frame X O, q⟩) fun _ _ f => f

/-! ## expressions -/
theorem WE.none {k : Nat} {pos : Pos} {Q : V → Sto → Prop} (h : Q .none σ) : WE B sc N (.Constant .none k pos) ρ σ Q := .mk fun A F s _ _ O => wpAny_Constant_none ⟨.none, σ, .refl O, rfl, h⟩
theorem WE.bool {b : Bool} {k : Nat} {pos : Pos} {Q : V → Sto → Prop} (h : Q (.bool b) σ) : WE B sc N (.Constant (.bool b) k pos) ρ σ Q := .mk fun A F s _ _ O => wpAny_Constant_bool ⟨.bool b, σ, .refl O, rfl, h⟩
theorem WE.int {i : Int} {k : Nat} {pos : Pos} {Q : V → Sto → Prop} (h : Q (.int i) σ) : WE B sc N (.Constant (.int i) k pos) ρ σ Q := .mk fun A F s _ _ O => wpAny_Constant_int ⟨.int i, σ, .toks O, ⟨_, rfl⟩, h⟩
theorem WE.str {x : Str} {k : Nat} {pos : Pos} {Q : V → Sto → Prop} (h : Q (.str x) σ) : WE B sc N (.Constant (.str x) k pos) ρ σ Q := .mk fun A F s _ _ O => wpAny_Constant_str ⟨.str x, σ, .toks O, ⟨_, rfl⟩, h⟩

theorem WE.loc {x : Str} {pos : Pos} {d : V} {Q : V → Sto → Prop} (hk : sc.scope.names.lookup x = some .local) (hd : ρ x = some d) (h : Q d σ) (hb : (x == ("__debug__" : Str)) = false) : WE B sc N (.Name x pos) ρ σ Q := .mk fun A F s _ X O => by
  obtain ⟨m, hn, hr⟩ := O.ns
  obtain ⟨v, hv, r⟩ := hr x d (by rw [X.kindOf, hk]) hd
  exact wpAny_Name (wpAny_loadName_local (by rw [X.scope]; exact X.fn) (by rw [X.kindOf, hk]) hn hv ⟨d, σ, .refl O, r, h⟩) hb
theorem WE.cel {x : Str} {pos : Pos} {d : V} {Q : V → Sto → Prop} (hk : sc.scope.names.lookup x = some .cell) (hd : ρ x = some d) (h : Q d σ) (hb : (x == ("__debug__" : Str)) = false) : WE B sc N (.Name x pos) ρ σ Q := .mk fun A F s _ X O => by
  have hkk : F.env.kindOf x = some .cell := by rw [X.kindOf, hk]
  obtain ⟨a, ha⟩ := X.cex x hk
  obtain ⟨v, hc, hr⟩ := O.cl x a hkk ha
  obtain ⟨u, rfl, r⟩ := hr d hd
  exact wpAny_Name (wpAny_loadName_cell (by rw [X.scope]; exact X.fn) hkk ha hc ⟨d, σ, .refl O, r, h⟩) hb
theorem WE.glob {x : Str} {pos : Pos} {d : V} {v : Value} {mg : Str → Option Value} {Q : V → Sto → Prop} (hk : sc.scope.names.lookup x = some .globalImplicit) (hg : B.h₀.Ns mainGlobals mg) (hv : mg x = some v) (hr : ∀ h, Rep h d v) (h : Q d σ)
    (hb : (x == ("__debug__" : Str)) = false) : WE B sc N (.Name x pos) ρ σ Q := .mk fun A F s _ X O =>
  Calls.Name_function_global (by rw [X.scope]; exact X.fn) (by rw [X.kindOf, hk]) (Calls.loadGlobal_global (X.globals ▸ hg.keeps O.s.keep) hv ⟨d, σ, .refl O, hr _, h⟩) hb
theorem WE.blt {x : Str} {pos : Pos} {d : V} {v : Value} {mg mb : Str → Option Value} {Q : V → Sto → Prop} (hk : sc.scope.names.lookup x = some .globalImplicit) (hg : B.h₀.Ns mainGlobals mg) (hn : mg x = Option.none) (hbn : B.h₀.Ns builtinsNs mb) (hv : mb x = some v)
    (hr : ∀ h, Rep h d v) (h : Q d σ) (hb : (x == ("__debug__" : Str)) = false) : WE B sc N (.Name x pos) ρ σ Q := .mk fun A F s _ X O =>
  Calls.Name_function_global (by rw [X.scope]; exact X.fn) (by rw [X.kindOf, hk]) (Calls.loadGlobal_builtin (X.globals ▸ hg.keeps O.s.keep) hn (X.builtins ▸ hbn.keeps O.s.keep) hv ⟨d, σ, .refl O, hr _, h⟩) hb

/-! what is owed next, by names -/
noncomputable abbrev K2 (B : Bs) (N : Nat) (t : Value → Value → Sem Value) (Q : V → Sto → Prop) (a b : V) (σ₂ : Sto) : Prop := W2 B N t a b σ₂ Q
noncomputable abbrev KB (B : Bs) (sc : Sc) (N : Nat) (r : Expr) (t : Value → Value → Sem Value) (ρ : Loc) (Q : V → Sto → Prop) (a : V) (σ₁ : Sto) : Prop := WE B sc N r ρ σ₁ (K2 B N t Q a)
noncomputable abbrev KT (B : Bs) (N : Nat) (Q : Bool → Sto → Prop) (c : V) (σ₃ : Sto) : Prop := WT B N c σ₃ Q
noncomputable abbrev KC (d : V) (Q : List V → Sto → Prop) (ds : List V) (σ₂ : Sto) : Prop := Q (d :: ds) σ₂
noncomputable abbrev KL (B : Bs) (sc : Sc) (N : Nat) (es : List Expr) (ρ : Loc) (Q : List V → Sto → Prop) (d : V) (σ₁ : Sto) : Prop := WL B sc N es ρ σ₁ (KC d Q)
noncomputable abbrev KIf (P R : Sto → Prop) (b : Bool) (σ₁ : Sto) : Prop := (b = true → P σ₁) ∧ (b = false → R σ₁)
theorem WE.bin {l r : Expr} {op : Operator} {pos : Pos} {Q : V → Sto → Prop} (h : WE B sc N l ρ σ (KB B sc N r (binaryOp op) ρ Q)) : WE B sc N (.BinOp l op r pos) ρ σ Q := .mk fun A F s R X O => by
  refine wpAny_BinOp (wpAny_mono (h.run A F s R X O) (fun v s₁ hp => hp.k fun a σ₁ P₁ r₁ h₁ => ?_) fun _ _ f => f)
  refine wpAny_mono (h₁.run A F s₁ R X P₁.o) (fun u s₂ hp => hp.k fun b σ₂ P₂ r₂ h₂ => ?_) fun _ _ f => f
  refine wpAny_mono (h₂ A s₂ v u R P₂.o.s (r₁.mono (P₂.mono P₁.o)) r₂) (fun z s₃ hp => hp.k fun d σ₃ P₃ r₃ q => ?_) fun _ _ f => f
  exact ⟨d, σ₃, P₁.trans (P₂.trans (P₃.frame X P₂.o)), r₃, q⟩
theorem WE.cmp {l r : Expr} {op : CmpOp} {pos : Pos} {Q : V → Sto → Prop} (h : WE B sc N l ρ σ (KB B sc N r (compareOp op) ρ Q)) (hm : behindInMarks op r = false) : WE B sc N (.Compare l [op] [r] pos) ρ σ Q := .mk fun A F s R X O => by
  refine wpAny_Compare1 (wpAny_mono (h.run A F s R X O) (fun v s₁ hp => hp.k fun a σ₁ P₁ r₁ h₁ => ?_) fun _ _ f => f) hm
  refine wpAny_mono (h₁.run A F s₁ R X P₁.o) (fun u s₂ hp => hp.k fun b σ₂ P₂ r₂ h₂ => ?_) fun _ _ f => f
  refine wpAny_mono (h₂ A s₂ v u R P₂.o.s (r₁.mono (P₂.mono P₁.o)) r₂) (fun z s₃ hp => hp.k fun d σ₃ P₃ r₃ q => ?_) fun _ _ f => f
  exact ⟨d, σ₃, P₁.trans (P₂.trans (P₃.frame X P₂.o)), r₃, q⟩
theorem WE.un {x : Expr} {op : UnaryOp} {pos : Pos} {Q : V → Sto → Prop} (h : WE B sc N x ρ σ fun a σ₁ => W1 B N (unaryOp op) a σ₁ Q) : WE B sc N (.UnaryOp op x pos) ρ σ Q := .mk fun A F s R X O => by
  refine wpAny_UnaryOp (wpAny_mono (h.run A F s R X O) (fun v s₁ hp => hp.k fun a σ₁ P₁ r₁ h₁ => ?_) fun _ _ f => f)
  refine wpAny_mono (h₁ A s₁ v R P₁.o.s r₁) (fun z s₃ hp => hp.k fun d σ₃ P₃ r₃ q => ?_) fun _ _ f => f
  exact ⟨d, σ₃, P₁.trans (P₃.frame X P₁.o), r₃, q⟩
theorem WE.ife {t x y : Expr} {pos : Pos} {Q : V → Sto → Prop} (h : WI B sc N t ρ σ fun b σ₁ => (b = true → WE B sc N x ρ σ₁ Q) ∧ (b = false → WE B sc N y ρ σ₁ Q)) : WE B sc N (.IfExp t x y pos) ρ σ Q := .mk fun A F s R X O => by
  refine wpAny_IfExp (wpAny_mono (h.run A F s R X O) (fun b s₁ hp => hp.k fun σ₁ P₁ h₁ => ?_) fun _ _ f => f)
  cases b with
  | true => exact wpAny_mono ((h₁.1 rfl).run A F s₁ R X P₁.o) (fun u s₂ hp => hp.k fun b σ₂ P₂ r₂ h₂ => ⟨b, σ₂, P₁.trans P₂, r₂, h₂⟩) fun _ _ f => f
  | false => exact wpAny_mono ((h₁.2 rfl).run A F s₁ R X P₁.o) (fun u s₂ hp => hp.k fun b σ₂ P₂ r₂ h₂ => ⟨b, σ₂, P₁.trans P₂, r₂, h₂⟩) fun _ _ f => f

/-! ## items -/
theorem WL.nil {Q : List V → Sto → Prop} (h : Q [] σ) : WL B sc N [] ρ σ Q := .mk fun A F pos s _ _ O => wpAny_items_nil ⟨[], σ, .refl O, RepL.nil, h⟩
theorem WL.cons {e : Expr} {es : List Expr} {Q : List V → Sto → Prop} (h : WE B sc N e ρ σ (KL B sc N es ρ Q))
    (he : ∀ env, starEach (e :: es) env = (false, eval e env) :: starEach es env) : WL B sc N (e :: es) ρ σ Q := .mk fun A F pos s R X O => by
  refine wpAny_items_cons (wpAny_mono (h.run A F s R X O) (fun v s₁ hp => hp.k fun a σ₁ P₁ r₁ h₁ => ?_) fun _ _ f => f) (he _)
  refine wpAny_mono (h₁.run A F pos s₁ R X P₁.o) (fun vs s₂ hp => hp.k fun ds σ₂ P₂ r₂ h₂ => ?_) fun _ _ f => f
  exact ⟨a :: ds, σ₂, P₁.trans P₂, .cons (r₁.mono (P₂.mono P₁.o)) r₂, h₂⟩

theorem rep_tup_new {h : Heap} {ds : List V} {vs : List Value} (r : RepL h ds vs) : Rep (h.push { cls := .type "tuple", data := .seq vs.toArray }) (.tup ds) (.ref h.objs.size) :=
  ⟨_, vs, rfl, ⟨_, Heap.get?_push_size _ rfl, rfl, _, rfl⟩, r.mono (Mono.of_keeps fun _ _ e => Heap.get?_push_of_some _ e)⟩
theorem WE.tup {es : List Expr} {k : Nat} {pos : Pos} {Q : V → Sto → Prop} (h : WL B sc N es ρ σ fun ds σ₁ => ds.length ≤ 1000 ∧ Q (.tup ds) σ₁) : WE B sc N (.Tuple es k pos) ρ σ Q := .mk fun A F s R X O => by
  refine wpAny_Tuple (wpAny_mono (h.run A F pos s R X O) (fun vs s₁ hp => hp.k fun ds σ₁ P₁ r₁ q => u2 q fun hl h₁ => ?_) fun _ _ f => f)
  refine ⟨by rw [r₁.length, sizeLine_eq]; lia, .tup ds, σ₁, P₁.trans ((PostS.push (tk := s₁.toks) P₁.o.s).frame X P₁.o), rep_tup_new r₁, h₁⟩
theorem cell_list_new {h : Heap} {ds : List V} {vs : List Value} (r : RepL h ds vs) : CellAt B (h.push { cls := .type "list", data := .seq vs.toArray }) h.objs.size (.list ds) :=
  ⟨vs, ⟨0, Heap.get?_push_size _ rfl⟩, r.mono (Mono.of_keeps fun _ _ e => Heap.get?_push_of_some _ e)⟩
theorem WE.lst {es : List Expr} {pos : Pos} {Q : V → Sto → Prop} (h : WL B sc N es ρ σ fun ds σ₁ => ds.length ≤ 1000 ∧ ∀ a, σ₁ a = Option.none → Q (.ref a) (σ₁.set a (.list ds))) : WE B sc N (.List es pos) ρ σ Q := .mk fun A F s R X O => by
  refine wpAny_List (wpAny_mono (h.run A F pos s R X O) (fun vs s₁ hp => hp.k fun ds σ₁ P₁ r₁ q => u2 q fun hl h₁ => ?_) fun _ _ f => f)
  exact ⟨by rw [r₁.length, sizeLine_eq]; lia, .ref _, _, P₁.trans ((PostS.new (tk := s₁.toks) P₁.o.s (cell_list_new r₁)).frame X P₁.o), rfl, h₁ _ P₁.o.s.free⟩

/-! ## tests -/
theorem WI.val {e : Expr} {Q : Bool → Sto → Prop} (h : WE B sc N e ρ σ (KT B N Q)) (he : ∀ env whole, isTrue e env whole = (do let v ← whole; standAt e.pos; holding [v] (truthy v))) : WI B sc N e ρ σ Q := .mk fun A F s R X O => by
  refine wpAny_isTrue_value (wpAny_mono (h.run A F s R X O) (fun v s₁ hp => hp.k fun a σ₁ P₁ r₁ h₁ => ?_) fun _ _ f => f) (he _ _)
  exact wpAny_mono (h₁ A s₁ v R P₁.o.s r₁) (fun b s₂ hp => hp.k fun σ₂ P₂ q => ⟨σ₂, P₁.trans (P₂.frame X P₁.o), q⟩) fun _ _ f => f
theorem WT.bool {b : Bool} {Q : Bool → Sto → Prop} (h : Q b σ) : WT B N (.bool b) σ Q := fun A s v _ O r => by cases r; exact wpAny_truthy_bool ⟨σ, .refl O, h⟩
theorem WI.cmp {l r : Expr} {op : CmpOp} {pos : Pos} {Q : Bool → Sto → Prop} (h : WE B sc N l ρ σ (KB B sc N r (compareOp op) ρ (KT B N Q))) (hm : behindInMarks op r = false) : WI B sc N (.Compare l [op] [r] pos) ρ σ Q := .mk fun A F s R X O => by
  refine wpAny_isTrue_Compare1 (wpAny_mono (h.run A F s R X O) (fun v s₁ hp => hp.k fun a σ₁ P₁ r₁ h₁ => ?_) fun _ _ f => f) hm
  refine wpAny_mono (h₁.run A F s₁ R X P₁.o) (fun u s₂ hp => hp.k fun b σ₂ P₂ r₂ h₂ => ?_) fun _ _ f => f
  refine wpAny_mono (h₂ A s₂ v u R P₂.o.s (r₁.mono (P₂.mono P₁.o)) r₂) (fun z s₃ hp => hp.k fun d σ₃ P₃ r₃ q => ?_) fun _ _ f => f
  have P₃' := P₃.frame X P₂.o
  exact wpAny_mono (q A s₃ z R P₃.o r₃) (fun b s₄ hp => hp.k fun σ₄ P₄ q => ⟨σ₄, P₁.trans (P₂.trans (P₃'.trans (P₄.frame X P₃'.o))), q⟩) fun _ _ f => f
theorem WI.not {x : Expr} {pos : Pos} {Q : Bool → Sto → Prop} (h : WI B sc N x ρ σ fun b σ₁ => Q (!b) σ₁) : WI B sc N (.UnaryOp .Not x pos) ρ σ Q := .mk fun A F s R X O =>
  wpAny_isTrue_Not (wpAny_mono (h.run A F s R X O) (fun b s₁ hp => hp.k fun σ₁ P₁ h₁ => ⟨σ₁, P₁, h₁⟩) fun _ _ f => f)
theorem WI.and2 {x y : Expr} {pos : Pos} {Q : Bool → Sto → Prop} (h : WI B sc N x ρ σ fun b σ₁ => (b = true → WI B sc N y ρ σ₁ Q) ∧ (b = false → Q false σ₁)) : WI B sc N (.BoolOp .And [x, y] pos) ρ σ Q := .mk fun A F s R X O => by
  refine wpAny_isTrue_BoolOp (wpAny_allTrue_And_cons (wpAny_mono (h.run A F s R X O) (fun b s₁ hp => hp.k fun σ₁ P₁ h₁ => ?_) fun _ _ f => f))
  cases b with
  | false => exact ⟨σ₁, P₁, h₁.2 rfl⟩
  | true =>
    refine wpAny_allTrue_And_cons (wpAny_mono ((h₁.1 rfl).run A F s₁ R X P₁.o) (fun b s₂ hp => hp.k fun σ₂ P₂ h₂ => ?_) fun _ _ f => f)
    cases b with
    | false => exact ⟨σ₂, P₁.trans P₂, h₂⟩
    | true => exact wpAny_allTrue_And_nil ⟨σ₂, P₁.trans P₂, h₂⟩
theorem WI.or2 {x y : Expr} {pos : Pos} {Q : Bool → Sto → Prop} (h : WI B sc N x ρ σ fun b σ₁ => (b = true → Q true σ₁) ∧ (b = false → WI B sc N y ρ σ₁ Q)) : WI B sc N (.BoolOp .Or [x, y] pos) ρ σ Q := .mk fun A F s R X O => by
  refine wpAny_isTrue_BoolOp (wpAny_allTrue_Or_cons (wpAny_mono (h.run A F s R X O) (fun b s₁ hp => hp.k fun σ₁ P₁ h₁ => ?_) fun _ _ f => f))
  cases b with
  | true => exact ⟨σ₁, P₁, h₁.1 rfl⟩
  | false =>
    refine wpAny_allTrue_Or_cons (wpAny_mono ((h₁.2 rfl).run A F s₁ R X P₁.o) (fun b s₂ hp => hp.k fun σ₂ P₂ h₂ => ?_) fun _ _ f => f)
    cases b with
    | true => exact ⟨σ₂, P₁.trans P₂, h₂⟩
    | false => exact wpAny_allTrue_Or_nil ⟨σ₂, P₁.trans P₂, h₂⟩

/-! ## stores -/
theorem Ok.setLoc {h' : Heap} {x : Str} {d : V} {v : Value} {m : Str → Option Value} (X : FrmOk B sc F) (O : Ok B F s ρ σ) (r : Rep s.heap d v) (hn : s.heap.Ns F.env.locals m) (hm : ∀ y e, F.env.kindOf y = some .local → ρ y = some e → ∃ u, m y = some u ∧ Rep s.heap e u)
    (hk : F.env.kindOf x = some .local) (hn' : h'.Ns F.env.locals (fun y => if y = x then some v else m y)) (hs : Heap.SameBut F.env.locals s.heap h') {tk : Nat} (ht : 1 ≤ s.toks → 1 ≤ tk := by lia) : Post B F s σ { s with heap := h', toks := tk } (ρ.set x d) σ := by
  have hx : Ext F.own s σ { s with heap := h', toks := tk } σ := ⟨⟨h', tk, rfl⟩, fun b o hb hσ e => ⟨hσ, hs.extBut b o (by rintro rfl; exact hb X.ownL) e⟩, fun _ h => h⟩
  have M := hx.mono O.s O.ownNT
  refine ⟨hx, ⟨⟨fun b o e => hs.extBut b o (by rintro rfl; rw [X.ownNew _ X.ownL] at e; cases e) (O.s.keep b o e), fun a c e => (O.s.cell a c e).mono (fun o => hs.extBut a o (by rintro rfl; rw [(O.own _ X.ownL).1] at e; cases e)) M, O.s.fresh, ht O.s.tk⟩,
    ⟨_, hn', fun y e hky he => ?_⟩, fun y a hky hc => ?_, fun b hb => ?_⟩⟩
  · by_cases q : y = x
    · subst q; simp only [Loc.set, if_true] at he ⊢; cases he; exact ⟨v, rfl, r.mono M⟩
    · simp only [Loc.set, q, if_false] at he ⊢
      obtain ⟨u, h1, h2⟩ := hm y e hky he
      exact ⟨u, h1, h2.mono M⟩
  · obtain ⟨w', hcell, hr⟩ := O.cl y a hky hc
    refine ⟨w', hcell.sameBut hs ?_, fun e he => ?_⟩
    · rintro rfl
      obtain ⟨o, ho, hd⟩ := hcell
      obtain ⟨o', _, _, ho', hd', _⟩ := hn
      rw [ho] at ho'; cases ho'; rw [hd] at hd'; cases hd'
    · have q : y ≠ x := by rintro rfl; rw [hk] at hky; cases hky
      simp only [Loc.set, q, if_false] at he
      obtain ⟨u, h1, h2⟩ := hr e he
      exact ⟨u, h1, h2.mono M⟩
  · obtain ⟨h1, o, h2, h3⟩ := O.own b hb
    refine ⟨h1, ?_⟩
    by_cases q : b = F.env.locals
    · subst q
      exact nt_ns hn'
    · exact ⟨o, hs.extBut b o q h2, h3⟩
end
end

section
section
variable {B : Bs} {sc : Sc} {N : Nat} {ρ : Loc} {σ : Sto} {F : Frm} {A : Around} {s : Shared}

/-! ## storing names -/
theorem FrmOk.notMod (X : FrmOk B sc F) : (F.env.scope.kind == .class || (F.env.scope.kind == .module && F.env.locals != F.env.globals)) = false := by rw [X.scope, X.fn]; rfl

/-- a store of a name -/
structure WN (B : Bs) (sc : Sc) (x : Str) (d : V) (ρ : Loc) (σ : Sto) (Q : Loc → Sto → Prop) : Prop where
  run : ∀ (A : Around) (F : Frm) (s : Shared) (v : Value), FrmOk B sc F → Ok B F s ρ σ → Rep s.heap d v →
    wpAny (Md B) A (storeName F.env x v) (fun _ => PA B F s σ Q) NoE s

theorem WN.loc {x : Str} {d : V} {Q : Loc → Sto → Prop} (hk : sc.scope.names.lookup x = some .local) (h : Q (ρ.set x d) σ) : WN B sc x d ρ σ Q := .mk fun A F s v X O r => by
  obtain ⟨m, hn, hr⟩ := O.ns
  have hkk : F.env.kindOf x = some .local := by rw [X.kindOf, hk]
  exact wpAny_storeName_local hkk hn (fun h' hn' hs => ⟨_, _, Ok.setLoc X O r hn hr hkk hn' hs, h⟩) X.notMod

theorem Ok.setCell {h' : Heap} {x : Str} {a : Addr} {d : V} {v : Value} (X : FrmOk B sc F) (O : Ok B F s ρ σ) (r : Rep s.heap d v) (hk : F.env.kindOf x = some .cell) (ha : F.env.cells.lookup x = some a) (hown : F.own a)
    (hc : h'.IsCell a (some v)) (hs : Heap.SameBut a s.heap h') {tk : Nat} (ht : 1 ≤ s.toks → 1 ≤ tk := by lia) : Post B F s σ { s with heap := h', toks := tk } (ρ.set x d) σ := by
  have hx : Ext F.own s σ { s with heap := h', toks := tk } σ := ⟨⟨h', tk, rfl⟩, fun b o hb hσ e => ⟨hσ, hs.extBut b o (by rintro rfl; exact hb hown) e⟩, fun _ h => h⟩
  have M := hx.mono O.s O.ownNT
  have hLa : F.env.locals ≠ a := by
    rintro rfl
    obtain ⟨m, ⟨o, es, ep, g, hd, _⟩, _⟩ := O.ns
    obtain ⟨v₀, ⟨o', g', hd'⟩, _⟩ := O.cl x _ hk ha
    rw [g] at g'; cases g'; rw [hd] at hd'; cases hd'
  refine ⟨hx, ⟨⟨fun b o e => hs.extBut b o (by rintro rfl; rw [X.ownNew _ hown] at e; cases e) (O.s.keep b o e), fun b c e => (O.s.cell b c e).mono (fun o => hs.extBut b o (by rintro rfl; rw [(O.own _ hown).1] at e; cases e)) M, O.s.fresh, ht O.s.tk⟩,
    ?_, fun y b hky hcy => ?_, fun b hb => ?_⟩⟩
  · obtain ⟨m, hn, hr⟩ := O.ns
    refine ⟨m, hn.sameBut hs hLa, fun y e hky he => ?_⟩
    have q : y ≠ x := by rintro rfl; rw [hk] at hky; cases hky
    simp only [Loc.set, q, if_false] at he
    obtain ⟨u, h1, h2⟩ := hr y e hky he
    exact ⟨u, h1, h2.mono M⟩
  · by_cases q : y = x
    · subst q
      rw [ha] at hcy; cases hcy
      refine ⟨some v, hc, fun e he => ?_⟩
      simp only [Loc.set, if_true] at he; cases he
      exact ⟨v, rfl, r.mono M⟩
    · have hb : b ≠ a := by rintro rfl; exact q (X.apart _ _ _ hcy ha)
      obtain ⟨w', hcell, hr⟩ := O.cl y b hky hcy
      refine ⟨w', hcell.sameBut hs hb, fun e he => ?_⟩
      simp only [Loc.set, q, if_false] at he
      obtain ⟨u, h1, h2⟩ := hr e he
      exact ⟨u, h1, h2.mono M⟩
  · obtain ⟨h1, o, h2, h3⟩ := O.own b hb
    refine ⟨h1, ?_⟩
    by_cases q : b = a
    · subst q
      obtain ⟨o', g, hd⟩ := hc
      refine ⟨o', g, ?_⟩
      rintro (⟨_, i, k, e⟩ | ⟨_, vs, e⟩) <;> rw [hd] at e <;> cases e
    · exact ⟨o, hs.extBut b o q h2, h3⟩
theorem WN.cel {x : Str} {d : V} {Q : Loc → Sto → Prop} (hk : sc.scope.names.lookup x = some .cell) (hf : sc.full = true) (h : Q (ρ.set x d) σ) : WN B sc x d ρ σ Q := .mk fun A F s v X O r => by
  have hkk : F.env.kindOf x = some .cell := by rw [X.kindOf, hk]
  obtain ⟨a, ha⟩ := X.cex x hk
  obtain ⟨v₀, hc, _⟩ := O.cl x a hkk ha
  exact wpAny_storeName_cell (by rw [X.scope]; exact X.fn) hkk ha hc fun h' hc' hs => ⟨_, _, Ok.setCell (tk := s.toks) X O r hkk ha (X.full hf x a hk ha) hc' hs, h⟩

/-! ## targets -/
theorem WA.name {x : Str} {pos : Pos} {d : V} {Q : Loc → Sto → Prop} (h : WN B sc x d ρ σ Q) : WA B sc N (.Name x pos) d ρ σ Q := .mk fun A F s v R X O r => wpAny_assign_Name (h.run A F s v X O r)

/-- names in a row -/
noncomputable def WNs (B : Bs) (sc : Sc) : List (Str × Pos) → List V → Loc → Sto → (Loc → Sto → Prop) → Prop
  | [], [], ρ, σ, Q => Q ρ σ
  | p :: es, d :: ds, ρ, σ, Q => WN B sc p.1 d ρ σ (fun ρ' σ' => WNs B sc es ds ρ' σ' Q)
  | _, _, _, _, _ => False
noncomputable def nm1 : Expr → Option (Str × Pos)
  | .Name x p => some (x, p)
  | _ => none
theorem nm1_eq {e : Expr} {p : Str × Pos} (h : nm1 e = some p) : e = .Name p.1 p.2 := by
  cases e
  case Name => cases h; rfl
  all_goals cases h
noncomputable def nms : List Expr → Option (List (Str × Pos))
  | [] => some []
  | e :: r => (nm1 e).bind fun p => (nms r).map (p :: ·)
theorem assignEach_names (env : Env) : ∀ {es : List Expr} {ns : List (Str × Pos)}, nms es = some ns → assignEach es env = ns.map fun p => (false, assign (.Name p.1 p.2) env)
  | [], _, h => by cases h; rfl
  | e :: r, ns, h => by
    unfold nms at h
    obtain ⟨p, hp, h⟩ := Option.bind_eq_some_iff.mp h
    obtain ⟨q, hq, rfl⟩ := Option.map_eq_some_iff.mp h
    rw [nm1_eq hp]
    show (false, assign (.Name p.1 p.2) env) :: assignEach r env = _
    rw [assignEach_names env hq]; rfl
theorem WNs.run : ∀ (es : List (Str × Pos)) (ds : List V) (ρ : Loc) (σ : Sto) (Q : Loc → Sto → Prop) (s : Shared) (vs : List Value), WNs B sc es ds ρ σ Q → FrmOk B sc F → Ok B F s ρ σ → RepL s.heap ds vs →
    wpAny (Md B) A (assignInOrder (es.map fun p => assign (.Name p.1 p.2) F.env) vs) (fun _ => PA B F s σ Q) NoE s
  | [], [], ρ, σ, Q, s, vs, h, X, O, r => by
    cases r
    exact wpAny_pure ⟨ρ, σ, .refl O, h⟩
  | p :: es, d :: ds, ρ, σ, Q, s, vs, h, X, O, r => by
    obtain ⟨v, r', rfl, h1, h2⟩ := r
    show wpAny (Md B) A (do holding r' (assign (.Name p.1 p.2) F.env v); assignInOrder (es.map fun p => assign (.Name p.1 p.2) F.env) r') _ _ s
    refine wpAny_bind (wpAny_holding (wpAny_assign_Name (wpAny_mono (WN.run h A F s v X O h1) (fun _ s₁ hp => hp.k fun ρ₁ σ₁ P₁ h₁ => ?_) fun _ _ f => f)))
    refine wpAny_mono (WNs.run es ds ρ₁ σ₁ Q s₁ r' h₁ X P₁.o (h2.mono (P₁.mono O))) (fun _ s₂ hp => hp.k fun ρ₂ σ₂ P₂ h₂ => ?_) fun _ _ f => f
    exact ⟨ρ₂, σ₂, P₁.trans P₂, h₂⟩
  | [], _ :: _, _, _, _, _, _, h, _, _, _ => h.elim
  | _ :: _, [], _, _, _, _, _, h, _, _, _ => h.elim
theorem PostS.extBut {s : Shared} {σ : Sto} {h' : Heap} {tk : Nat} {a : Addr} (O : OkS B s σ) (ha : s.heap.get? a = none) (hs : Heap.ExtBut a s.heap h') (ht : 1 ≤ s.toks → 1 ≤ tk := by lia) : PostS B s σ { s with heap := h', toks := tk } σ :=
  .keeps O (fun b o e => hs b o (by rintro rfl; rw [ha] at e; cases e) e) ht
theorem WA.tup {es : List Expr} {ns : List (Str × Pos)} {k : Nat} {pos : Pos} {ds : List V} {Q : Loc → Sto → Prop} (ha : nms es = some ns) (hl : ns.length = ds.length) (h : WNs B sc ns ds ρ σ Q) : WA B sc N (.Tuple es k pos) (.tup ds) ρ σ Q := .mk fun A F s v R X O r => by
  obtain ⟨a, vs, rfl, ht, hr⟩ := r
  have hn := assignEach_names F.env ha
  refine wpAny_assign_Tuple R.1 ht (by rw [hn, List.length_map, hl, List.size_toArray, hr.length]) (by rw [hn, List.findIdx?_map]; simp [List.findIdx?_eq_none_iff]) fun h' hs => ?_
  have P₁ : Post B F s σ { s with heap := h' } ρ σ := (PostS.extBut (tk := s.toks) O.s (new_none _) hs).frame X O
  rw [hn, List.map_map]
  refine wpAny_mono (WNs.run ns ds ρ σ Q { s with heap := h' } _ h X P₁.o ?_) (fun _ s₂ hp => hp.k fun ρ₂ σ₂ P₂ h₂ => ⟨ρ₂, σ₂, P₁.trans P₂, h₂⟩) fun _ _ f => f
  exact hr.mono (P₁.mono O)
/-- a store into a thing -/
noncomputable def W3 (B : Bs) (N : Nat) (t : Value → Value → Value → Sem Unit) (a b c : V) (σ : Sto) (Q : Sto → Prop) : Prop :=
  ∀ (A : Around) (s : Shared) (v u z : Value), Room A N → OkS B s σ → Rep s.heap a v → Rep s.heap b u → Rep s.heap c z →
    wpAny (Md B) A (t v u z) (PT B s σ fun _ => Q) NoE s
theorem wpAny_release {vs keep : List Value} {M : Model} {E : Value → Shared → Prop} {Q : Unit → Shared → Prop} (h : Q () s) : wpAny M A (release vs keep) Q E s := fun Γ p _ => by rw [Sem.wp_release]; exact h
theorem WA.sub {o i : Expr} {pos : Pos} {d : V} {Q : Loc → Sto → Prop} (h : WE B sc N o ρ σ fun a σ₁ => WE B sc N i ρ σ₁ fun b σ₂ => W3 B N setItem a b d σ₂ (Q ρ)) : WA B sc N (.Subscript o i pos) d ρ σ Q := .mk fun A F s v R X O r => by
  rw [assign_Subscript]
  refine wpAny_bind (wpAny_holding (wpAny_mono (h.run A F s R X O) (fun ov s₁ hp => hp.k fun a σ₁ P₁ r₁ h₁ => ?_) fun _ _ f => f))
  refine wpAny_bind (wpAny_holding (wpAny_mono (h₁.run A F s₁ R X P₁.o) (fun iv s₂ hp => hp.k fun b σ₂ P₂ r₂ h₂ => ?_) fun _ _ f => f))
  refine wpAny_bind (wpAny_standAt (wpAny_bind (wpAny_holding (wpAny_mono (h₂ A s₂ ov iv v R P₂.o.s (r₁.mono (P₂.mono P₁.o)) r₂ ((r.mono (P₁.mono O)).mono (P₂.mono P₁.o))) (fun _ s₃ hp => hp.k fun σ₃ P₃ h₃ => ?_) fun _ _ f => f))))
  exact wpAny_release ⟨ρ, σ₃, P₁.trans (P₂.trans (P₃.frame X P₂.o)), h₃⟩

/-! ## statements -/
theorem WS.nil {Q : Fl → Loc → Sto → Prop} (h : Q .next ρ σ) : WS B sc N [] ρ σ Q := .mk fun A F s _ _ O => wpAny_execs_nil ⟨.next, ρ, σ, .refl O, rfl, h⟩
/-- after a statement, the rest -/
noncomputable def Nx (B : Bs) (sc : Sc) (N : Nat) (rest : List Stmt) (Q : Fl → Loc → Sto → Prop) (f : Fl) (ρ' : Loc) (σ' : Sto) : Prop := match f with
  | .next => WS B sc N rest ρ' σ' Q
  | f => Q f ρ' σ'
theorem WS.cons {st : Stmt} {rest : List Stmt} {Q : Fl → Loc → Sto → Prop} (h : WX B sc N st ρ σ (Nx B sc N rest Q)) : WS B sc N (st :: rest) ρ σ Q := .mk fun A F s R X O => by
  refine wpAny_execs_cons (wpAny_mono (h.run A F s R X O) (fun f s₁ hp => hp.k fun fl ρ₁ σ₁ P₁ r₁ h₁ => ?_) fun _ _ f => f)
  cases fl with
  | next =>
    cases r₁
    exact wpAny_mono (h₁.run A F s₁ R X P₁.o) (fun f s₂ hp => hp.k fun fl ρ₂ σ₂ P₂ r₂ h₂ => ⟨fl, ρ₂, σ₂, P₁.trans P₂, r₂, h₂⟩) fun _ _ f => f
  | brk => cases r₁; exact ⟨.brk, ρ₁, σ₁, P₁, rfl, h₁⟩
  | cont => cases r₁; exact ⟨.cont, ρ₁, σ₁, P₁, rfl, h₁⟩
  | ret d => obtain ⟨v, rfl, r⟩ := r₁; exact ⟨.ret d, ρ₁, σ₁, P₁, ⟨v, rfl, r⟩, h₁⟩
theorem WX.brk {pos : Pos} {Q : Fl → Loc → Sto → Prop} (h : Q .brk ρ σ) : WX B sc N (.Break pos) ρ σ Q := .mk fun A F s _ _ O => wpAny_Break ⟨.brk, ρ, σ, .refl O, rfl, h⟩
theorem WX.cont {pos : Pos} {Q : Fl → Loc → Sto → Prop} (h : Q .cont ρ σ) : WX B sc N (.Continue pos) ρ σ Q := .mk fun A F s _ _ O => wpAny_Continue ⟨.cont, ρ, σ, .refl O, rfl, h⟩
theorem WX.ret {e : Expr} {pos : Pos} {Q : Fl → Loc → Sto → Prop} (h : WE B sc N e ρ σ fun d σ' => Q (.ret d) ρ σ') : WX B sc N (.Return (some e) pos) ρ σ Q := .mk fun A F s R X O =>
  wpAny_Return_some (wpAny_mono (h.run A F s R X O) (fun v s₁ hp => hp.k fun d σ₁ P₁ r₁ h₁ => ⟨.ret d, ρ, σ₁, P₁, ⟨v, rfl, r₁⟩, h₁⟩) fun _ _ f => f)
noncomputable abbrev KIte (B : Bs) (sc : Sc) (N : Nat) (body orelse : List Stmt) (ρ : Loc) (Q : Fl → Loc → Sto → Prop) (b : Bool) (σ₁ : Sto) : Prop := (b = true → WS B sc N body ρ σ₁ Q) ∧ (b = false → WS B sc N orelse ρ σ₁ Q)
theorem WX.ite {t : Expr} {body orelse : List Stmt} {pos : Pos} {Q : Fl → Loc → Sto → Prop} (h : WI B sc N t ρ σ (KIte B sc N body orelse ρ Q)) : WX B sc N (.If t body orelse pos) ρ σ Q := .mk fun A F s R X O => by
  refine wpAny_If (wpAny_mono (h.run A F s R X O) (fun b s₁ hp => hp.k fun σ₁ P₁ h₁ => ?_) fun _ _ f => f)
  cases b with
  | true => exact wpAny_mono ((h₁.1 rfl).run A F s₁ R X P₁.o) (fun f s₂ hp => hp.k fun fl ρ₂ σ₂ P₂ r₂ h₂ => ⟨fl, ρ₂, σ₂, P₁.trans P₂, r₂, h₂⟩) fun _ _ f => f
  | false => exact wpAny_mono ((h₁.2 rfl).run A F s₁ R X P₁.o) (fun f s₂ hp => hp.k fun fl ρ₂ σ₂ P₂ r₂ h₂ => ⟨fl, ρ₂, σ₂, P₁.trans P₂, r₂, h₂⟩) fun _ _ f => f
theorem WX.expr {e : Expr} {pos : Pos} {Q : Fl → Loc → Sto → Prop} (h : WE B sc N e ρ σ fun d σ₁ => Q .next ρ σ₁) (hs : ∀ env, env.scope = sc.scope → swapsWith e none pos.line env = pure false) : WX B sc N (.Expr e pos) ρ σ Q := .mk fun A F s R X O => by
  have hi : interactive F.env = false := by unfold interactive; rw [X.scope, X.fn]; rfl
  rw [exec_Expr F.env e pos hi (hs _ X.scope)]
  exact wpAny_bind (wpAny_standAt (wpAny_bind (wpAny_mono (h.run A F s R X O) (fun v s₁ hp => hp.k fun d σ₁ P₁ r₁ h₁ => wpAny_dropValue ⟨.next, ρ, σ₁, P₁, rfl, h₁⟩) fun _ _ f => f)))
theorem exec_Assign1 (env : Env) (t value : Expr) (pos : Pos) (hs : swapsWithSole [t] value pos.line env = pure false) (hw : swappedStores [t] value env = pure none) : exec (.Assign [t] value pos) env = (do
    standAt pos
    let v ← eval value env
    assignAll v ((assignEach [t] env).map (·.2))
    pure .next) := by
  show (do
    standAt pos
    if ← swapsWithSole [t] value pos.line env then do
      evalThenUse value env fun v => assignAll v ((assignEach [t] env).map fun p => p.2)
      pure Flow.next
    else do
      let v ← eval value env
      assignStores env v (← swappedStores [t] value env) ((assignEach [t] env).map fun p => p.2) : Sem Flow) = _
  rw [hs, hw]; rfl
noncomputable abbrev KAsg (B : Bs) (sc : Sc) (N : Nat) (t : Expr) (ρ : Loc) (Q : Fl → Loc → Sto → Prop) (d : V) (σ₁ : Sto) : Prop := WA B sc N t d ρ σ₁ (Q .next)
theorem WX.asg {t value : Expr} {pos : Pos} {Q : Fl → Loc → Sto → Prop} (h : WE B sc N value ρ σ (KAsg B sc N t ρ Q)) (ht : ∀ env, assignEach [t] env = [(false, assign t env)])
    (hs : ∀ env, env.scope = sc.scope → swapsWithSole [t] value pos.line env = pure false) (hw : ∀ env, env.scope = sc.scope → swappedStores [t] value env = pure none) : WX B sc N (.Assign [t] value pos) ρ σ Q := .mk fun A F s R X O => by
  rw [exec_Assign1 _ _ _ _ (hs _ X.scope) (hw _ X.scope), ht]
  refine wpAny_bind (wpAny_standAt (wpAny_bind (wpAny_mono (h.run A F s R X O) (fun v s₁ hp => hp.k fun d σ₁ P₁ r₁ h₁ => ?_) fun _ _ f => f)))
  exact wpAny_bind (wpAny_mono (h₁.run A F s₁ v R X P₁.o r₁) (fun _ s₂ hp => hp.k fun ρ₂ σ₂ P₂ h₂ => wpAny_pure ⟨.next, ρ₂, σ₂, P₁.trans P₂, rfl, h₂⟩) fun _ _ f => f)
theorem WX.aug {x : Str} {p' pos : Pos} {op : Operator} {value : Expr} {d : V} {Q : Fl → Loc → Sto → Prop} (hk : sc.scope.names.lookup x = some .local) (hd : ρ x = some d)
    (h : WE B sc N value ρ σ fun b σ₁ => W2 B N (inplaceOp op) d b σ₁ fun r σ₂ => WN B sc x r ρ σ₂ (Q .next)) : WX B sc N (.AugAssign (.Name x p') op value pos) ρ σ Q := .mk fun A F s R X O => by
  obtain ⟨m, hn, hr⟩ := O.ns
  obtain ⟨v, hv, r⟩ := hr x d (by rw [X.kindOf, hk]) hd
  refine wpAny_AugAssign_Name (wpAny_loadName_local (by rw [X.scope]; exact X.fn) (by rw [X.kindOf, hk]) hn hv ?_)
  refine wpAny_mono (h.run A F s R X O) (fun u s₁ hp => hp.k fun b σ₁ P₁ r₁ h₁ => ?_) fun _ _ f => f
  refine wpAny_mono (h₁ A s₁ v u R P₁.o.s (r.mono (P₁.mono O)) r₁) (fun z s₂ hp => hp.k fun c σ₂ P₂ r₂ h₂ => ?_) fun _ _ f => f
  have P₂' := P₂.frame X P₁.o
  exact wpAny_mono (h₂.run A F s₂ z X P₂'.o r₂) (fun _ s₃ hp => hp.k fun ρ₃ σ₃ P₃ h₃ => ⟨.next, ρ₃, σ₃, P₁.trans (P₂'.trans P₃), rfl, h₃⟩) fun _ _ f => f
theorem WX.try_ {body orelse : List Stmt} {h₀ : ExceptHandler} {hs : List ExceptHandler} {pos : Pos} {Q : Fl → Loc → Sto → Prop}
    (h : WS B sc N body ρ σ (Nx B sc N orelse Q)) : WX B sc N (.Try body (h₀ :: hs) orelse [] pos) ρ σ Q := .mk fun A F s R X O => by
  refine wpAny_Try_except (wpAny_mono (h.run A F s R X O) (fun f s₁ hp => hp.k fun fl ρ₁ σ₁ P₁ r₁ h₁ => ?_) fun _ _ f => f.elim)
  cases fl with
  | next =>
    cases r₁
    exact wpAny_mono (h₁.run A F s₁ R X P₁.o) (fun f s₂ hp => hp.k fun fl ρ₂ σ₂ P₂ r₂ h₂ => ⟨fl, ρ₂, σ₂, P₁.trans P₂, r₂, h₂⟩) fun _ _ f => f
  | brk => cases r₁; exact ⟨.brk, ρ₁, σ₁, P₁, rfl, h₁⟩
  | cont => cases r₁; exact ⟨.cont, ρ₁, σ₁, P₁, rfl, h₁⟩
  | ret d => obtain ⟨v, rfl, r⟩ := r₁; exact ⟨.ret d, ρ₁, σ₁, P₁, ⟨v, rfl, r⟩, h₁⟩

/-- a while by an invariant and a measure -/
theorem WX.while_ {t : Expr} {body : List Stmt} {pos : Pos} {Q : Fl → Loc → Sto → Prop} (I : Nat → Loc → Sto → Prop) (n : Nat) (h0 : I n ρ σ)
    (turn : ∀ n ρ σ, I n ρ σ → WI B sc N t ρ σ fun b σ₁ => (b = true → WS B sc N body ρ σ₁ fun f ρ' σ' => match f with
      | .next | .cont => ∃ m, m < n ∧ I m ρ' σ' | .brk => Q .next ρ' σ' | .ret d => Q (.ret d) ρ' σ') ∧ (b = false → Q .next ρ σ₁)) : WX B sc N (.While t body [] pos) ρ σ Q := .mk fun A F s R X O => by
  refine wpAny_While ?_
  refine codeAny_whileLoop (fun n => PA B F s σ (I n)) ?_ n ⟨ρ, σ, .refl O, h0⟩
  rintro k s₁ ⟨ρ₁, σ₁, P₁, i₁⟩
  refine wpAny_mono ((turn k ρ₁ σ₁ i₁).run A F s₁ R X P₁.o) (fun b s₂ hp => hp.k fun σ₂ P₂ h₂ => ?_) fun _ _ f => f.elim
  cases b with
  | false =>
    simp only [Bool.false_eq_true, if_false]
    refine wpAny_execs_nil ?_
    exact (⟨.next, ρ₁, σ₂, P₁.trans P₂, rfl, h₂.2 rfl⟩ : PX B F s σ Q .next s₂)
  | true =>
    simp only [if_true]
    refine wpAny_mono ((h₂.1 rfl).run A F s₂ R X P₂.o) (fun f s₃ hp => hp.k fun fl ρ₃ σ₃ P₃ r₃ h₃ => ?_) fun _ _ f => f.elim
    have P := P₁.trans (P₂.trans P₃)
    cases fl with
    | next => cases r₃; obtain ⟨m, hm, i⟩ := h₃; exact ⟨m, hm, ρ₃, σ₃, P, i⟩
    | cont => cases r₃; obtain ⟨m, hm, i⟩ := h₃; exact ⟨m, hm, ρ₃, σ₃, P, i⟩
    | brk => cases r₃; exact ⟨.next, ρ₃, σ₃, P, rfl, h₃⟩
    | ret d => obtain ⟨v, rfl, r⟩ := r₃; exact ⟨.ret d, ρ₃, σ₃, P, ⟨v, rfl, r⟩, h₃⟩
end
end

section
section
variable {B : Bs} {sc : Sc} {N : Nat} {ρ : Loc} {σ : Sto} {F : Frm} {A : Around} {s : Shared}

/-! ## what may be called -/
noncomputable def Cal (B : Bs) : V → Prop
  | .bi _ => True
  | .ty _ => True
  | .ref a => ∃ o fd, B.h₀.get? a = some o ∧ o.data = .func fd
  | _ => False
theorem Cal.keeper {f : V} (c : Cal B f) {v : Value} {h : Heap} (O : ∀ b o, B.h₀.get? b = some o → h.get? b = some o) (r : Rep h f v) : ∃ k, (k = Keeper.frame ∨ k = Keeper.machine ∨ k = Keeper.boundFrame) ∧ Looks (Md B) h (keeperOf v) k := by
  cases f with
  | bi n => cases r; exact ⟨.machine, .inr (.inl rfl), Looks.of_pure rfl⟩
  | ty n => cases r; exact ⟨.machine, .inr (.inl rfl), Looks.of_pure rfl⟩
  | ref a =>
    cases r
    obtain ⟨o, fd, ho, hd⟩ := c
    refine ⟨.frame, .inl rfl, fun A Q E s k q => ?_⟩
    unfold keeperOf
    refine wpAny_bind (wpAny_load (k _ _ (O _ _ ho)) ?_)
    rw [hd]; exact wpAny_pure q
  | _ => exact c.elim

theorem evalArgs_all {f : Value} {args : List (Bool × Sem Value)} {kws : List (Option Str × Sem Value)} {Q : Args → Shared → Prop} {M : Model} {E : Value → Shared → Prop} (hp : args.any (·.1) = false) (hall : kws.all (·.1.isSome) = true)
    (h : wpAny M A (spliced args) (fun vs s₁ => wpAny M A (evalAll (kws.map (·.2))) (fun ks s₂ => Q ⟨vs, (kws.filterMap (·.1)).zip ks⟩ s₂) E s₁) E s) : wpAny M A (evalArgs f true args kws) Q E s := by
  match args, hp, h with
  | [], _, h =>
    unfold evalArgs
    show wpAny M A (spliced [] >>= _) Q E s
    refine wpAny_bind (wpAny_mono h (fun vs s₁ h₁ => ?_) fun _ _ x => x)
    refine wpAny_bind (wpAny_pure (wpAny_holding ?_))
    simp only [hall, if_true]
    refine wpAny_bind (wpAny_mono h₁ (fun ks s₂ h₂ => ?_) fun _ _ x => x)
    exact wpAny_bind (wpAny_pure (wpAny_pure h₂))
  | (false, x) :: rest, _, h => exact evalArgs_kw hall h

/-- keyword arguments -/
structure WK (B : Bs) (sc : Sc) (N : Nat) (ks : List Keyword) (ρ : Loc) (σ : Sto) (Q : List (Str × V) → Sto → Prop) : Prop where
  run : ∀ (A : Around) (F : Frm) (pos : Pos) (s : Shared), Room A N → FrmOk B sc F → Ok B F s ρ σ →
    wpAny (Md B) A (evalAll ((backToKw pos (keywordEach ks F.env)).map (·.2))) (PK B F s σ ρ Q ((backToKw pos (keywordEach ks F.env)).filterMap (·.1))) NoE s
theorem WK.nil {Q : List (Str × V) → Sto → Prop} (h : Q [] σ) : WK B sc N [] ρ σ Q := .mk fun A F pos s R X O => wpAny_evalAll_nil ⟨[], σ, .refl O, rfl, h⟩
theorem WK.cons {n : Str} {e : Expr} {p : Pos} {ks : List Keyword} {Q : List (Str × V) → Sto → Prop} (h : WE B sc N e ρ σ fun d σ₁ => WK B sc N ks ρ σ₁ fun ds σ₂ => Q ((n, d) :: ds) σ₂) : WK B sc N (⟨some n, e, p⟩ :: ks) ρ σ Q := .mk fun A F pos s R X O => by
  show wpAny _ A (evalAll ((do let v ← eval e F.env; standAt pos; pure v) :: (backToKw pos (keywordEach ks F.env)).map (·.2))) _ _ s
  refine wpAny_evalAll_cons (wpAny_bind (wpAny_mono (h.run A F s R X O) (fun v s₁ hp => hp.k fun d σ₁ P₁ r₁ h₁ => wpAny_bind (wpAny_standAt (wpAny_pure ?_))) fun _ _ f => f))
  refine wpAny_mono (h₁.run A F pos s₁ R X P₁.o) (fun vs s₂ hp => hp.k fun ds σ₂ P₂ r₂ h₂ => ?_) fun _ _ f => f
  exact ⟨(n, d) :: ds, σ₂, P₁.trans P₂, ⟨v, _, rfl, r₁.mono (P₂.mono P₁.o), r₂⟩, h₂⟩

theorem noStar_back {env : Env} {es : List Expr} {pos : Pos} (he : (starEach es env).any (·.1) = false) : (backTo pos (starEach es env)).any (·.1) = false := by
  unfold backTo
  rw [List.any_map]
  have e : (fun (x : Bool × Sem Value) => x.1) ∘ (fun x => match x with | (star, t) => (star, if star = true then do let v ← t; standAt pos; pure v else t)) = fun x => x.1 := by
    funext x; obtain ⟨a, b⟩ := x; rfl
  rw [← he]
  exact congrArg (fun f => List.any _ f) e
theorem noNone {env : Env} {ks : List Keyword} {pos : Pos} (h : (backToKw pos (keywordEach ks env)).all (·.1.isSome) = true) : (backToKw pos (keywordEach ks env)).any (·.1.isNone) = false := by
  rw [List.any_eq_false]
  intro x hx
  have := List.all_eq_true.mp h x hx
  cases q : x.1 with
  | none => rw [q] at this; cases this
  | some a => simp

theorem WE.callW {f : V} {vf : Value} {first : List V} {vfirst : List Value} {args : List Expr} {kws : List Keyword} {pos : Pos} {Q : V → Sto → Prop} (R : Room A N) (X : FrmOk B sc F) (O : Ok B F s ρ σ) (hstar : ∀ env, (starEach args env).any (·.1) = false) (hkws : ∀ env pos, (backToKw pos (keywordEach kws env)).all (·.1.isSome) = true)
    (hc : Cal B f) (rf : Rep s.heap f vf) (r1 : RepL s.heap first vfirst) (h : WL B sc N args ρ σ fun ds σ₁ => WK B sc N kws ρ σ₁ fun ks σ₂ => WC B N f (first ++ ds) ks σ₂ Q) :
    wpAny (Md B) A (callWith pos vf vfirst (backTo pos (starEach args F.env)) (backToKw pos (keywordEach kws F.env))) (PE B F s σ ρ Q) NoE s := by
  have hkw := hkws F.env pos
  refine callWith_of (P := fun h' => (∀ b o, B.h₀.get? b = some o → h'.get? b = some o) ∧ Rep h' f vf) (by rw [noStar_back (hstar _), noNone hkw]; rfl) (fun h' ⟨O', r'⟩ => hc.keeper O' r') ?_
  refine evalArgs_all (noStar_back (hstar _)) hkw (wpAny_mono (h.run A F pos s R X O) (fun vs s₁ hp => hp.k fun ds σ₁ P₁ q₁ h₁ => ?_) fun _ _ f => f)
  refine wpAny_mono (h₁.run A F pos s₁ R X P₁.o) (fun ks s₂ hp => hp.k fun kd σ₂ P₂ q₂ h₂ => ?_) fun _ _ f => f
  have M₁ := P₁.mono O
  have M₂ := P₂.mono P₁.o
  refine ⟨⟨P₂.o.s.keep, (rf.mono M₁).mono M₂⟩, ?_⟩
  refine wpAny_mono (h₂ A s₂ vf (vfirst ++ vs) _ R P₂.o.s ((rf.mono M₁).mono M₂) (((r1.mono M₁).mono M₂).append (q₁.mono M₂)) q₂) (fun v s₃ hp => hp.k fun d σ₃ P₃ q₃ h₃ => ?_) fun _ _ f => f
  exact ⟨d, σ₃, P₁.trans (P₂.trans (P₃.frame X P₂.o)), q₃, h₃⟩

theorem RepL.one {h : Heap} {d : V} {v : Value} (r : Rep h d v) : RepL h [d] [v] := .cons r .nil
noncomputable abbrev KW (B : Bs) (N : Nat) (f : V) (Q : V → Sto → Prop) (ds : List V) (ks : List (Str × V)) (σ₂ : Sto) : Prop := WC B N f ds ks σ₂ Q
noncomputable abbrev KR (B : Bs) (sc : Sc) (N : Nat) (kws : List Keyword) (ρ : Loc) (f : V) (Q : V → Sto → Prop) (ds : List V) (σ₁ : Sto) : Prop := WK B sc N kws ρ σ₁ (KW B N f Q ds)
noncomputable abbrev KF (B : Bs) (sc : Sc) (N : Nat) (args : List Expr) (kws : List Keyword) (ρ : Loc) (Q : V → Sto → Prop) (fd : V) (σ₀ : Sto) : Prop := Cal B fd ∧ WL B sc N args ρ σ₀ (KR B sc N kws ρ fd Q)
theorem WE.call {f : Expr} {args : List Expr} {kws : List Keyword} {pos : Pos} {Q : V → Sto → Prop}
    (h : WE B sc N f ρ σ (KF B sc N args kws ρ Q))
    (he : ∀ env, eval (.Call f args kws pos) env = (do callWith pos (← eval f env) [] (backTo pos (starEach args env)) (backToKw pos (keywordEach kws env))))
    (hstar : ∀ env, (starEach args env).any (·.1) = false) (hkws : ∀ env pos, (backToKw pos (keywordEach kws env)).all (·.1.isSome) = true) : WE B sc N (.Call f args kws pos) ρ σ Q := .mk fun A F s R X O => by
  rw [he]
  refine wpAny_bind (wpAny_mono (h.run A F s R X O) (fun vf s₁ hp => hp.k fun fd σ₁ P₁ r₁ q => u2 q fun hc h₁ => ?_) fun _ _ f => f)
  refine wpAny_mono (WE.callW (first := []) R X P₁.o hstar hkws hc r₁ .nil h₁) (fun v s₂ hp => hp.k fun d σ₂ P₂ r₂ h₂ => ⟨d, σ₂, P₁.trans P₂, r₂, h₂⟩) fun _ _ f => f

/-- a method that is found at once -/
noncomputable def MethOf (B : Bs) (d : V) (σ : Sto) (name : Str) (id : String) : Prop :=
  ∀ (A : Around) (s : Shared) (v : Value) (pl : Sem Bool) (Q : Value × List Value → Shared → Prop) (E : Value → Shared → Prop), OkS B s σ → Rep s.heap d v → Q (.builtin id, [v]) s → wpAny (Md B) A (getMethod v name pl) Q E s
theorem WE.meth {o : Expr} {name : Str} {apos : Pos} {args : List Expr} {kws : List Keyword} {pos : Pos} {Q : V → Sto → Prop} (id : V → String)
    (h : WE B sc N o ρ σ fun d σ₀ => MethOf B d σ₀ name (id d) ∧ WL B sc N args ρ σ₀ fun ds σ₁ => WK B sc N kws ρ σ₁ fun ks σ₂ => WC B N (.bi (id d)) (d :: ds) ks σ₂ Q)
    (he : ∀ env, ∃ pl, eval (.Call (.Attribute o name apos) args kws pos) env = (do
      let ov ← eval o env
      standAt apos.atName
      let (f, first) ← holding [ov] (getMethod ov name pl)
      callWith pos f first (backTo pos (starEach args env)) (backToKw pos (keywordEach kws env))))
    (hstar : ∀ env, (starEach args env).any (·.1) = false) (hkws : ∀ env pos, (backToKw pos (keywordEach kws env)).all (·.1.isSome) = true) : WE B sc N (.Call (.Attribute o name apos) args kws pos) ρ σ Q := .mk fun A F s R X O => by
  obtain ⟨pl, he⟩ := he F.env
  rw [he]
  refine wpAny_bind (wpAny_mono (h.run A F s R X O) (fun vo s₁ hp => hp.k fun d σ₁ P₁ r₁ q => u2 q fun hm h₁ => ?_) fun _ _ f => f)
  refine wpAny_bind (wpAny_standAt (wpAny_bind (wpAny_holding (hm A s₁ vo pl _ _ P₁.o.s r₁ ?_))))
  refine wpAny_mono (WE.callW (f := .bi (id d)) (first := [d]) R X P₁.o hstar hkws trivial rfl (RepL.one r₁) h₁) (fun v s₂ hp => hp.k fun d σ₂ P₂ r₂ h₂ => ⟨d, σ₂, P₁.trans P₂, r₂, h₂⟩) fun _ _ f => f

/-! ## defs -/
noncomputable def locL : List (Str × V) → Loc → Loc
  | [], ρ => ρ
  | (n, d) :: r, ρ => locL r (ρ.set n d)
theorem RepK.bind {h : Heap} {kind : Str → Option NameKind} : ∀ {ds : List (Str × V)} {vs : List (Str × Value)} {ρ : Loc} {m cm : Str → Option Value}, RepK h ds vs →
    (∀ x d, kind x = some .local → ρ x = some d → ∃ v, m x = some v ∧ Rep h d v) → (∀ x d, kind x = some .cell → ρ x = some d → ∃ v, cm x = some v ∧ Rep h d v) →
    (∀ x d, kind x = some .local → locL ds ρ x = some d → ∃ v, bindL kind vs m x = some v ∧ Rep h d v) ∧ (∀ x d, kind x = some .cell → locL ds ρ x = some d → ∃ v, bindC kind vs cm x = some v ∧ Rep h d v)
  | [], _, ρ, m, cm, r, h1, h2 => by cases r; exact ⟨h1, h2⟩
  | (n, e) :: ds, vs, ρ, m, cm, r, h1, h2 => by
    obtain ⟨v, q, rfl, r1, r2⟩ := r
    refine RepK.bind (ρ := ρ.set n e) (m := if kind n = some .local then fun y => if y = n then some v else m y else m) (cm := if kind n = some .local then cm else fun y => if y = n then some v else cm y) r2 (fun x d hk hx => ?_) (fun x d hk hx => ?_)
    · by_cases hn : x = n
      · subst hn
        simp only [Loc.set, if_true, Option.some.injEq] at hx; subst hx
        rw [if_pos hk]; exact ⟨v, by simp, r1⟩
      · simp only [Loc.set, hn, if_false] at hx
        obtain ⟨u, h3, h4⟩ := h1 x d hk hx
        refine ⟨u, ?_, h4⟩
        by_cases hl : kind n = some .local
        · rw [if_pos hl]; simpa [hn] using h3
        · rw [if_neg hl]; exact h3
    · by_cases hn : x = n
      · subst hn
        simp only [Loc.set, if_true, Option.some.injEq] at hx; subst hx
        rw [if_neg (by rw [hk]; intro q; cases q)]; exact ⟨v, by simp, r1⟩
      · simp only [Loc.set, hn, if_false] at hx
        obtain ⟨u, h3, h4⟩ := h2 x d hk hx
        refine ⟨u, ?_, h4⟩
        by_cases hl : kind n = some .local
        · rw [if_pos hl]; exact h3
        · rw [if_neg hl]; simpa [hn] using h3

/-- how the arguments are bound -/
noncomputable def WBind (B : Bs) (fd : FuncData) (args : List V) (kw : List (Str × V)) (σ : Sto) (ds : List (Str × V)) : Prop :=
  ∀ (A : Around) (s : Shared) (vs : List Value) (kws : List (Str × Value)), A.handled = none → OkS B s σ → RepL s.heap args vs → RepK s.heap kw kws →
    wpAny (Md B) A (bindArgs fd ⟨vs, kws⟩) (fun bs s' => PostS B s σ s' σ ∧ RepK s'.heap ds bs) NoE s
noncomputable def retOf : Fl → V
  | .ret d => d
  | _ => .none
structure DefOk (B : Bs) (f : Addr) (fd : FuncData) (body : List Stmt) : Prop where
  at_ : ∃ o doc pm an cd ct, B.h₀.get? f = some o ∧ o.data = .func { fd with doc := doc, pyModule := pm, annotations := an, code := cd, closureTuple := ct } ∧ B.h₀.CodeRec cd fd.qualname
  lim : B.h₀.NoLimit
  body : fd.body = .stmts body
  glob : fd.globals = mainGlobals
  blt : fd.builtins = builtinsNs
  clo : fd.closure = []
  co : fd.scope.isCoroutine = false
  gen : fd.scope.isGenerator = false
  fn : fd.scope.kind = .function
theorem DefOk.cal {f : Addr} {fd : FuncData} {body : List Stmt} (D : DefOk B f fd body) : Cal B (.ref f) := by
  obtain ⟨o, _, _, _, _, _, h1, h2, _⟩ := D.at_
  exact ⟨o, _, h1, h2⟩
theorem Imm.of {o : Obj} (h : ¬ NT o) : Imm o := Classical.not_not.mp h

theorem mem_binds {h : Heap} : ∀ {ds : List (Str × V)} {vs : List (Str × Value)}, RepK h ds vs → ∀ x ∈ vs, ∃ d, (x.1, d) ∈ ds
  | [], _, r, x, hx => by cases r; cases hx
  | (n, e) :: ds, vs, r, x, hx => by
    obtain ⟨v, q, rfl, r1, r2⟩ := r
    rcases List.mem_cons.mp hx with rfl | hx
    · exact ⟨e, .head _⟩
    · obtain ⟨d, hd⟩ := mem_binds r2 x hx; exact ⟨d, .tail _ hd⟩

/-! a call's frame, and that no token is lost -/
structure InT (s₀ : Shared) (L : Addr) (m : Str → Option Value) (cs : List (Str × Addr)) (cm : Str → Option Value) (s : Shared) : Prop where
  c : InCallC s₀ L m cs cm s
  t : 1 ≤ s₀.toks → 1 ≤ s.toks
section
variable {M : Model} {A : Around} {E : Value → Shared → Prop} {s₀ s : Shared} {m cm : Str → Option Value} {env : Env}
theorem stLT {n : Str} {v : Value} {Q : Unit → Shared → Prop} (x : InT s₀ env.locals m env.cells cm s) (hk : env.scope.kind = .function) (hl : env.kindOf n = some .local)
    (h : ∀ s', InT s₀ env.locals (fun y => if y = n then some v else m y) env.cells cm s' → Q () s') : wpAny M A (storeName env n v) Q E s := by
  obtain ⟨x, ht⟩ := x
  refine wpAny_storeName_local hl x.toInCall.ns (fun h' hn' hs' => h _ ⟨⟨⟨?_, hn', fun b o e => ?_, x.toInCall.fresh⟩, fun k c hc => ?_, x.apart, x.above⟩, fun q => Nat.le_trans (ht q) (by first | exact Nat.le_refl _ | exact Nat.le_add_right _ _)⟩) (by rw [hk]; rfl)
  · obtain ⟨h₁, tk, rfl⟩ := x.toInCall.same
    exact ⟨h', _, rfl⟩
  · exact hs'.extBut b o (Nat.ne_of_lt (Nat.lt_of_lt_of_le (Heap.lt_size e) x.toInCall.fresh)) (x.toInCall.keep b o e)
  · exact (x.cell k c hc).sameBut hs' (Nat.ne_of_gt (x.above k c (mem_of_lookup hc)))
theorem stCT {n : Str} {c : Addr} {v : Value} {Q : Unit → Shared → Prop} (x : InT s₀ env.locals m env.cells cm s) (hk : env.scope.kind = .function) (hl : env.kindOf n = some .cell)
    (hc : env.cells.lookup n = some c)
    (h : ∀ s', InT s₀ env.locals m env.cells (fun y => if y = n then some v else cm y) s' → Q () s') : wpAny M A (storeName env n v) Q E s := by
  obtain ⟨x, ht⟩ := x
  have hLc := x.above n c (mem_of_lookup hc)
  refine wpAny_storeName_cell hk hl hc (x.cell n c hc) fun h' hc' hs' => h _ ⟨⟨⟨?_, x.toInCall.ns.sameBut hs' (Nat.ne_of_lt hLc), fun b o e => ?_, x.toInCall.fresh⟩, fun k c' hk' => ?_, x.apart, x.above⟩, fun q => Nat.le_trans (ht q) (by first | exact Nat.le_refl _ | exact Nat.le_add_right _ _)⟩
  · obtain ⟨h₁, tk, rfl⟩ := x.toInCall.same
    exact ⟨h', _, rfl⟩
  · exact hs'.extBut b o (Nat.ne_of_lt (Nat.lt_trans (Nat.lt_of_lt_of_le (Heap.lt_size e) x.toInCall.fresh) hLc)) (x.toInCall.keep b o e)
  · by_cases hkn : k = n
    · subst hkn
      rw [hc] at hk'; cases hk'
      simpa using hc'
    · rw [if_neg hkn]
      exact (x.cell k c' hk').sameBut hs' fun e => hkn (name_of_addr x.apart (mem_of_lookup hk') (e ▸ mem_of_lookup hc))
theorem bindParamsT (f : Str × Value → PUnit → Sem (ForInStep PUnit)) (hf : ∀ n v u, f (n, v) u = (do storeName env n v; pure (.yield ⟨⟩))) (hk : env.scope.kind = .function) :
    ∀ (binds : List (Str × Value)) (m cm : Str → Option Value) (s : Shared) (Q : PUnit → Shared → Prop), InT s₀ env.locals m env.cells cm s →
      (∀ x ∈ binds, env.kindOf x.1 = some .local ∨ (env.kindOf x.1 = some .cell ∧ (env.cells.lookup x.1).isSome = true)) →
      (∀ s', InT s₀ env.locals (bindL env.kindOf binds m) env.cells (bindC env.kindOf binds cm) s' → Q ⟨⟩ s') → wpAny M A (forIn binds ⟨⟩ f) Q E s
  | [], m, cm, s, Q, x, _, h => by rw [List.forIn_nil]; exact wpAny_pure (h s x)
  | (n, v) :: r, m, cm, s, Q, x, hkind, h => by
    rw [List.forIn_cons, hf]
    have hr : ∀ y ∈ r, env.kindOf y.1 = some .local ∨ (env.kindOf y.1 = some .cell ∧ (env.cells.lookup y.1).isSome = true) := fun y hy => hkind y (List.mem_cons_of_mem _ hy)
    rcases hkind (n, v) List.mem_cons_self with hl | ⟨hl, hc⟩
    · refine wpAny_bind (wpAny_bind (stLT x hk hl fun s' x' => wpAny_pure (bindParamsT f hf hk r _ _ s' Q x' hr fun s'' x'' => h s'' ?_)))
      unfold bindL bindC; rw [if_pos hl, if_pos hl]; exact x''
    · obtain ⟨c, hc⟩ := Option.isSome_iff_exists.mp hc
      have hnl : ¬ env.kindOf n = some .local := by rw [hl]; decide
      refine wpAny_bind (wpAny_bind (stCT x hk hl hc fun s' x' => wpAny_pure (bindParamsT f hf hk r _ _ s' Q x' hr fun s'' x'' => h s'' ?_)))
      unfold bindL bindC; rw [if_neg hnl, if_neg hnl]; exact x''
theorem newFunctionEnvT {s : Shared} {scope : Scope} {globals : Addr} {binds : List (Str × Value)} {qual : Str} {func : Option Addr} {code : Value} {builtins : Addr} {Q : Env → Shared → Prop}
    (hk : scope.kind = .function)
    (hkind : ∀ x ∈ binds, scope.names.lookup x.1 = some .local ∨ (scope.names.lookup x.1 = some .cell ∧ ((cellsFrom (s.heap.objs.size + 1) scope.names []).lookup x.1).isSome = true))
    (hQ : ∀ env, env = newEnv scope s.heap.objs.size globals (cellsFrom (s.heap.objs.size + 1) scope.names []) qual func code none builtins →
      ∀ s', InT s env.locals (bindL env.kindOf binds fun _ => none) env.cells (bindC env.kindOf binds fun _ => none) s' → Q env s') :
    wpAny M A (newFunctionEnv scope globals [] binds qual func code none builtins) Q E s := by
  simp only [newFunctionEnv, Option.isSome_none, Bool.false_eq_true, if_false]
  refine wpAny_bind (wpAny_alloc ?_)
  refine wpAny_bind (wpAny_layCells _ (fun name kind cells => by cases hkc : kind == NameKind.cell <;> simp [hkc]) _ _ _ _ ?_)
  have ok := cellsFrom_ok scope.names (s.heap.push { cls := .type "frame", data := .dict #[] }) (s.heap.objs.size + 1) [] ⟨fun _ _ hm => (nomatch hm), List.Pairwise.nil⟩ (by rw [Heap.size_push]; exact Nat.le_refl _)
  rw [Heap.size_push] at ok
  rw [show ({ s with heap := s.heap.push { cls := .type "frame", data := .dict #[] } } : Shared).heap.objs.size = s.heap.objs.size + 1 from Heap.size_push ..]
  refine wpAny_bind (bindParamsT (s₀ := s) (env := newEnv scope s.heap.objs.size globals (cellsFrom (s.heap.objs.size + 1) scope.names []) qual func code none builtins)
    _ (fun _ _ _ => rfl) hk binds (fun _ => none) (fun _ => none) _ _
    ⟨⟨⟨⟨_, _, rfl⟩, (Heap.Ns.new s.heap (.type "frame")).keeps (pushCells_keeps _ _), fun b o e => pushCells_keeps _ _ b o (Heap.get?_push_of_some _ e), Nat.le_refl _⟩,
      fun n c hc => (ok.empty n c (mem_of_lookup hc)).1, ok.apart, fun n c hm => (ok.empty n c hm).2⟩, fun q => by first | exact q | exact Nat.le_trans q (Nat.le_add_right _ _)⟩
    hkind fun s' x => wpAny_pure (hQ _ rfl s' x))
end

theorem WC.def_ {f : Addr} {fd : FuncData} {body : List Stmt} {args : List V} {kw : List (Str × V)} {ds : List (Str × V)} {Q : V → Sto → Prop} (D : DefOk B f fd body) (hb : WBind B fd args kw σ ds)
    (hk : ∀ x ∈ ds, fd.scope.names.lookup x.1 = some .local ∨ fd.scope.names.lookup x.1 = some .cell)
    (h : WS B ⟨fd.scope, true⟩ N body (locL ds fun _ => none) σ fun fl _ σ' => Q (retOf fl) σ') : WC B (N + 1) (.ref f) args kw σ Q := fun A s vf vs kws R O hf hv hkw => by
  cases hf
  obtain ⟨o, doc, pm, an, cd, ct, ho, hd, hcode⟩ := D.at_
  refine wpAny_call (codeAny_call_function (by have := R.2.1; lia) (O.keep _ _ ho) hd D.co D.gen D.body (hcode.keeps O.keep) ?_)
  show wpAny _ _ (bindArgs fd ⟨vs, kws⟩) _ _ _
  refine wpAny_mono (hb A.in1 s vs kws R.1 O hv hkw) (fun bs s₁ q => u2 q fun P₁ rb => ?_) fun _ _ f => f.elim
  dsimp only
  rw [D.glob, D.blt, D.clo]
  refine newFunctionEnvT D.fn (fun x hx => ?_) fun env he s' x => ?_
  · obtain ⟨d, hd⟩ := mem_binds rb x hx
    rcases hk _ hd with q | q
    · exact .inl q
    · exact .inr ⟨q, cellsFrom_some _ _ _ (.inl q)⟩
  subst he
  obtain ⟨x, xt⟩ := x
  have k₁ := x.toInCall.keep
  obtain ⟨h', tk, hs'⟩ := x.toInCall.same
  refine ⟨(D.lim.keeps P₁.o.keep).keeps k₁, codeAny_func ?_⟩
  have P₂ : PostS B s₁ σ s' σ := by subst hs'; exact .keeps P₁.o k₁ xt
  have r₂ := rb.mono (Mono.of_keeps k₁)
  generalize hE : newEnv fd.scope s₁.heap.objs.size mainGlobals (cellsFrom (s₁.heap.objs.size + 1) fd.scope.names []) (fd.qualname ++ ".<locals>.") (some f) cd none builtinsNs = env at x ⊢
  have e1 : env.scope = fd.scope := by rw [← hE]; rfl
  have e2 : env.locals = s₁.heap.objs.size := by rw [← hE]; rfl
  have e3 : env.cells = cellsFrom (s₁.heap.objs.size + 1) fd.scope.names [] := by rw [← hE]; rfl
  have fresh : ∀ b, s₁.heap.objs.size ≤ b → s₁.heap.get? b = none := fun b hb => by
    cases q : s₁.heap.get? b with
    | none => rfl
    | some o => exact absurd (Heap.lt_size q) (Nat.not_lt.mpr hb)
  have above : ∀ b, (b = env.locals ∨ ∃ y, env.cells.lookup y = some b) → s₁.heap.objs.size ≤ b := by
    rintro b (rfl | ⟨y, hy⟩)
    · rw [e2]; exact Nat.le_refl _
    · have := x.above _ _ (mem_of_lookup hy); rw [e2] at this; exact Nat.le_of_lt this
  let F : Frm := ⟨env, fun b => b = env.locals ∨ ∃ y, env.cells.lookup y = some b⟩
  have XF : FrmOk B ⟨fd.scope, true⟩ F := {
    scope := e1
    fn := D.fn
    globals := by show env.globals = _; rw [← hE]; rfl
    builtins := by show env.builtins = _; rw [← hE]; rfl
    ownL := .inl rfl
    ownNew := fun b hb => by
      cases q : B.h₀.get? b with
      | none => rfl
      | some o => have := P₁.o.keep _ _ q; rw [fresh b (above b hb)] at this; cases this
    full := fun _ y a _ hy => .inr ⟨y, hy⟩
    apart := fun y z a hy hz => name_of_addr x.apart (mem_of_lookup hy) (mem_of_lookup hz)
    cex := fun y hy => by
      show ∃ a, env.cells.lookup y = some a
      rw [e3]; exact Option.isSome_iff_exists.mp (cellsFrom_some _ _ _ (.inl hy)) }
  obtain ⟨b1, b2⟩ := RepK.bind (kind := env.kindOf) (ρ := fun _ => none) (m := fun _ => none) (cm := fun _ => none) r₂ (fun _ _ _ e => by cases e) (fun _ _ _ e => by cases e)
  have OF : Ok B F s' (locL ds fun _ => none) σ := {
    s := P₂.o
    ns := ⟨_, x.toInCall.ns, b1⟩
    cl := fun y a hy ha => ⟨_, x.cell y a ha, fun d hd => b2 y d hy hd⟩
    own := fun b hb => by
      refine ⟨?_, ?_⟩
      · cases q : σ b with
        | none => rfl
        | some c =>
          obtain ⟨o, ho, _⟩ := (P₁.o.cell b c q).sth
          rw [fresh b (above b hb)] at ho; cases ho
      · rcases hb with rfl | ⟨y, hy⟩
        · exact nt_ns x.toInCall.ns
        · obtain ⟨o, ho, hd⟩ := x.cell y b hy
          refine ⟨o, ho, ?_⟩
          rintro (⟨_, i, k, e⟩ | ⟨_, vs, e⟩) <;> rw [hd] at e <;> cases e }
  refine wpAny_mono (h.run (A.deeper env) F s' R.deeper XF OF) (fun fl s₃ hp => hp.k fun f' ρ' σ' P₃ r₃ q => ?_) fun _ _ f => f.elim
  have PX : PostS B s σ s₃ σ' := by
    refine ⟨?_, P₃.o.s⟩
    have y1 := P₁.x
    have y2 := P₂.x
    obtain ⟨same, kp, al⟩ := P₃.x
    refine y1.trans ⟨?_, fun b o _ hn hg => ?_, al⟩
    · obtain ⟨h3, t3, rfl⟩ := same
      exact ⟨h3, t3, by rw [hs']⟩
    · refine kp b o (fun hb => ?_) hn (k₁ b o hg)
      rw [fresh b (above b hb)] at hg; cases hg
  cases f' with
  | ret d => obtain ⟨v, rfl, r⟩ := r₃; exact ⟨d, σ', PX, r, q⟩
  | next => cases r₃; exact ⟨.none, σ', PX, rfl, q⟩
  | brk => cases r₃; exact ⟨.none, σ', PX, rfl, q⟩
  | cont => cases r₃; exact ⟨.none, σ', PX, rfl, q⟩
end
end

section
/-! ## iterators -/
/-- what an iterator hands out: how many, which, what it asks of the store, what it does to it -/
structure Src where
  n : Nat
  item : Nat → V
  G : Nat → Sto → Prop
  nx : Nat → Sto → Sto
  dn : Sto → Sto

structure Itr (B : Bs) (tgt : Expr) (it : Value) (S : Src) (fp : Addr → Prop) (St : Nat → Heap → Prop) : Prop where
  frame : ∀ k h h', St k h → Mono h h' → (∀ b, fp b → ∀ o, h.get? b = some o → h'.get? b = some o) → St k h'
  nt : ∀ k h, St k h → ∀ b, fp b → ∃ o, h.get? b = some o ∧ NT o
  nxfp : ∀ k σ b, fp b → σ b = none → S.nx k σ b = none
  next : ∀ k (A : Around) (s : Shared) (σ : Sto), k < S.n → Room A 1 → OkS B s σ → S.G k σ → (∀ b, fp b → σ b = none ∧ B.h₀.get? b = none) → St k s.heap →
    wpAny (Md B) A (pyNext it) (fun r s₁ => ∃ v, r = some v ∧ wpAny (Md B) A (letOwnedTupleGo tgt it v) (fun _ s' => Ext fp s σ s' (S.nx k σ) ∧ OkS B s' (S.nx k σ) ∧ St (k + 1) s'.heap ∧ Rep s'.heap (S.item k) v) NoE s₁) NoE s
  done : ∀ (A : Around) (s : Shared) (σ : Sto), Room A 1 → OkS B s σ → S.G S.n σ → (∀ b, fp b → σ b = none ∧ B.h₀.get? b = none) → St S.n s.heap →
    wpAny (Md B) A (pyNext it) (fun r s' => r = none ∧ Ext fp s σ s' (S.dn σ) ∧ OkS B s' (S.dn σ)) NoE s
  self : ∀ k (A : Around) (s : Shared) (σ : Sto) (Q : Value → Shared → Prop) (E : Value → Shared → Prop), A.handled = none → OkS B s σ → S.G k σ → St k s.heap → Q it s → wpAny (Md B) A (pyIter it) Q E s

inductive PIt (B : Bs) (tgt : Expr) (F : Frm) (s : Shared) (σ : Sto) (ρ : Loc) (K : Src → Sto → Prop) (it : Value) (s₂ : Shared) : Prop where
  | mk (S : Src) (σ₁ : Sto) (fp : Addr → Prop) (St : Nat → Heap → Prop) (T : Itr B tgt it S fp St) (P : Post B F s σ s₂ ρ σ₁) (hf : ∀ b, fp b → s.heap.get? b = none ∧ σ₁ b = none) (st : St 0 s₂.heap) (q : K S σ₁)
theorem PIt.k {B : Bs} {tgt : Expr} {F : Frm} {s : Shared} {σ : Sto} {ρ : Loc} {K : Src → Sto → Prop} {it : Value} {s₂ : Shared} {G : Prop} (h : PIt B tgt F s σ ρ K it s₂)
    (f : ∀ S σ₁ fp St, Itr B tgt it S fp St → Post B F s σ s₂ ρ σ₁ → (∀ b, fp b → s.heap.get? b = none ∧ σ₁ b = none) → St 0 s₂.heap → K S σ₁ → G) : G := PIt.rec (motive := fun _ => G) f h
inductive PG (B : Bs) (tgt : Expr) (s : Shared) (σ : Sto) (S : Src) (it : Value) (s' : Shared) : Prop where
  | mk (fp : Addr → Prop) (St : Nat → Heap → Prop) (T : Itr B tgt it S fp St) (P : PostS B s σ s' σ) (hf : ∀ b, fp b → s.heap.get? b = none) (st : St 0 s'.heap)
theorem PG.k {B : Bs} {tgt : Expr} {s : Shared} {σ : Sto} {S : Src} {it : Value} {s' : Shared} {G : Prop} (h : PG B tgt s σ S it s')
    (f : ∀ fp St, Itr B tgt it S fp St → PostS B s σ s' σ → (∀ b, fp b → s.heap.get? b = none) → St 0 s'.heap → G) : G := PG.rec (motive := fun _ => G) f h

/-- the source of a loop: its expression evaluated, its iterator taken -/
structure WIt (B : Bs) (sc : Sc) (N : Nat) (tgt iter : Expr) (ρ : Loc) (σ : Sto) (K : Src → Sto → Prop) : Prop where
  run : ∀ (A : Around) (F : Frm) (s : Shared), Room A N → FrmOk B sc F → Ok B F s ρ σ →
    wpAny (Md B) A (eval iter F.env) (fun v s₁ => wpAny (Md B) A (pyIter v) (PIt B tgt F s σ ρ K) NoE s₁) NoE s

noncomputable def GetIter (B : Bs) (tgt : Expr) (d : V) (σ : Sto) (S : Src) : Prop :=
  ∀ (A : Around) (s : Shared) (v : Value), Room A 1 → OkS B s σ → Rep s.heap d v →
    wpAny (Md B) A (pyIter v) (PG B tgt s σ S) NoE s

section
variable {B : Bs} {sc : Sc} {N : Nat} {ρ : Loc} {σ : Sto} {F : Frm} {A : Around} {s : Shared}

noncomputable def ApartF (B : Bs) (F : Frm) (fp : Addr → Prop) : Prop := ∀ b, fp b → ¬ F.own b ∧ B.h₀.get? b = none ∧ ∀ x a, F.env.kindOf x = some .cell → F.env.cells.lookup x = some a → a ≠ b

theorem ApartF.of {fp : Addr → Prop} (X : FrmOk B sc F) (O : Ok B F s ρ σ) (h : ∀ b, fp b → s.heap.get? b = none) : ApartF B F fp := fun b hb => by
  refine ⟨fun q => ?_, ?_, fun x a hk ha => ?_⟩
  · obtain ⟨_, o, ho, _⟩ := O.own b q
    rw [h b hb] at ho; cases ho
  · cases q : B.h₀.get? b with
    | none => rfl
    | some o => have := O.s.keep _ _ q; rw [h b hb] at this; cases this
  · rintro rfl
    obtain ⟨v, ⟨o, ho, _⟩, _⟩ := O.cl x a hk ha
    rw [h a hb] at ho; cases ho

/-- a step on hidden things alone -/
theorem Ok.hid {s' : Shared} {σ' : Sto} {fp : Addr → Prop} (X : FrmOk B sc F) (O : Ok B F s ρ σ) (ap : ApartF B F fp) (hnt : ∀ b, fp b → ∀ o, s.heap.get? b = some o → NT o) (x : Ext fp s σ s' σ') (O' : OkS B s' σ') : Ok B F s' ρ σ' := by
  have M := x.mono O.s hnt
  refine ⟨O', ?_, fun y a hk hc => ?_, fun b hb => ?_⟩
  · obtain ⟨m, hn, hr⟩ := O.ns
    refine ⟨m, ?_, fun y d hk e => ?_⟩
    · obtain ⟨o, es, ep, g, r⟩ := hn
      exact ⟨o, es, ep, (x.keep _ o (fun q => (ap _ q).1 X.ownL) (O.own _ X.ownL).1 g).2, r⟩
    · obtain ⟨v, h1, h2⟩ := hr y d hk e
      exact ⟨v, h1, h2.mono M⟩
  · obtain ⟨v, ⟨o, ho, hd⟩, h2⟩ := O.cl y a hk hc
    have hσ : σ a = none := by
      cases q : σ a with
      | none => rfl
      | some c =>
        exfalso
        obtain ⟨o', h1, h2⟩ := (O.s.cell a c q).sth
        rw [ho] at h1; cases h1
        exact h2.2 _ hd
    refine ⟨v, ⟨o, (x.keep a o (fun q => (ap _ q).2.2 y a hk hc rfl) hσ ho).2, hd⟩, fun d e => ?_⟩
    obtain ⟨u, h3, h4⟩ := h2 d e
    exact ⟨u, h3, h4.mono M⟩
  · obtain ⟨h1, o, h2, h3⟩ := O.own b hb
    obtain ⟨q1, q2⟩ := x.keep b o (fun q => (ap _ q).1 hb) h1 h2
    exact ⟨q1, o, q2, h3⟩
theorem Ext.hid {own fp : Addr → Prop} {s s' s'' : Shared} {σ σ' σ'' : Sto} (x : Ext own s σ s' σ') (y : Ext fp s' σ' s'' σ'') (h : ∀ b, fp b → s.heap.get? b = none) : Ext own s σ s'' σ'' := by
  obtain ⟨⟨h1, t1, rfl⟩, k1, a1⟩ := x
  obtain ⟨⟨h2, t2, rfl⟩, k2, a2⟩ := y
  refine ⟨⟨h2, t2, rfl⟩, fun b o ho hn e => ?_, fun b h => a2 b (a1 b h)⟩
  obtain ⟨n1, e1⟩ := k1 b o ho hn e
  exact k2 b o (fun q => by rw [h b q] at e; cases e) n1 e1

theorem Ok.weak {ρ' : Loc} (O : Ok B F s ρ σ) (h : ∀ x d, ρ' x = some d → ρ x = some d) : Ok B F s ρ' σ :=
  ⟨O.s, let ⟨m, hn, hr⟩ := O.ns; ⟨m, hn, fun x d hk e => hr x d hk (h x d e)⟩, fun x a hk ha => let ⟨v, hc, hr⟩ := O.cl x a hk ha; ⟨v, hc, fun d e => hr d (h x d e)⟩, O.own⟩

theorem OkS.none_of (O : OkS B s σ) {b : Addr} (h : s.heap.get? b = none) : σ b = none := by
  cases q : σ b with
  | none => rfl
  | some c => obtain ⟨o, ho, _⟩ := (O.cell b c q).sth; rw [h] at ho; cases ho
theorem Post.none_back {s' : Shared} {ρ' : Loc} {σ' : Sto} (P : Post B F s σ s' ρ' σ') (O : Ok B F s ρ σ) {b : Addr} (h : s'.heap.get? b = none) : s.heap.get? b = none := by
  cases q : s.heap.get? b with
  | none => rfl
  | some o =>
    exfalso
    by_cases hb : F.own b
    · obtain ⟨_, o', e, _⟩ := P.o.own b hb; rw [h] at e; cases e
    · cases hc : σ b with
      | none => have := (P.x.keep b o hb hc q).2; rw [h] at this; cases this
      | some c =>
        have := P.x.alive b (by rw [hc]; rfl)
        obtain ⟨c', hc'⟩ := Option.isSome_iff_exists.mp this
        obtain ⟨o', e, _⟩ := (P.o.s.cell b c' hc').sth
        rw [h] at e; cases e
theorem WIt.of {tgt iter : Expr} {K : Src → Sto → Prop} (h : WE B sc N iter ρ σ fun d σ₁ => ∃ S, GetIter B tgt d σ₁ S ∧ K S σ₁) (hN : 1 ≤ N) : WIt B sc N tgt iter ρ σ K := .mk fun A F s R X O => by
  refine wpAny_mono (h.run A F s R X O) (fun v s₁ hp => hp.k fun d σ₁ P₁ r₁ q => q.elim fun S q => u2 q fun gi k => ?_) fun _ _ f => f
  refine wpAny_mono (gi A s₁ v (R.mono hN) P₁.o.s r₁) (fun it s₂ hp => hp.k fun fp St T P₂ hfp st0 => ?_) fun _ _ f => f
  exact ⟨S, σ₁, fp, St, T, P₁.trans (P₂.frame X P₁.o), fun b hb => ⟨P₁.none_back O (hfp b hb), P₁.o.s.none_of (hfp b hb)⟩, st0, k⟩

/-! ## for -/
theorem WX.for_ {target iter : Expr} {body : List Stmt} {pos : Pos} {Q : Fl → Loc → Sto → Prop}
    (h : WIt B sc N target iter ρ σ fun S σ₁ => ∃ I : Nat → Loc → Sto → Prop, I 0 ρ σ₁ ∧ (∀ k ρ' σ', I k ρ' σ' → S.G k σ') ∧
      (∀ k ρ' σ', k < S.n → I k ρ' σ' → WA B sc N target (S.item k) ρ' (S.nx k σ') fun ρ₂ σ₂ => WS B sc N body ρ₂ σ₂ fun f ρ₃ σ₃ => match f with
        | .next | .cont => I (k + 1) ρ₃ σ₃ | .brk => Q .next ρ₃ σ₃ | .ret d => Q (.ret d) ρ₃ σ₃) ∧ (∀ ρ' σ', I S.n ρ' σ' → Q .next ρ' (S.dn σ')))
    (hN : 1 ≤ N) (hs : ∀ env x, foldedSetIterable iter env x = pure x) : WX B sc N (.For target iter body [] pos) ρ σ Q := .mk fun A F s R X O => by
  refine wpAny_For (wpAny_mono (h.run A F s R X O) (fun v s₁ h₁ => wpAny_mono h₁ (fun it s₂ hp => hp.k fun S σ₁ fp St T P₂ hfp' st0 q => q.elim fun I q => u4 q fun i0 iG turn fin => ?_) fun _ _ f => f) fun _ _ f => f) (hs _)
  have hfp : ∀ b, fp b → s.heap.get? b = none := fun b hb => (hfp' b hb).1
  have ap := ApartF.of X O hfp
  refine codeAny_forLoop_any (fun m s' => ∃ k ρ' σ', m = S.n - k ∧ k ≤ S.n ∧ Post B F s σ s' ρ' σ' ∧ St k s'.heap ∧ (∀ b, fp b → σ' b = none) ∧ I k ρ' σ') ?_ S.n ⟨0, ρ, σ₁, rfl, Nat.zero_le _, P₂, st0, fun b hb => (hfp' b hb).2, i0⟩
  rintro m s₃ ⟨k, ρ₃, σ₃, rfl, hk, P₃, st, hfree, i⟩
  have hboth : ∀ b, fp b → σ₃ b = none ∧ B.h₀.get? b = none := fun b hb => ⟨hfree b hb, (ap b hb).2.1⟩
  have ntAt : ∀ {j : Nat} {h : Heap}, St j h → ∀ b, fp b → ∀ o, h.get? b = some o → NT o := fun sj b hb o e => by
    obtain ⟨o', e', q⟩ := T.nt _ _ sj b hb
    rw [e] at e'; cases e'; exact q
  by_cases hlt : k < S.n
  · refine wpAny_mono (T.next k A s₃ σ₃ hlt (R.mono hN) P₃.o.s (iG _ _ _ i) hboth st) (fun r s₄ q => q.elim fun v q => u2 q fun hv h₄ => ?_) fun _ _ f => f.elim
    subst hv
    refine wpAny_mono h₄ (fun _ s₅ q => u4 q fun x₅ o₅ st₅ r₅ => ?_) fun _ _ f => f.elim
    have O₅ : Ok B F s₅ ρ₃ (S.nx k σ₃) := Ok.hid X P₃.o ap (ntAt st) x₅ o₅
    have hb4 : ∀ b, fp b → S.nx k σ₃ b = none := fun b hb => T.nxfp _ _ _ hb (hfree b hb)
    have X₅ := P₃.x.hid x₅ hfp
    refine wpAny_mono ((turn k ρ₃ σ₃ hlt i).run A F s₅ v R X O₅ r₅) (fun _ s₆ hp => hp.k fun ρ₆ σ₆ P₆ h₆ => ?_) fun _ _ f => f.elim
    refine wpAny_mono (h₆.run A F s₆ R X P₆.o) (fun f s₇ hp => hp.k fun fl ρ₇ σ₇ P₇ r₇ h₇ => ?_) fun _ _ f => f.elim
    have P₆₇ := P₆.trans P₇
    have PX : Post B F s σ s₇ ρ₇ σ₇ := ⟨X₅.trans P₆₇.x, P₆₇.o⟩
    have kept : ∀ b, fp b → σ₇ b = none ∧ ∀ o, s₅.heap.get? b = some o → s₇.heap.get? b = some o := fun b hb => by
      obtain ⟨o, e, _⟩ := T.nt _ _ st₅ b hb
      refine ⟨(P₆₇.x.keep b o (ap b hb).1 (hb4 b hb) e).1, fun o' e' => (P₆₇.x.keep b o' (ap b hb).1 (hb4 b hb) e').2⟩
    have st₇ : St (k + 1) s₇.heap := T.frame _ _ _ st₅ (P₆₇.mono O₅) fun b hb => (kept b hb).2
    cases fl with
    | next => cases r₇; exact ⟨S.n - (k + 1), by omega, k + 1, ρ₇, σ₇, rfl, hlt, PX, st₇, fun b hb => (kept b hb).1, h₇⟩
    | cont => cases r₇; exact ⟨S.n - (k + 1), by omega, k + 1, ρ₇, σ₇, rfl, hlt, PX, st₇, fun b hb => (kept b hb).1, h₇⟩
    | brk => cases r₇; exact ⟨.next, ρ₇, σ₇, PX, rfl, h₇⟩
    | ret d => obtain ⟨v, rfl, r⟩ := r₇; exact ⟨.ret d, ρ₇, σ₇, PX, ⟨v, rfl, r⟩, h₇⟩
  · have hkn : k = S.n := by omega
    subst hkn
    refine wpAny_mono (T.done A s₃ σ₃ (R.mono hN) P₃.o.s (iG _ _ _ i) hboth st) (fun r s₄ q => u3 q fun hv x₄ o₄ => ?_) fun _ _ f => f.elim
    subst hv
    have O₄ : Ok B F s₄ ρ₃ (S.dn σ₃) := Ok.hid X P₃.o ap (ntAt st) x₄ o₄
    refine wpAny_execs_nil ?_
    exact (⟨.next, ρ₃, S.dn σ₃, ⟨P₃.x.hid x₄ hfp, O₄⟩, rfl, fin _ _ i⟩ : PX B F s σ Q .next s₄)
end
end

section
/-! ## comprehensions -/
theorem codeAny_compLoop_go {prog : Program} {w : World} {A : Around} {R : Result → Shared → Prop} {s : Shared} {elt target iter : Expr} {ifs : List Expr} {scope : Scope} {pos : Pos} {it acc : Value} {env : Env} (I : Nat → Shared → Prop)
    (turn : ∀ n s, I n s → wpAny (model prog w) A (pyNext it) (fun r s₁ => match r with
      | none => R (.ok .next) s₁
      | some v => wpAny (model prog w) A (letOwnedTupleGo target it v) (fun _ s₁' => wpAny (model prog w) A (assign target env v) (fun _ s₂ =>
          wpAny (model prog w) A (forIn ifs true fun c r => if r = true then do let ok ← isTrue c env (eval c env); pure (ForInStep.yield ok) else pure (ForInStep.yield r)) (fun ok s₃ =>
            if ok = true then wpAny (model prog w) A (eval elt env) (fun x s₄ =>
              wpAny (model prog w) A (call (.builtin "list.append") [acc, x]) (fun _ s₅ => ∃ m, m < n ∧ I m s₅) NoE s₄) NoE s₃
            else ∃ m, m < n ∧ I m s₃) NoE s₂) NoE s₁') NoE s₁) NoE s)
    (n : Nat) (h : I n s) : codeAny (model prog w) A (.compLoop (.ListComp elt [⟨target, iter, ifs, 0⟩] scope pos) 0 it acc env) R s := by
  refine codeAny_loop rfl I (fun n s hI => ?_) n h
  show wpAny _ A ((compTurn (.ListComp elt [⟨target, iter, ifs, 0⟩] scope pos) 0 it acc env).onRaise (fun x => do noteFrame x env; theTreesLotGoes x)) _ _ s
  refine wpAny_noted ?_
  rw [compTurn_list]
  refine wpAny_bind (wpAny_standAt (wpAny_bind (wpAny_mono (turn n s hI) (fun r s₁ h₁ => ?_) fun _ _ h' => h'.elim)))
  cases r with
  | none => exact wpAny_pure h₁
  | some v =>
    refine wpAny_bind (wpAny_mono h₁ (fun _ s₁' h₁' => ?_) fun _ _ h' => h'.elim)
    refine wpAny_bind (wpAny_mono h₁' (fun _ s₂ h₂ => wpAny_bind (wpAny_mono h₂ (fun ok s₃ h₃ => ?_) fun _ _ h' => h'.elim)) fun _ _ h' => h'.elim)
    cases ok with
    | false => exact wpAny_pure ⟨rfl, h₃⟩
    | true =>
      exact wpAny_bind (wpAny_bind (wpAny_mono h₃ (fun x s₄ h₄ => wpAny_bind (wpAny_mono h₄ (fun _ s₅ h₅ => wpAny_pure (wpAny_pure ⟨rfl, h₅⟩)) fun _ _ h' => h'.elim)) fun _ _ h' => h'.elim))

noncomputable def relS (csc sc : Scope) : Scope := { csc with names := csc.names.map fun (n, k) => if (k == .free && sc.kind == .function && sc.names.lookup n == some .cell) then (n, .cell) else (n, k) }
theorem relabel_eq (csc : Scope) (env : Env) : relabel csc env = relS csc env.scope := rfl

/-- the tests of a comprehension -/
noncomputable def WIf (B : Bs) (sc : Sc) (N : Nat) : List Expr → Loc → Sto → (Bool → Sto → Prop) → Prop
  | [], ρ, σ, Q => Q true σ
  | [c], ρ, σ, Q => WI B sc N c ρ σ Q
  | _, _, _, _ => False

noncomputable def capt (ρ : Loc) (csc : Scope) : Loc := fun y => if csc.names.lookup y = some .cell then ρ y else none

structure CompOk (csc sc : Scope) : Prop where
  fn : csc.kind = .function
  nocell : ∀ x ∈ csc.names, x.2 ≠ .cell
  names : ∀ x ∈ csc.names, x.2 = .local → csc.names.lookup x.1 = some .local
  free : ∀ x ∈ csc.names, x.2 = .free → sc.names.lookup x.1 = some .cell
noncomputable def compOkB (csc sc : Scope) : Bool := csc.kind == .function && csc.names.all (fun x => x.2 != .cell && (x.2 != .local || csc.names.lookup x.1 == some .local) && (x.2 != .free || sc.names.lookup x.1 == some .cell))
theorem CompOk.of {csc sc : Scope} (h : compOkB csc sc = true) : CompOk csc sc := by
  unfold compOkB at h
  rw [Bool.and_eq_true, beq_iff_eq, List.all_eq_true] at h
  obtain ⟨h1, h2⟩ := h
  have h3 : ∀ x ∈ csc.names, x.2 ≠ .cell ∧ (x.2 = .local → csc.names.lookup x.1 = some .local) ∧ (x.2 = .free → sc.names.lookup x.1 = some .cell) := fun x hx => by
    have := h2 x hx
    simp only [Bool.and_eq_true, bne_iff_ne, Bool.or_eq_true, beq_iff_eq] at this
    exact ⟨this.1.1, fun e => this.1.2.resolve_left fun q => q e, fun e => this.2.resolve_left fun q => q e⟩
  exact ⟨h1, fun x hx => (h3 x hx).1, fun x hx => (h3 x hx).2.1, fun x hx => (h3 x hx).2.2⟩

theorem closureFor_ok {env : Env} {csc : Scope} (h : ∀ x ∈ csc.names, x.2 = .free → ∃ a, env.cells.lookup x.1 = some a) :
    ∃ cl, closureFor csc env = pure cl ∧ (∀ x a, cl.lookup x = some a → env.cells.lookup x = some a) ∧ (∀ x ∈ csc.names, x.2 = .free → cl.lookup x.1 = env.cells.lookup x.1) := by
  have key : ∀ (l : List (Str × NameKind)) (acc : List (Str × Addr)), (∀ x ∈ l, x.2 = .free → ∃ a, env.cells.lookup x.1 = some a) → (∀ x a, acc.lookup x = some a → env.cells.lookup x = some a) →
      ∃ cl, (forIn l acc fun (x : Str × NameKind) (cs : List (Str × Addr)) => if (x.2 == NameKind.free) = true then (do let a ← cellOf env x.1; pure (ForInStep.yield ((x.1, a) :: cs))) else pure (ForInStep.yield cs)) = (pure cl : Sem _) ∧
        (∀ x a, cl.lookup x = some a → env.cells.lookup x = some a) ∧ (∀ x ∈ l, x.2 = .free → cl.lookup x.1 = env.cells.lookup x.1) ∧ (∀ x, (acc.lookup x).isSome = true → cl.lookup x = env.cells.lookup x) := by
    intro l
    induction l with
    | nil => intro acc _ ha; exact ⟨acc, rfl, ha, (fun _ hx => by cases hx), fun x hx => by obtain ⟨a, e⟩ := Option.isSome_iff_exists.mp hx; rw [e, ha x a e]⟩
    | cons p r ih =>
      intro acc hl ha
      obtain ⟨n, k⟩ := p
      by_cases hk : k = .free
      · subst hk
        obtain ⟨a, e⟩ := hl _ (.head _) rfl
        have ha' : ∀ x b, List.lookup x ((n, a) :: acc) = some b → env.cells.lookup x = some b := fun x b hx => by
          rw [List.lookup_cons] at hx
          cases q : x == n with
          | true => rw [q] at hx; cases hx; rw [beq_iff_eq.mp q]; exact e
          | false => rw [q] at hx; exact ha x b hx
        obtain ⟨cl, h1, h2, h3, h4⟩ := ih ((n, a) :: acc) (fun x hx => hl x (.tail _ hx)) ha'
        refine ⟨cl, ?_, h2, fun x hx hf => ?_, fun x hx => h4 x ?_⟩
        · rw [List.forIn_cons]
          simp only [beq_self_eq_true, if_true]
          unfold cellOf; simp only [e]
          exact h1
        · rcases List.mem_cons.mp hx with rfl | hx
          · exact h4 n (by rw [List.lookup_cons]; simp)
          · exact h3 x hx hf
        · rw [List.lookup_cons]
          cases q : x == n with
          | true => rfl
          | false => exact hx
      · obtain ⟨cl, h1, h2, h3, h4⟩ := ih acc (fun x hx => hl x (.tail _ hx)) ha
        refine ⟨cl, ?_, h2, fun x hx hf => ?_, h4⟩
        · rw [List.forIn_cons]
          have : (k == NameKind.free) = false := by simpa using hk
          simp only [this, Bool.false_eq_true, if_false]
          exact h1
        · rcases List.mem_cons.mp hx with rfl | hx
          · exact absurd hf hk
          · exact h3 x hx hf
  obtain ⟨cl, h1, h2, h3, _⟩ := key csc.names [] h (fun _ _ e => by cases e)
  refine ⟨cl, ?_, h2, h3⟩
  have e : closureFor csc env = (forIn csc.names [] fun (x : Str × NameKind) (cs : List (Str × Addr)) => if (x.2 == NameKind.free) = true then (do let a ← cellOf env x.1; pure (ForInStep.yield ((x.1, a) :: cs))) else pure (ForInStep.yield cs)) := by
    unfold closureFor
    simp only [bind_pure]
  rw [e]; exact h1
end

section
section
variable {B : Bs} {sc : Sc} {N : Nat} {ρ : Loc} {σ : Sto} {F : Frm} {A : Around} {s : Shared}

theorem wpAny_ifs {ifs : List Expr} {Q : Bool → Sto → Prop} (h : WIf B sc N ifs ρ σ Q) (R : Room A N) (X : FrmOk B sc F) (O : Ok B F s ρ σ) :
    wpAny (Md B) A (forIn ifs true fun c r => if r = true then do let ok ← isTrue c F.env (eval c F.env); pure (ForInStep.yield ok) else pure (ForInStep.yield r)) (PI B F s σ ρ Q) NoE s := by
  match ifs, h with
  | [], h => exact wpAny_tests_nil ⟨σ, .refl O, h⟩
  | [c], h => exact wpAny_tests_one (h.run A F s R X O)

theorem lookup_rel {csc s : Scope} {x : Str} {k : NameKind} (h : csc.names.lookup x = some k) (hk : k ≠ .free) : (relS csc s).names.lookup x = some k := by
  unfold relS
  show List.lookup x (csc.names.map _) = _
  generalize csc.names = l at h
  induction l with
  | nil => cases h
  | cons p r ih =>
    obtain ⟨n, k'⟩ := p
    simp only [List.map_cons]
    rw [List.lookup_cons] at h
    cases q : x == n with
    | true =>
      rw [q] at h; cases h
      have : (k == NameKind.free) = false := by simpa using hk
      simp only [this, Bool.false_and, Bool.false_eq_true, if_false]
      rw [List.lookup_cons, q]
    | false =>
      rw [q] at h
      split <;> (rw [List.lookup_cons, q]; exact ih h)
theorem lookup_rel_cell {csc s : Scope} {x : Str} (hn : ∀ x ∈ csc.names, x.2 ≠ .cell) (h : (relS csc s).names.lookup x = some .cell) : (x, NameKind.free) ∈ csc.names ∧ s.names.lookup x = some .cell := by
  unfold relS at h
  have h' : List.lookup x (csc.names.map fun (n, k) => if (k == .free && s.kind == .function && s.names.lookup n == some .cell) then (n, NameKind.cell) else (n, k)) = some .cell := h
  clear h
  generalize csc.names = l at h' hn
  induction l with
  | nil => cases h'
  | cons p r ih =>
    obtain ⟨n, k'⟩ := p
    simp only [List.map_cons] at h'
    by_cases q : (k' == .free && s.kind == .function && s.names.lookup n == some .cell) = true
    · rw [if_pos q, List.lookup_cons] at h'
      cases e : x == n with
      | true =>
        have := beq_iff_eq.mp e; subst this
        simp only [Bool.and_eq_true, beq_iff_eq] at q
        rw [← q.1.1]; exact ⟨.head _, q.2⟩
      | false => rw [e] at h'; obtain ⟨h1, h2⟩ := ih h' (fun y hy => hn y (.tail _ hy)); exact ⟨.tail _ h1, h2⟩
    · rw [if_neg q, List.lookup_cons] at h'
      cases e : x == n with
      | true => rw [e] at h'; cases h'; exact absurd rfl (hn _ (.head _))
      | false => rw [e] at h'; obtain ⟨h1, h2⟩ := ih h' (fun y hy => hn y (.tail _ hy)); exact ⟨.tail _ h1, h2⟩

theorem comp_core {elt target citer : Expr} {ifs : List Expr} {csc : Scope} {cpos : Pos} {cl : List (Str × Addr)} {it : Value} {S : Src} {σ₁ : Sto} {fp : Addr → Prop} {St : Nat → Heap → Prop}
    {s₂ : Shared} {RR : Value → Addr → Result → Shared → Prop} (X : FrmOk B sc F) (R : Room A N) (hN : 1 ≤ N) (O₁ : Ok B F s ρ σ) (T : Itr B target it S fp St) (P₂ : Post B F s σ s₂ ρ σ₁) (hfp' : ∀ b, fp b → s.heap.get? b = none ∧ σ₁ b = none) (st0 : St 0 s₂.heap)
    (C : CompOk csc sc.scope) (hcl1 : ∀ x a, cl.lookup x = some a → F.env.cells.lookup x = some a) (hcl2 : ∀ x ∈ csc.names, x.2 = .free → cl.lookup x.1 = F.env.cells.lookup x.1) (hn : S.n ≤ 1000)
    (I : Nat → List V → Sto → Prop) (i0 : I 0 [] σ₁) (iG : ∀ k out σ', I k out σ' → S.G k σ')
    (turn : ∀ k out σ', k < S.n → I k out σ' → WA B ⟨relS csc sc.scope, false⟩ N target (S.item k) (capt ρ (relS csc sc.scope)) (S.nx k σ') fun ρ₃ σ₃ => WIf B ⟨relS csc sc.scope, false⟩ N ifs ρ₃ σ₃ fun b σ₄ =>
      (b = true → WE B ⟨relS csc sc.scope, false⟩ N elt ρ₃ σ₄ fun d σ₅ => I (k + 1) (out ++ [d]) σ₅) ∧ (b = false → I (k + 1) out σ₄))
    (hRR : ∀ D L s' σ' out, Post B F s σ s' ρ (S.dn σ') → s.heap.get? D = none → s.heap.get? L = none → L ≠ D → S.dn σ' L = none → S.dn σ' D = none → (∃ vs, s'.heap.PlainList D (List.toArray vs) ∧ RepL s'.heap out vs) → (∃ m, s'.heap.Ns L m) → I S.n out σ' → RR (.ref D) L (.ok .next) s') :
    wpAny (Md B) A (newList []) (fun acc s₃ => wpAny (Md B) A (newFunctionEnv csc F.env.globals cl [] F.env.qual none .none (some F.env)) (fun cenv s₄ =>
      codeAny (Md B) A (.compStart (.ListComp elt [⟨target, citer, ifs, 0⟩] csc cpos) 0 it acc { cenv with scope := relabel csc F.env }) (RR acc cenv.locals) s₄) NoE s₃) NoE s₂ := by
  have hfp : ∀ b, fp b → s.heap.get? b = none := fun b hb => (hfp' b hb).1
  refine wpAny_newObj_type (wpAny_newFunctionEnv C.nocell (by intro y hy; simp at hy) (fun h₁ hns₁ hsb₁ => ?_) C.fn)
  dsimp only [Option.isSome_some, if_true] at hns₁ hsb₁ ⊢
  generalize hD : s₂.heap.objs.size = D at hns₁ hsb₁ ⊢
  generalize hH : s₂.heap.push { cls := .type "list", dict := none, data := .seq ([] : List Value).toArray } = H at hns₁ hsb₁ ⊢
  have hL : H.objs.size = D + 1 := by rw [← hH, Heap.size_push, hD]
  generalize hLL : H.objs.size = L at hL hns₁ hsb₁ ⊢
  subst hL
  show codeAny (Md B) A (.compStart (.ListComp elt [⟨target, citer, ifs, 0⟩] csc cpos) 0 it (.ref D) (compEnvC csc cl (D + 1) F.env)) (RR (.ref D) (D + 1)) { s₂ with heap := h₁, toks := s₂.toks + 0 }
  generalize hLdef : D + 1 = L at hns₁ hsb₁ hLL ⊢
  have hLD : L ≠ D := by omega
  let fc : Frm := ⟨compEnvC csc cl L F.env, fun b => b = L⟩
  let csc' := relS csc sc.scope
  have ge_none : ∀ b, s₂.heap.objs.size ≤ b → s₂.heap.get? b = none := fun b hb => by
    cases q : s₂.heap.get? b with
    | none => rfl
    | some o => exact absurd (Heap.lt_size q) (Nat.not_lt.mpr hb)
  have gD : s₂.heap.get? D = none := ge_none D (by omega)
  have gL : s₂.heap.get? L = none := ge_none L (by omega)
  have fD : s.heap.get? D = none := P₂.none_back O₁ gD
  have fL : s.heap.get? L = none := P₂.none_back O₁ gL
  let hid : Addr → Prop := fun b => fp b ∨ b = D ∨ b = L
  have hhid : ∀ b, hid b → s.heap.get? b = none := by
    rintro b (h | h | h)
    · exact hfp b h
    · rw [h]; exact fD
    · rw [h]; exact fL
  have ap : ApartF B F hid := ApartF.of X O₁ hhid
  have h0hid : ∀ b, hid b → B.h₀.get? b = none := fun b hb => (ap b hb).2.1
  have hfpD : ¬ fp D := fun q => by
    obtain ⟨o, ho, _⟩ := T.nt 0 _ st0 D q
    rw [gD] at ho; cases ho
  have hfpL : ¬ fp L := fun q => by
    obtain ⟨o, ho, _⟩ := T.nt 0 _ st0 L q
    rw [gL] at ho; cases ho
  have old₁ : ∀ b o, s₂.heap.get? b = some o → h₁.get? b = some o := fun b o e => by
    have hb : b ≠ L := fun q => by rw [q, gL] at e; cases e
    exact hsb₁.extBut b o hb (Heap.get?_push_of_some _ (hH ▸ Heap.get?_push_of_some _ e))
  have hacc : h₁.PlainList D (List.toArray []) := ⟨0, hsb₁.extBut D _ (Ne.symm hLD) (Heap.get?_push_of_some _ (by rw [← hH, ← hD]; exact Heap.get?_push_size _ rfl))⟩
  have XF : FrmOk B ⟨csc', false⟩ fc := {
    scope := by show relabel csc F.env = _; rw [relabel_eq, X.scope]
    fn := C.fn
    globals := X.globals
    builtins := X.builtins
    ownL := rfl
    ownNew := fun b hb => by cases hb; exact h0hid L (.inr (.inr rfl))
    full := fun h => by cases h
    apart := fun x y a hx hy => X.apart x y a (hcl1 _ _ hx) (hcl1 _ _ hy)
    cex := fun x hx => by
      obtain ⟨h1, h2⟩ := lookup_rel_cell C.nocell hx
      obtain ⟨a, ha⟩ := X.cex x h2
      exact ⟨a, (hcl2 _ h1 rfl).trans ha⟩ }
  have mkFc : ∀ (s' : Shared) (σ' : Sto), Post B F s σ s' ρ σ' → (∃ m, s'.heap.Ns L m) → σ' L = none → Ok B fc s' (capt ρ csc') σ' := fun s' σ' P ⟨m, hm⟩ hσ => by
    refine ⟨P.o.s, ⟨m, hm, fun x d hk e => ?_⟩, fun x a hk ha => ?_, fun b hb => ?_⟩
    · rw [XF.kindOf] at hk
      unfold capt at e
      rw [hk] at e; simp at e
    · rw [XF.kindOf] at hk
      obtain ⟨h1, h2⟩ := lookup_rel_cell C.nocell hk
      obtain ⟨v, hc, hr⟩ := P.o.cl x a (by rw [X.kindOf, h2]) (hcl1 _ _ ha)
      refine ⟨v, hc, fun d e => hr d ?_⟩
      unfold capt at e
      rw [if_pos hk] at e; exact e
    · cases hb
      exact ⟨hσ, nt_ns hm⟩
  have P₁₂ : Post B F s σ { s₂ with heap := h₁, toks := s₂.toks + 0 } ρ σ₁ := P₂.trans ((PostS.keeps (tk := s₂.toks + 0) P₂.o.s old₁).frame X P₂.o)
  have free0 : ∀ b, hid b → σ₁ b = none := by
    rintro b (h | h | h)
    · exact (hfp' b h).2
    · rw [h]; exact P₂.o.s.none_of gD
    · rw [h]; exact P₂.o.s.none_of gL
  have run : ∀ s' : Shared, s' = { s₂ with heap := h₁, toks := s₂.toks + 0 } → codeAny (Md B) A (.compLoop (.ListComp elt [⟨target, citer, ifs, 0⟩] csc cpos) 0 it (.ref D) (compEnvC csc cl L F.env)) (RR (.ref D) L) s' := by
    rintro s' rfl
    refine codeAny_compLoop_go (fun m s' => ∃ k out σ', m = S.n - k ∧ k ≤ S.n ∧ out.length ≤ k ∧ Post B F s σ s' ρ σ' ∧ St k s'.heap ∧ (∃ m, s'.heap.Ns L m) ∧ (∃ vs, s'.heap.PlainList D (List.toArray vs) ∧ RepL s'.heap out vs) ∧ (∀ b, hid b → σ' b = none) ∧ I k out σ') ?_ S.n
      ⟨0, [], σ₁, rfl, Nat.zero_le _, Nat.le_refl _, P₁₂, T.frame _ _ _ st0 (Mono.of_keeps old₁) (fun b _ o e => old₁ b o e), ⟨_, hns₁⟩, ⟨[], hacc, rfl⟩, free0, i0⟩
    rintro m s₃ ⟨k, out, σ₃, rfl, hk, hlen, P₃, st, ⟨mL, nL⟩, ⟨vs, pl, rl⟩, hfree, i⟩
    -- a step on hidden things keeps what the turn keeps
    have hsub : ∀ {s' s'' : Shared} {σ' σ'' : Sto} {own : Addr → Prop}, Post B F s σ s' ρ σ' → (∀ b, own b → hid b) → (∀ b, own b → ∀ o, s'.heap.get? b = some o → NT o) → Ext own s' σ' s'' σ'' → OkS B s'' σ'' → Post B F s σ s'' ρ σ'' := fun P h hnt x o => ⟨P.x.hid x fun b hb => hhid b (h b hb), Ok.hid X P.o (fun b hb => ap b (h b hb)) hnt x o⟩
    have hboth : ∀ b, fp b → σ₃ b = none ∧ B.h₀.get? b = none := fun b hb => ⟨hfree b (.inl hb), h0hid b (.inl hb)⟩
    have ntAt : ∀ {j : Nat} {h : Heap}, St j h → ∀ b, fp b → ∀ o, h.get? b = some o → NT o := fun sj b hb o e => by
      obtain ⟨o', e', q⟩ := T.nt _ _ sj b hb
      rw [e] at e'; cases e'; exact q
    by_cases hlt : k < S.n
    · refine wpAny_mono (T.next k A s₃ σ₃ hlt (R.mono hN) P₃.o.s (iG _ _ _ i) hboth st) (fun r s₄ ⟨v, hv, h₄⟩ => ?_) fun _ _ f => f.elim
      subst hv
      refine wpAny_mono h₄ (fun _ s₅ ⟨x₅, o₅, st₅, r₅⟩ => ?_) fun _ _ f => f.elim
      have P₅ := hsub P₃ (fun b hb => .inl hb) (ntAt st) x₅ o₅
      have M₅ := x₅.mono P₃.o.s (ntAt st)
      have free₅ : ∀ b, hid b → S.nx k σ₃ b = none := by
        rintro b (h | h | h)
        · exact T.nxfp _ _ _ h (hfree b (.inl h))
        · rw [h]; obtain ⟨nn, e⟩ := pl; exact (x₅.keep D _ hfpD (hfree D (.inr (.inl rfl))) e).1
        · rw [h]; obtain ⟨o, es, ep, e, _⟩ := nL; exact (x₅.keep L o hfpL (hfree L (.inr (.inr rfl))) e).1
      have nL₅ : s₅.heap.Ns L mL := nL.at' fun o e => (x₅.keep L o hfpL (hfree L (.inr (.inr rfl))) e).2
      have pl₅ : s₅.heap.PlainList D (List.toArray vs) := pl.at fun o e => (x₅.keep D o hfpD (hfree D (.inr (.inl rfl))) e).2
      have O₅ := mkFc s₅ _ P₅ ⟨mL, nL₅⟩ (free₅ L (.inr (.inr rfl)))
      refine wpAny_mono ((turn k out σ₃ hlt i).run A fc s₅ v R XF O₅ r₅) (fun _ s₆ hp => hp.k fun ρ₆ σ₆ P₆ h₆ => ?_) fun _ _ f => f.elim
      refine wpAny_mono (wpAny_ifs h₆ R XF P₆.o) (fun ok s₇ hp => hp.k fun σ₇ P₇ h₇ => ?_) fun _ _ f => f.elim
      have P₆₇ := P₆.trans P₇
      have ntL : ∀ b, b = L → ∀ o, s₅.heap.get? b = some o → NT o := fun b hb o e => by rw [hb] at e; obtain ⟨o', h1, h2⟩ := nt_ns nL₅; rw [e] at h1; cases h1; exact h2
      have P₇S := hsub P₅ (fun b hb => .inr (.inr hb)) ntL P₆₇.x P₇.o.s
      have M₇ := P₆₇.mono O₅
      have kept : ∀ {s' : Shared} {σ' : Sto} {ρ' : Loc}, Post B fc s₅ (S.nx k σ₃) s' ρ' σ' → (∀ b, hid b → σ' b = none) ∧ St (k + 1) s'.heap ∧ (∃ m, s'.heap.Ns L m) ∧ s'.heap.PlainList D (List.toArray vs) := fun P => by
        have hh : ∀ b, (fp b ∨ b = D) → ∀ o, s₅.heap.get? b = some o → _ := fun b hb o e => P.x.keep b o (by intro q; have q : b = L := q; rw [q] at hb; rcases hb with h | h; exact hfpL h; exact hLD h) (free₅ b (by rcases hb with h | h; exact .inl h; exact .inr (.inl h))) e
        refine ⟨?_, T.frame _ _ _ st₅ (P.mono O₅) fun b hb o e => (hh b (.inl hb) o e).2, let ⟨m, hm, _⟩ := P.o.ns; ⟨m, hm⟩, pl₅.at fun o e => (hh D (.inr rfl) o e).2⟩
        rintro b (h | h | h)
        · obtain ⟨o, e, _⟩ := T.nt _ _ st₅ b h; exact (hh b (.inl h) o e).1
        · rw [h]; obtain ⟨nn, e⟩ := pl₅; exact (hh D (.inr rfl) _ e).1
        · exact (P.o.own b h).1
      cases ok with
      | false =>
        simp only [Bool.false_eq_true, if_false]
        obtain ⟨k1, k2, k3, k4⟩ := kept P₆₇
        exact ⟨S.n - (k + 1), by omega, k + 1, out, σ₇, rfl, hlt, by omega, P₇S, k2, k3, ⟨vs, k4, (rl.mono M₅).mono M₇⟩, k1, h₇.2 rfl⟩
      | true =>
        simp only [if_true]
        refine wpAny_mono ((h₇.1 rfl).run A fc s₇ R XF P₇.o) (fun u s₈ hp => hp.k fun d σ₈ P₈ r₈ h₈ => ?_) fun _ _ f => f.elim
        have P₆₈ := P₆₇.trans P₈
        have P₈S := hsub P₅ (fun b hb => .inr (.inr hb)) ntL P₆₈.x P₈.o.s
        have M₈ := P₆₈.mono O₅
        obtain ⟨k1, k2, k3, k4⟩ := kept P₆₈
        have rl₈ := (rl.mono M₅).mono M₈
        have hvl := rl.length
        refine wpAny_list_append_plain k4 (fun h' hl' hs' => ?_) (by rw [List.size_toArray, sizeLine_eq]; omega)
        have x₉ : Ext (fun b => b = D) s₈ σ₈ { s₈ with heap := h' } σ₈ := ⟨⟨h', s₈.toks, rfl⟩, fun b o hb hn e => ⟨hn, hs'.extBut b o hb e⟩, fun _ h => h⟩
        have ntD : ∀ b, b = D → ∀ o, s₈.heap.get? b = some o → NT o := fun b hb o e => by rw [hb] at e; obtain ⟨nn, e'⟩ := k4; rw [e] at e'; cases e'; exact NT.cls rfl (by decide) (by decide)
        have M₉ := x₉.mono P₈.o.s ntD
        have o₉ : OkS B { s₈ with heap := h' } σ₈ := ⟨fun b o e => hs'.extBut b o (by rintro rfl; rw [h0hid b (.inr (.inl rfl))] at e; cases e) (P₈.o.s.keep b o e),
          fun b c e => (P₈.o.s.cell b c e).mono (fun o => hs'.extBut b o (by rintro rfl; rw [k1 b (.inr (.inl rfl))] at e; cases e)) M₉, P₈.o.s.fresh, P₈.o.s.tk⟩
        refine ⟨S.n - (k + 1), by omega, k + 1, out ++ [d], σ₈, rfl, hlt, by rw [List.length_append, List.length_singleton]; omega, hsub P₈S (fun b hb => .inr (.inl hb)) ntD x₉ o₉, T.frame _ _ _ k2 M₉ (fun b hb o e => hs'.extBut b o (by rintro rfl; exact hfpD hb) e), ?_, ?_, k1, h₈⟩
        · obtain ⟨m, hm⟩ := k3; exact ⟨m, hm.sameBut hs' hLD⟩
        · exact ⟨vs ++ [u], by simpa using hl', (rl₈.mono M₉).append (RepL.one (r₈.mono M₉))⟩
    · have hkn : k = S.n := by omega
      subst hkn
      refine wpAny_mono (T.done A s₃ σ₃ (R.mono hN) P₃.o.s (iG _ _ _ i) hboth st) (fun r s₄ ⟨hv, x₄, o₄⟩ => ?_) fun _ _ f => f.elim
      subst hv
      have P₄ := hsub P₃ (fun b hb => .inl hb) (ntAt st) x₄ o₄
      have M₄ := x₄.mono P₃.o.s (ntAt st)
      refine hRR D L s₄ σ₃ out P₄ fD fL hLD ?_ ?_ ⟨vs, pl.at fun o e => (x₄.keep D o hfpD (hfree D (.inr (.inl rfl))) e).2, rl.mono M₄⟩ ⟨mL, nL.at' fun o e => (x₄.keep L o hfpL (hfree L (.inr (.inr rfl))) e).2⟩ i
      · obtain ⟨o, es, ep, e, _⟩ := nL; exact (x₄.keep L o hfpL (hfree L (.inr (.inr rfl))) e).1
      · obtain ⟨nn, e⟩ := pl; exact (x₄.keep D _ hfpD (hfree D (.inr (.inl rfl))) e).1
  exact codeAny_compStart_list (run _ rfl) (T.self 0 A _ σ₁ _ _ R.1 P₁₂.o.s (iG _ _ _ i0) (T.frame _ _ _ st0 (Mono.of_keeps old₁) fun b _ o e => old₁ b o e) (run _ rfl))
end
end

section
section
variable {B : Bs} {sc : Sc} {N : Nat} {ρ : Loc} {σ : Sto} {F : Frm} {A : Around} {s : Shared}

theorem Post.addCell {s' : Shared} {ρ' : Loc} {σ' : Sto} {D : Addr} {c : Cell} (O : Ok B F s ρ σ) (P : Post B F s σ s' ρ' σ') (hD : s.heap.get? D = none) (hσ : σ' D = none) (hc : CellAt B s'.heap D c) : Post B F s σ s' ρ' (σ'.set D c) := by
  obtain ⟨⟨same, kp, al⟩, O'⟩ := P
  refine ⟨⟨same, fun b o hb hn e => ?_, fun b h => Sto.set_alive b (al b h)⟩, ⟨⟨O'.s.keep, fun b x e => ?_, fun b x e => ?_, O'.s.tk⟩, O'.ns, O'.cl, fun b hb => ?_⟩⟩
  · obtain ⟨h1, h2⟩ := kp b o hb hn e
    exact ⟨by rw [Sto.set_ne _ c (by rintro rfl; rw [hD] at e; cases e)]; exact h1, h2⟩
  · by_cases q : b = D
    · subst q; rw [Sto.set_self] at e; cases e; exact hc
    · rw [Sto.set_ne _ c q] at e; exact O'.s.cell b x e
  · by_cases q : b = D
    · subst q
      cases hb : B.h₀.get? b with
      | none => rfl
      | some o => have := O.s.keep _ _ hb; rw [hD] at this; cases this
    · rw [Sto.set_ne _ c q] at e; exact O'.s.fresh b x e
  · obtain ⟨h1, o, h2, h3⟩ := O'.own b hb
    refine ⟨?_, o, h2, h3⟩
    rw [Sto.set_ne _ c (by rintro rfl; obtain ⟨_, o', h4, _⟩ := O.own b hb; rw [hD] at h4; cases h4)]; exact h1

/-- what a comprehension asks of its source and its turns -/
noncomputable def CompTurns (B : Bs) (sc : Sc) (N : Nat) (target elt : Expr) (ifs : List Expr) (csc : Scope) (ρ : Loc) (S : Src) (σ₁ : Sto) (K : List V → Sto → Prop) : Prop :=
  S.n ≤ 1000 ∧ ∃ I : Nat → List V → Sto → Prop, I 0 [] σ₁ ∧ (∀ k out σ', I k out σ' → S.G k σ') ∧
    (∀ k out σ', k < S.n → I k out σ' → WA B ⟨relS csc sc.scope, false⟩ N target (S.item k) (capt ρ (relS csc sc.scope)) (S.nx k σ') fun ρ₃ σ₃ => WIf B ⟨relS csc sc.scope, false⟩ N ifs ρ₃ σ₃ fun b σ₄ =>
      (b = true → WE B ⟨relS csc sc.scope, false⟩ N elt ρ₃ σ₄ fun d σ₅ => I (k + 1) (out ++ [d]) σ₅) ∧ (b = false → I (k + 1) out σ₄)) ∧
    (∀ out σ', I S.n out σ' → K out (S.dn σ'))

theorem comp_run {elt target citer : Expr} {ifs : List Expr} {csc : Scope} {cpos : Pos} {K : List V → Sto → Prop} {use : Option (Value → Sem Unit)} {Q' : Value → Shared → Prop}
    (X : FrmOk B sc F) (R : Room A N) (hN : 1 ≤ N) (O : Ok B F s ρ σ) (C : CompOk csc sc.scope) (hs : ∀ env x, foldedSetIterable citer env x = pure x)
    (h : WIt B sc N target citer ρ σ fun S σ₁ => CompTurns B sc N target elt ifs csc ρ S σ₁ K)
    (fin : ∀ D L s' σ' out m, Post B F s σ s' ρ σ' → L ≠ D → σ' L = none → ¬ F.own L → (∃ v, Rep s'.heap (.ref D) v) → σ' D = some (.list out) → s'.heap.Ns L m → K out (fun b => if b = D then none else σ' b) →
      (∀ s₁ ρ₁ σ₁ h', Post B F s' σ' s₁ ρ₁ σ₁ → (∃ m, s₁.heap.Ns L m) ∧ (Heap.SameBut L s₁.heap h' → Post B F s σ { s₁ with heap := h' } ρ₁ σ₁)) → compPost (Md B) A NoE use Q' (.ref D) L (.ok .next) s') :
    wpAny (Md B) A (comprehension (.ListComp elt [⟨target, citer, ifs, 0⟩] csc cpos) csc F.env (firstIterPos [⟨target, citer, ifs, 0⟩] cpos) (newList []) false (eval citer F.env) use) Q' NoE s := by
  obtain ⟨cl, hclos, hcl1, hcl2⟩ := closureFor_ok (env := F.env) (csc := csc) fun x hx hf => X.cex _ (C.free x hx hf)
  refine wpAny_comprehension_free rfl (hs _) hclos C.fn C.names (wpAny_mono (h.run A F s R X O) (fun v s₁ h₁ => wpAny_mono h₁ (fun it s₂ hp => hp.k fun S σ₁ fp St T P₂ hfp st0 q => u2 q fun hn q => q.elim fun I q => u4 q fun i0 iG turn fin' => ?_) fun _ _ f => f) fun _ _ f => f)
  refine comp_core (RR := fun acc L => compPost (Md B) A NoE use Q' acc L) X R hN O T P₂ hfp st0 C hcl1 hcl2 hn I i0 iG turn ?_
  intro D L s' σ' out P hD hL hLD hσL hσD q hm i
  refine q.elim fun vs q => hm.elim fun m hm => ?_
  have pl := q.1
  have rl := q.2
  have PC := Post.addCell O P hD hσD (c := .list out) ⟨vs, pl, rl⟩
  have hσL' : ((S.dn σ').set D (.list out)) L = none := by rw [Sto.set_ne _ _ hLD]; exact hσL
  have hown : ¬ F.own L := fun q => by obtain ⟨_, o, ho, _⟩ := O.own L q; rw [hL] at ho; cases ho
  refine fin D L s' _ out m PC hLD hσL' hown ⟨_, rfl⟩ (Sto.set_self _ _ _) hm ?_ fun s₃ ρ₃ σ₃ h' P₃ => ?_
  · have e : (fun b => if b = D then none else ((S.dn σ').set D (.list out)) b) = S.dn σ' := by
      funext b
      by_cases q : b = D
      · subst q; simp [hσD]
      · simp [q, Sto.set_ne]
    rw [e]; exact fin' out σ' i
  · obtain ⟨o, es, ep, e, r⟩ := hm
    obtain ⟨k1, k2⟩ := P₃.x.keep L o hown hσL' e
    have hm₃ : s₃.heap.Ns L m := ⟨o, es, ep, k2, r⟩
    refine ⟨⟨m, hm₃⟩, fun hsb => ?_⟩
    -- the frame's own namespace and cells are not L
    have x : Ext (fun b => b = L) s₃ σ₃ { s₃ with heap := h' } σ₃ := ⟨⟨h', s₃.toks, rfl⟩, fun b o hb hn e' => ⟨hn, hsb.extBut b o hb e'⟩, fun _ h => h⟩
    have hnt : ∀ b, b = L → ∀ o, s₃.heap.get? b = some o → NT o := fun b hb o e' => by rw [hb] at e'; obtain ⟨o', h1, h2⟩ := nt_ns hm₃; rw [e'] at h1; cases h1; exact h2
    have M := x.mono P₃.o.s hnt
    have ap := ApartF.of (fp := fun b => b = L) X O (fun b hb => by cases hb; exact hL)
    have O' : OkS B { s₃ with heap := h' } σ₃ := ⟨fun b o e' => hsb.extBut b o (fun q => by rw [q, (ap L rfl).2.1] at e'; cases e') (P₃.o.s.keep b o e'), fun b c e' => (P₃.o.s.cell b c e').mono (fun o => hsb.extBut b o (fun q => by rw [q, k1] at e'; cases e')) M, P₃.o.s.fresh, P₃.o.s.tk⟩
    refine ⟨Ext.hid (PC.x.trans P₃.x) x fun b hb => by cases hb; exact hL, Ok.hid (s := s₃) (s' := { s₃ with heap := h' }) X P₃.o ap hnt x O'⟩

theorem WE.comp {elt target citer : Expr} {ifs : List Expr} {csc : Scope} {cpos : Pos} {Q : V → Sto → Prop}
    (h : WIt B sc N target citer ρ σ fun S σ₁ => CompTurns B sc N target elt ifs csc ρ S σ₁ fun out σ' => ∀ a, σ' a = Option.none → Q (.ref a) (σ'.set a (.list out)))
    (C : compOkB csc sc.scope = true) (hs : ∀ env x, foldedSetIterable citer env x = pure x) (hN : 1 ≤ N) : WE B sc N (.ListComp elt [⟨target, citer, ifs, 0⟩] csc cpos) ρ σ Q := .mk fun A F s R X O => by
  rw [eval_ListComp]
  refine comp_run (use := Option.none) X R hN O (CompOk.of C) hs h fun D L s' σ' out m P hLD hσL hown _ hσD hm k hc => ?_
  obtain ⟨⟨m₁, hm₁⟩, fin⟩ := hc s' ρ σ' s'.heap (.refl P.o)
  refine ⟨m₁, hm₁, fun h' hs' => ?_⟩
  have P' := ((hc s' ρ σ' h' (.refl P.o)).2 hs')
  refine ⟨.ref D, σ', P', rfl, ?_⟩
  have e : σ' = Sto.set (fun b => if b = D then Option.none else σ' b) D (.list out) := by
    funext b
    by_cases q : b = D
    · subst q; rw [Sto.set_self, hσD]
    · rw [Sto.set_ne _ _ q]; simp [q]
  rw [e]; exact k D (by simp)

theorem WX.asgComp {elt target citer : Expr} {ifs : List Expr} {csc : Scope} {cpos pos py : Pos} {y : Str} {Q : Fl → Loc → Sto → Prop}
    (h : WIt B sc N target citer ρ σ fun S σ₁ => CompTurns B sc N target elt ifs csc ρ S σ₁ fun out σ' => ∀ a, σ' a = none → WN B sc y (.ref a) ρ (σ'.set a (.list out)) (Q .next))
    (C : compOkB csc sc.scope = true) (hs : ∀ env x, foldedSetIterable citer env x = pure x) (hN : 1 ≤ N)
    (hsw : ∀ env, env.scope = sc.scope → swapsWith (.ListComp elt [⟨target, citer, ifs, 0⟩] csc cpos) (some (.Name y py)) pos.line env = pure true) :
    WX B sc N (.Assign [.Name y py] (.ListComp elt [⟨target, citer, ifs, 0⟩] csc cpos) pos) ρ σ Q := .mk fun A F s R X O => by
  rw [exec_Assign_Name_used _ _ _ _ (hsw _ X.scope)]
  refine wpAny_bind (wpAny_standAt (wpAny_bind ?_))
  show wpAny _ A (do let _ ← comprehension (.ListComp elt [⟨target, citer, ifs, 0⟩] csc cpos) csc F.env _ (newList []) false (eval citer F.env) (some (assign (.Name y py) F.env))) _ _ s
  refine wpAny_bind (wpAny_mono (comp_run (use := some (assign (.Name y py) F.env)) (Q' := fun _ => PA B F s σ (Q .next)) X R hN O (CompOk.of C) hs h fun D L s' σ' out m P hLD hσL hown _ hσD hm k hc => ?_) (fun _ s' hp => hp.k fun ρ' σ' P q => wpAny_pure (wpAny_pure ⟨.next, ρ', σ', P, rfl, q⟩)) fun _ _ f => f)
  have e : σ' = Sto.set (fun b => if b = D then none else σ' b) D (.list out) := by
    funext b
    by_cases q : b = D
    · subst q; rw [Sto.set_self, hσD]
    · rw [Sto.set_ne _ _ q]; simp [q]
  have w := k D (by simp)
  rw [← e] at w
  show wpAny _ A (assign (.Name y py) F.env (.ref D)) _ _ _
  refine wpAny_assign_Name (wpAny_mono (w.run A F s' (.ref D) X P.o rfl) (fun _ s₁ hp => hp.k fun ρ₁ σ₁ P₁ q => ?_) fun _ _ f => f)
  obtain ⟨⟨m₁, hm₁⟩, _⟩ := hc s₁ ρ₁ σ₁ s₁.heap P₁
  exact ⟨m₁, hm₁, fun h' hs' => ⟨ρ₁, σ₁, (hc s₁ ρ₁ σ₁ h' P₁).2 hs', q⟩⟩
end
end

section
section
variable {B : Bs} {sc : Sc} {N : Nat} {ρ : Loc} {σ : Sto} {F : Frm} {A : Around} {s : Shared}

theorem OkS.but {h' : Heap} {tk : Nat} {a : Addr} (O : OkS B s σ) (hs : Heap.ExtBut a s.heap h') (hσ : σ a = none) (h0 : B.h₀.get? a = none) (hnt : ∀ o, s.heap.get? a = some o → NT o) (ht : 1 ≤ s.toks → 1 ≤ tk := by lia) : OkS B { s with heap := h', toks := tk } σ := by
  have M : Mono s.heap h' := fun b o hi e => hs b o (by rintro rfl; exact hnt o e hi) e
  exact ⟨fun b o e => hs b o (by rintro rfl; rw [h0] at e; cases e) (O.keep b o e), fun b c e => (O.cell b c e).mono (fun o => hs b o (by rintro rfl; rw [hσ] at e; cases e)) M, O.fresh, ht O.tk⟩
theorem Ext.one {a : Addr} {h' : Heap} {tk : Nat} (hs : Heap.ExtBut a s.heap h') : Ext (fun b => b = a) s σ { s with heap := h', toks := tk } σ := ⟨⟨h', tk, rfl⟩, fun b o hb hn e => ⟨hn, hs b o hb e⟩, fun _ h => h⟩
theorem Ext.one' {own : Addr → Prop} (x : Ext no s σ s σ) : Ext own s σ s σ := .refl

/-- the raise that ends an iterator -/
theorem stop_raise {α : Type} {M : Model} {A : Around} {s : Shared} {Q : α → Shared → Prop} {E : Value → Shared → Prop} (hh : A.handled = none)
    (h : ∀ h' e, (∀ b o, s.heap.get? b = some o → h'.get? b = some o) → (∃ o, h'.get? e = some o ∧ o.cls = .type "StopIteration") → E (.ref e) { s with heap := h' }) :
    wpAny M A (newExc (.type "StopIteration") [] >>= fun e => (raiseNew e : Sem α)) Q E s := by
  refine wpAny_bind ?_
  simp only [newExc, newTuple]
  refine wpAny_bind (wpAny_newObj_type ?_ (by size_fits))
  refine wpAny_bind (m := firstArgMember _ _) (wpAny_of_eq (a := Value.none) (by first | rfl | (simp only [firstArgMember]; rfl)) ?_)
  refine wpAny_newObj_type ?_ (by size_fits)
  exact wpAny_raiseNew_none hh (h _ _ (fun b o e => Heap.get?_push_of_some _ (Heap.get?_push_of_some _ e)) ⟨_, Heap.get?_push_size _ rfl, rfl⟩)
theorem letGo_key {p₀ : Pos} {I : Addr} {v : Value} {o : Obj} {n : String} {Q : Unit → Shared → Prop} {M : Model} {E : Value → Shared → Prop} (ho : s.heap.get? I = some o) (hc : o.cls = .type n)
    (hn : ["enumerate", "zip", "dict_itemiterator", "dict_reverseitemiterator", "odict_iterator", "itertools.zip_longest", "itertools.pairwise"].contains n = false) (h : wpAny M A (pure ()) Q E s) : wpAny M A (letOwnedTupleGo (.Tuple [] 0 p₀) (.ref I) v) Q E s := by
  cases v
  case ref a =>
    obtain ⟨cls, dict, data, slots⟩ := o
    cases hc
    refine wpAny_bind (m := load I) (wpAny_load ho ?_)
    cases data
    case fields vs =>
      show wpAny M A (if (List.contains _ n && _) = true then _ else _) Q E s
      rw [hn]
      exact h
    all_goals exact h
  all_goals exact h
theorem letGo_plain {target : Expr} {I : Addr} {v : Value} {o : Obj} {n : String} {Q : Unit → Shared → Prop} {M : Model} {E : Value → Shared → Prop} (ho : s.heap.get? I = some o) (hc : o.cls = .type n)
    (hn : ["enumerate", "zip", "dict_itemiterator", "dict_reverseitemiterator", "odict_iterator", "itertools.zip_longest", "itertools.pairwise"].contains n = false) (h : Q () s) : wpAny M A (letOwnedTupleGo target (.ref I) v) Q E s := by
  have h := wpAny_pure (M := M) (A := A) (E := E) h
  have key := fun p₀ => letGo_key (p₀ := p₀) (v := v) ho hc hn h
  cases target
  case Tuple => exact key ‹_›
  case List => exact key ‹_›
  all_goals exact h

/-- a source that leaves the store alone -/
noncomputable abbrev srcOf (n : Nat) (item : Nat → V) (G : Nat → Sto → Prop) : Src := ⟨n, item, G, fun _ σ => σ, fun σ => σ⟩
noncomputable def plainIt (c : String) : Bool := c != "tuple" && c != "range" && !["enumerate", "zip", "dict_itemiterator", "dict_reverseitemiterator", "odict_iterator", "itertools.zip_longest", "itertools.pairwise"].contains c
theorem plainIt.nt {c : String} (h : plainIt c = true) {o : Obj} (e : o.cls = .type c) : NT o := by
  unfold plainIt at h
  simp only [Bool.and_eq_true, bne_iff_ne] at h
  exact NT.cls e h.1.1 h.1.2
theorem plainIt.go {c : String} (h : plainIt c = true) : ["enumerate", "zip", "dict_itemiterator", "dict_reverseitemiterator", "odict_iterator", "itertools.zip_longest", "itertools.pairwise"].contains c = false := by
  unfold plainIt at h
  simp only [Bool.and_eq_true, Bool.not_eq_true'] at h
  exact h.2

theorem GetIter.list {tgt : Expr} {a : Addr} {xs : List V} (h : σ a = some (.list xs)) : GetIter B tgt (.ref a) σ (srcOf xs.length (fun k => xs.getD k .none) (fun _ σ' => σ' a = some (.list xs))) := fun A s v R O r => by
  cases r
  obtain ⟨vs, pl, rl⟩ := O.cell a _ h
  refine wpAny_pyIter_list pl.isList ?_
  have hn := new_none s.heap
  refine ⟨fun b => b = s.heap.objs.size, fun k h => h.IsListIter s.heap.objs.size a k, ?_, PostS.push (tk := s.toks) O, fun b hb => by cases hb; exact hn, ⟨_, Heap.get?_push_size _ rfl, rfl, rfl⟩⟩
  generalize s.heap.objs.size = I
  have nt : ∀ {k : Nat} {h : Heap}, h.IsListIter I a k → ∃ o, h.get? I = some o ∧ NT o := fun ⟨o, ho, hc, _⟩ => ⟨o, ho, NT.cls hc (by decide) (by decide)⟩
  exact {
    frame := fun k h h' st _ hk => st.at fun o e => hk I rfl o e
    nt := fun k h st b hb => by cases hb; exact nt st
    nxfp := fun _ _ _ _ e => e
    next := fun k A s σ hk R O g hb st => by
      have g : σ a = some (.list xs) := g
      have hk : k < xs.length := hk
      obtain ⟨vs, pl, rl⟩ := O.cell a _ g
      have hd : xs[k]? = some (xs.getD k .none) := by rw [List.getD_eq_getElem?_getD, List.getElem?_eq_getElem hk]; rfl
      obtain ⟨u, hu, ru⟩ := rl.get hd
      refine wpAny_pyNext_list_item st pl.isList (by simpa using hu) fun h' hit' hs' => ?_
      have nt' : ∀ o, s.heap.get? I = some o → NT o := fun o e => by obtain ⟨o', e', q⟩ := nt st; rw [e] at e'; cases e'; exact q
      obtain ⟨o₁, ho₁, hc₁, _⟩ := id hit'
      exact ⟨u, rfl, letGo_plain ho₁ hc₁ (by decide) ⟨Ext.one (tk := s.toks) hs'.extBut, O.but hs'.extBut (hb I rfl).1 (hb I rfl).2 nt', hit', ru.mono fun b o hi e => hs'.extBut b o (by rintro rfl; exact nt' o e hi) e⟩⟩
    done := fun A s σ R O g hb st => by
      have g : σ a = some (.list xs) := g
      obtain ⟨vs, pl, rl⟩ := O.cell a _ g
      have nt' : ∀ o, s.heap.get? I = some o → NT o := fun o e => by obtain ⟨o', e', q⟩ := nt st; rw [e] at e'; cases e'; exact q
      refine wpAny_pyNext_list_end R.1 st pl.isList (by simp [rl.length]) fun h' hs' => ?_
      exact ⟨rfl, Ext.one (tk := s.toks) hs', O.but hs' (hb I rfl).1 (hb I rfl).2 nt'⟩
    self := fun k A s σ Q E _ O g st hq => wpAny_pyIter_listiter st hq }

theorem GetIter.tup {tgt : Expr} {xs : List V} : GetIter B tgt (.tup xs) σ (srcOf xs.length (fun k => xs.getD k .none) (fun _ _ => True)) := fun A s v R O r => by
  obtain ⟨a, vs, rfl, ht, rl⟩ := r
  refine wpAny_pyIter_tuple ht ?_
  have hn := new_none s.heap
  have k₀ : ∀ b o, s.heap.get? b = some o → (s.heap.push { cls := .type "tuple_iterator", data := .fields #[.ref a, .int 0 0] }).get? b = some o := fun b o e => Heap.get?_push_of_some _ e
  refine ⟨fun b => b = s.heap.objs.size, fun k h => h.IsTupleIter s.heap.objs.size a k ∧ h.IsTuple a (List.toArray vs) ∧ RepL h xs vs, ?_, PostS.push (tk := s.toks) O, fun b hb => by cases hb; exact hn, ⟨⟨_, Heap.get?_push_size _ rfl, rfl, rfl⟩, ht.at fun o e => k₀ _ o e, rl.mono (Mono.of_keeps k₀)⟩⟩
  generalize s.heap.objs.size = I
  have nt : ∀ {k : Nat} {h : Heap}, h.IsTupleIter I a k → ∃ o, h.get? I = some o ∧ NT o := fun ⟨o, ho, hc, _⟩ => ⟨o, ho, NT.cls hc (by decide) (by decide)⟩
  have tm : ∀ {h h' : Heap}, h.IsTuple a (List.toArray vs) → Mono h h' → h'.IsTuple a (List.toArray vs) := fun ⟨o, ho, hc, n, hd⟩ M => ⟨o, M a o (.inl ⟨hc, _, _, hd⟩) ho, hc, n, hd⟩
  exact {
    frame := fun k h h' st M hk => ⟨st.1.at fun o e => hk I rfl o e, tm st.2.1 M, st.2.2.mono M⟩
    nt := fun k h st b hb => by cases hb; exact nt st.1
    nxfp := fun _ _ _ _ e => e
    next := fun k A s σ hk R O g hb st => by
      have hk : k < xs.length := hk
      have hd : xs[k]? = some (xs.getD k .none) := by rw [List.getD_eq_getElem?_getD, List.getElem?_eq_getElem hk]; rfl
      obtain ⟨u, hu, ru⟩ := st.2.2.get hd
      have nt' : ∀ o, s.heap.get? I = some o → NT o := fun o e => by obtain ⟨o', e', q⟩ := nt st.1; rw [e] at e'; cases e'; exact q
      refine wpAny_pyNext_tuple_item st.1 st.2.1 (by simpa using hu) fun h' hit' hs' => ?_
      have M : Mono s.heap h' := fun b o hi e => hs'.extBut b o (by rintro rfl; exact nt' o e hi) e
      obtain ⟨o₁, ho₁, hc₁, _⟩ := id hit'
      exact ⟨u, rfl, letGo_plain ho₁ hc₁ (by decide) ⟨Ext.one (tk := s.toks) hs'.extBut, O.but hs'.extBut (hb I rfl).1 (hb I rfl).2 nt', ⟨hit', tm st.2.1 M, st.2.2.mono M⟩, ru.mono M⟩⟩
    done := fun A s σ R O g hb st => by
      have nt' : ∀ o, s.heap.get? I = some o → NT o := fun o e => by obtain ⟨o', e', q⟩ := nt st.1; rw [e] at e'; cases e'; exact q
      refine wpAny_pyNext_tuple_end R.1 st.1 st.2.1 (by simp [st.2.2.length]) fun h' hs' => ?_
      exact ⟨rfl, Ext.one (tk := s.toks) hs', O.but hs' (hb I rfl).1 (hb I rfl).2 nt'⟩
    self := fun k A s σ Q E _ O g st hq => wpAny_pyIter_tupleiter st.1 hq }

/-- an iterator that hangs on nothing but itself -/
theorem Itr.ofSelf {tgt : Expr} {I : Addr} {n : Nat} {P : Nat → Value → Prop} {St : Nat → Heap → Prop} {item : Nat → V} {c : String} (hP : ∀ k v h, P k v → Rep h (item k) v)
    (fr : ∀ k h h', St k h → (∀ o, h.get? I = some o → h'.get? I = some o) → St k h')
    (nx : ∀ (A : Around) k (s : Shared) (Q : Option Value → Shared → Prop) (E : Value → Shared → Prop), A.handled = none → k < n → St k s.heap → (∀ v h', P k v → St (k + 1) h' → Heap.ExtBut I s.heap h' → Q (some v) { s with heap := h', toks := s.toks + 1 }) → wpAny (Md B) A (pyNext (.ref I)) Q E s)
    (dn : ∀ (A : Around) (s : Shared) (Q : Option Value → Shared → Prop) (E : Value → Shared → Prop), A.handled = none → St n s.heap → (∀ h', Heap.ExtBut I s.heap h' → Q none { s with heap := h' }) → wpAny (Md B) A (pyNext (.ref I)) Q E s)
    (sf : ∀ (A : Around) k (s : Shared) (Q : Value → Shared → Prop) (E : Value → Shared → Prop), A.handled = none → St k s.heap → Q (.ref I) s → wpAny (Md B) A (pyIter (.ref I)) Q E s)
    (hc : ∀ k h, St k h → ∃ o, h.get? I = some o ∧ o.cls = .type c) (hp : plainIt c = true) : Itr B tgt (.ref I) (srcOf n item (fun _ _ => True)) (fun b => b = I) St := by
  have ntO : ∀ k h, St k h → ∀ o, h.get? I = some o → NT o := fun k h st o e => by obtain ⟨o', e', q⟩ := hc k h st; rw [e] at e'; cases e'; exact plainIt.nt hp q
  exact {
    frame := fun k h h' st _ hk => fr k h h' st fun o e => hk I rfl o e
    nt := fun k h st b hb => by cases hb; obtain ⟨o, e, q⟩ := hc k h st; exact ⟨o, e, plainIt.nt hp q⟩
    nxfp := fun _ _ _ _ e => e
    next := fun k A s σ hk R O g hb st => nx A k s _ _ R.1 hk st fun v h' hv st' hs => by
      obtain ⟨o₁, ho₁, hc₁⟩ := hc _ _ st'
      exact ⟨v, rfl, letGo_plain ho₁ hc₁ (plainIt.go hp) ⟨Ext.one (tk := s.toks + 1) hs, O.but hs (hb I rfl).1 (hb I rfl).2 (ntO k _ st), st', hP _ _ _ hv⟩⟩
    done := fun A s σ R O g hb st => dn A s _ _ R.1 st fun h' hs => ⟨rfl, Ext.one (tk := s.toks) hs, O.but hs (hb I rfl).1 (hb I rfl).2 (ntO _ _ st)⟩
    self := fun k A s σ Q E hh O g st hq => sf A k s Q E hh st hq }

theorem GetIter.str {tgt : Expr} {x : Str} : GetIter B tgt (.str x) σ (srcOf x.cps.size (fun k => .str ⟨#[x.cps.getD k 0]⟩) (fun _ _ => True)) := fun A s v R O r => by
  obtain ⟨t, rfl⟩ := r
  have hn := new_none s.heap
  have hP : ∀ k v h, SignAt x k v → Rep h (.str ⟨#[x.cps.getD k 0]⟩) v := fun k v h hv => by
    obtain ⟨c, u, hc, rfl⟩ := hv
    refine ⟨u, ?_⟩
    have : x.cps.getD k 0 = c := by rw [Array.getD_eq_getD_getElem?, hc]; rfl
    rw [this]
  cases ha : x.cps.all (· < 128)
  · refine wpAny_pyIter_wide ha ⟨fun b => b = s.heap.objs.size, fun i h => h.IsStrIter s.heap.objs.size "str_iterator" x t i, ?_, PostS.push (tk := s.toks) O, fun b hb => by cases hb; exact hn, ⟨_, Heap.get?_push_size _ rfl, rfl, rfl⟩⟩
    exact Itr.ofSelf (c := "str_iterator") hP (fun _ _ _ ⟨o, ho, r⟩ hk => ⟨o, hk o ho, r⟩)
      (fun A k s Q E hh hk st hQ => wpAny_pyNext_wide_item st (c := x.cps[k]) (by simp [hk]) fun h' hit' hs' => hQ _ h' ⟨_, _, by simp [hk], rfl⟩ hit' hs'.extBut)
      (fun A s Q E hh st hQ => wpAny_pyNext_wide_end hh st (by simp) fun h' he' => hQ h' he') (fun A k s Q E hh st hQ => wpAny_pyIter_striter_wide st hQ) (fun k h ⟨o, ho, hc, _⟩ => ⟨o, ho, hc⟩) (by decide)
  · refine wpAny_pyIter_ascii ha ⟨fun b => b = s.heap.objs.size, fun i h => h.IsStrIter s.heap.objs.size "str_ascii_iterator" x t i, ?_, PostS.push (tk := s.toks) O, fun b hb => by cases hb; exact hn, ⟨_, Heap.get?_push_size _ rfl, rfl, rfl⟩⟩
    exact Itr.ofSelf (c := "str_ascii_iterator") hP (fun _ _ _ ⟨o, ho, r⟩ hk => ⟨o, hk o ho, r⟩)
      (fun A k s Q E hh hk st hQ => wpAny_pyNext_ascii_item st (c := x.cps[k]) (by simp [hk]) fun h' hit' hs' => hQ _ h' ⟨_, _, by simp [hk], rfl⟩ hit' hs'.extBut)
      (fun A s Q E hh st hQ => wpAny_pyNext_ascii_end hh st (by simp) fun h' he' => hQ h' he') (fun A k s Q E hh st hQ => wpAny_pyIter_striter_ascii st hQ) (fun k h ⟨o, ho, hc, _⟩ => ⟨o, ho, hc⟩) (by decide)

theorem GetIter.rng {tgt : Expr} {a b c : Int} {n : Nat} (hs : Builtin.Range.small a b c = true) (hn : Builtin.Range.rangeSize a b c = n) : GetIter B tgt (.rng a b c) σ (srcOf n (fun k => .int (a + k * c)) (fun _ _ => True)) := fun A s v R O r => by
  obtain ⟨r', t, u, u', rfl, hr⟩ := r
  have hn' := new_none s.heap
  refine wpAny_pyIter_range hr hs ⟨fun b => b = s.heap.objs.size, fun i h => IsRangeIter h s.heap.objs.size (a + (i : Nat) * c) ((n : Int) - (i : Nat)) c, ?_, PostS.push (tk := s.toks) O, fun b hb => by cases hb; exact hn', ?_⟩
  · refine Itr.ofSelf (P := fun i v => ∃ t, v = .int (a + i * c) t) (c := "range_iterator") (fun k v h ⟨t, e⟩ => ⟨t, e⟩) (fun _ _ _ st hk => hk _ st)
      (fun A k s Q E hh hk st hQ => ?_)
      (fun A s Q E hh st hQ => wpAny_pyNext_range_end hh st (by lia) fun h' he' => hQ h' he') (fun A k s Q E hh st hQ => wpAny_pyIter_rangeiter st hQ) (fun k h e => ⟨_, e, rfl⟩) (by decide)
    refine wpAny_pyNext_range_item st (by lia) fun h' hit' hs' => hQ _ h' ⟨_, rfl⟩ ?_ hs'.extBut
    have e1 : a + ((k + 1 : Nat) : Int) * c = a + (k : Int) * c + c := by push_cast; rw [Int.add_mul, Int.one_mul, Int.add_assoc]
    have e2 : (n : Int) - ((k + 1 : Nat) : Int) = (n : Int) - (k : Int) - 1 := by push_cast; lia
    show IsRangeIter h' _ _ _ _
    rw [e1, e2]; exact hit' 
  · show IsRangeIter _ _ _ _ _
    rw [hn]
    simpa using Heap.get?_push_size _ rfl

theorem range_end {I : Addr} {x left step : Int} {Q : Option Value → Shared → Prop} {A : Around} {E : Value → Shared → Prop} (hh : A.handled = none) (hit : IsRangeIter s.heap I x left step) (hleft : left ≤ 0)
    (hQ : ∀ h', (∀ b o, s.heap.get? b = some o → h'.get? b = some o) → Q none { s with heap := h' }) : wpAny (Md B) A (pyNext (.ref I)) Q E s := by
  have hT : s.TypeIs (.ref I) "range_iterator" := ⟨_, hit, rfl⟩
  unfold pyNext
  refine wpAny_bind (wpAny_attempt (wpAny_callSpecial?_slot (name := Str.ofString "__next__") hT F.slot_range_iterator_next (wpAny_call_entry F.slot_range_iterator_next hT F.entry_range_iterator_next ?_ (F.args_range_iterator_next_1 _))))
  show wpAny _ _ (field (.ref I) 0 >>= _) _ _ s
  refine wpAny_bind (wpAny_field hit rfl (x := rawInt x) rfl (wpAny_bind (wpAny_field hit rfl (x := rawInt left) rfl (wpAny_bind (wpAny_field hit rfl (x := rawInt step) rfl ?_)))))
  show wpAny _ _ (if left ≤ 0 then _ else _) _ _ s
  rw [if_pos hleft]
  refine wpAny_bind (wpAny_rule (wpAny_bind ?_))
  refine stop_raise hh fun h₉ e₉ k₉ q₉ => ?_
  refine wpAny_bind (wpAny_isInstance (T := "StopIteration") (b := true) q₉ isSubtype_stop ?_)
  exact wpAny_pure (hQ _ k₉)
theorem list_end {I l : Addr} {i : Nat} {items} {Q : Option Value → Shared → Prop} {A : Around} {E : Value → Shared → Prop} (hh : A.handled = none) (hit : s.heap.IsListIter I l i) (hl : s.heap.IsList l items) (hx : items[i]? = none)
    (hQ : ∀ h', Heap.ExtBut I s.heap h' → (∃ o, h'.get? I = some o ∧ Sth o) → Q none { s with heap := h' }) : wpAny (Md B) A (pyNext (.ref I)) Q E s := by
  obtain ⟨o, ho, hc, hd⟩ := id hit
  obtain ⟨ol, hol, _, nl, hdl⟩ := hl
  unfold pyNext
  refine wpAny_bind (wpAny_attempt (wpAny_callSpecial?_slot (name := Str.ofString "__next__") hit.typeIs slot_listiter_next (wpAny_call_entry slot_listiter_next hit.typeIs entry_listiter_next ?_ (args_listiter_next _))))
  show wpAny _ _ (field (.ref I) 0 >>= _) _ _ s
  refine wpAny_bind (wpAny_field ho hd (x := .ref l) rfl ?_)
  show wpAny _ _ (if (Value.ref l == Value.none) = true then _ else _) _ _ s
  rw [if_neg (show ¬ ((Value.ref l == Value.none) = true) from Bool.false_ne_true)]
  show wpAny _ _ (field (.ref I) 1 >>= _) _ _ s
  refine wpAny_bind (wpAny_field ho hd (x := .int i 0) rfl ?_)
  show wpAny _ _ (seqItems? (.ref l) >>= _) _ _ s
  refine wpAny_bind (wpAny_seqItems hol hdl ?_)
  simp only [Int.toNat_natCast, hx]
  refine wpAny_bind (wpAny_rule (wpAny_bind (wpAny_setField ho hd (by simp) ?_)))
  refine stop_raise hh fun h₉ e₉ k₉ q₉ => ?_
  refine wpAny_bind (wpAny_isInstance (T := "StopIteration") (b := true) q₉ isSubtype_stop ?_)
  refine wpAny_pure (hQ _ (fun b o hb e => k₉ b o ((Heap.SameBut.update ..).extBut b o hb e)) ⟨Obj.mapFields (·.setIfInBounds 0 .none) o, k₉ _ _ (Heap.get?_update_self _ ho ?_), ?_, ?_⟩)
  · obtain ⟨oc, od, odat, osl⟩ := o; cases hd; rfl
  · obtain ⟨oc, od, odat, osl⟩ := o; cases hd; exact NT.cls hc (by decide) (by decide)
  · obtain ⟨oc, od, odat, osl⟩ := o; cases hd; exact fun v e => by cases e

/-- a list's iterator that lies in the store -/
theorem GetIter.iter {tgt : Expr} {I l : Addr} {k₀ : Nat} {xs : List V} (hne : I ≠ l) (h : σ I = some (.iter l k₀)) (hl : σ l = some (.list xs)) :
    GetIter B tgt (.ref I) σ ⟨xs.length - k₀, fun k => xs.getD (k₀ + k) .none, fun k σ' => σ' I = some (.iter l (k₀ + k)) ∧ σ' l = some (.list xs) ∧ k₀ ≤ xs.length, fun k σ' => σ'.set I (.iter l (k₀ + (k + 1))), fun σ' => σ'.set I .junk⟩ := fun A s v R O r => by
  cases r
  have hr : s.heap.IsListIter I l k₀ := O.cell I _ h
  refine wpAny_pyIter_listiter hr ⟨no, fun _ _ => True, ?_, .refl O, fun b hb => hb.elim, trivial⟩
  exact {
    frame := fun _ _ _ _ _ _ => trivial
    nt := fun _ _ _ b hb => hb.elim
    nxfp := fun _ _ b hb _ => hb.elim
    next := fun k A s σ hk R O g _ _ => by
      obtain ⟨g, g2, hle⟩ : σ I = some (.iter l (k₀ + k)) ∧ σ l = some (.list xs) ∧ k₀ ≤ xs.length := g
      have hk : k < xs.length - k₀ := hk
      have hr : s.heap.IsListIter I l (k₀ + k) := O.cell I _ g
      obtain ⟨vs, pl, rl⟩ := O.cell l _ g2
      have hd : xs[k₀ + k]? = some (xs.getD (k₀ + k) .none) := by rw [List.getD_eq_getElem?_getD, List.getElem?_eq_getElem (by lia)]; rfl
      obtain ⟨u, hu, ru⟩ := rl.get hd
      refine wpAny_pyNext_list_item hr pl.isList (by simpa using hu) fun h' hit' hs' => ?_
      obtain ⟨o₁, ho₁, hc₁, _⟩ := id hit'
      exact ⟨u, rfl, letGo_plain ho₁ hc₁ (by decide) ⟨Ext.upd (tk := s.toks) hs'.extBut g, O.upd hs'.extBut g hit', trivial, ru.mono fun b o hi e => hs'.extBut b o (by rintro rfl; exact O.nt g e hi) e⟩⟩
    done := fun A s σ R O g _ _ => by
      obtain ⟨g, g2, hle⟩ : σ I = some (.iter l (k₀ + (xs.length - k₀))) ∧ σ l = some (.list xs) ∧ k₀ ≤ xs.length := g
      have hr : s.heap.IsListIter I l (k₀ + (xs.length - k₀)) := O.cell I _ g
      obtain ⟨vs, pl, rl⟩ := O.cell l _ g2
      exact list_end R.1 hr pl.isList (by simp [rl.length]; lia) fun h' hs' ho' => ⟨rfl, Ext.upd (tk := s.toks) hs' g, O.upd hs' g ho'⟩
    self := fun k A s σ Q E _ O g st hq => wpAny_pyIter_listiter (O.cell I _ g.1) hq }

/-- a range's iterator that lies in the store -/
theorem GetIter.rit {tgt : Expr} {I : Addr} {x c : Int} {n : Nat} (h : σ I = some (.rit x n c)) :
    GetIter B tgt (.ref I) σ ⟨n, fun k => .int (x + k * c), fun k σ' => σ' I = some (.rit (x + k * c) ((n : Int) - k) c), fun k σ' => σ'.set I (.rit (x + ((k + 1 : Nat) : Int) * c) ((n : Int) - ((k + 1 : Nat) : Int)) c), fun σ' => σ'⟩ := fun A s v R O r => by
  cases r
  have hr : IsRangeIter s.heap I x n c := O.cell I _ h
  refine wpAny_pyIter_rangeiter hr ⟨no, fun _ _ => True, ?_, .refl O, fun b hb => hb.elim, trivial⟩
  exact {
    frame := fun _ _ _ _ _ _ => trivial
    nt := fun _ _ _ b hb => hb.elim
    nxfp := fun _ _ b hb _ => hb.elim
    next := fun k A s σ hk R O g _ _ => by
      have g : σ I = some (.rit (x + k * c) ((n : Int) - k) c) := g
      have hk : k < n := hk
      have hr : IsRangeIter s.heap I (x + k * c) ((n : Int) - k) c := O.cell I _ g
      refine wpAny_pyNext_range_item hr (by lia) fun h' hit' hs' => ?_
      have e1 : x + ((k + 1 : Nat) : Int) * c = x + (k : Int) * c + c := by push_cast; rw [Int.add_mul, Int.one_mul, Int.add_assoc]
      have e2 : (n : Int) - ((k + 1 : Nat) : Int) = (n : Int) - (k : Int) - 1 := by push_cast; lia
      refine ⟨_, rfl, letGo_plain hit' rfl (by decide) ⟨Ext.upd (tk := s.toks + 1) hs'.extBut g, O.upd hs'.extBut g ?_, trivial, _, rfl⟩⟩
      show IsRangeIter h' I _ _ _
      rw [e1, e2]; exact hit'
    done := fun A s σ R O g _ _ => by
      have g : σ I = some (.rit (x + n * c) ((n : Int) - n) c) := g
      have hr : IsRangeIter s.heap I (x + n * c) ((n : Int) - n) c := O.cell I _ g
      exact range_end R.1 hr (by lia) fun h' hk => ⟨rfl, .keeps (tk := s.toks) hk, O.keeps hk⟩
    self := fun k A s σ Q E _ O g st hq => wpAny_pyIter_rangeiter (O.cell I _ g) hq }
end
end

section
open Builtin.Str
section
variable {B : Bs} {sc : Sc} {N : Nat} {ρ : Loc} {σ : Sto} {F : Frm} {A : Around} {s : Shared}

/-! ## ints -/
theorem W2.add_int {i j : Int} {Q : V → Sto → Prop} (h : Q (.int (i + j)) σ) : W2 B N (binaryOp .Add) (.int i) (.int j) σ Q := fun A s v u R O r₁ r₂ => by
  obtain ⟨t, rfl⟩ := r₁; obtain ⟨t', rfl⟩ := r₂
  exact PyProof.Rows.add_int ⟨.int (i + j), σ, .toks O, ⟨_, rfl⟩, h⟩
theorem W2.sub_int {i j : Int} {Q : V → Sto → Prop} (h : Q (.int (i - j)) σ) : W2 B N (binaryOp .Sub) (.int i) (.int j) σ Q := fun A s v u R O r₁ r₂ => by
  obtain ⟨t, rfl⟩ := r₁; obtain ⟨t', rfl⟩ := r₂
  exact PyProof.Rows.sub_int ⟨.int (i - j), σ, .toks O, ⟨_, rfl⟩, h⟩
theorem W2.mul_int {i j : Int} {Q : V → Sto → Prop} (h : Q (.int (i * j)) σ) (ok : IntMulOk i j) : W2 B N (binaryOp .Mult) (.int i) (.int j) σ Q := fun A s v u R O r₁ r₂ => by
  obtain ⟨t, rfl⟩ := r₁; obtain ⟨t', rfl⟩ := r₂
  exact PyProof.Rows.mul_int ⟨.int (i * j), σ, .toks O, ⟨_, rfl⟩, h⟩ ok
theorem W2.mod_int {i j : Int} {Q : V → Sto → Prop} (hj : j ≠ 0) (h : Q (.int (i.fmod j)) σ) : W2 B N (binaryOp .Mod) (.int i) (.int j) σ Q := fun A s v u R O r₁ r₂ => by
  obtain ⟨t, rfl⟩ := r₁; obtain ⟨t', rfl⟩ := r₂
  exact PyProof.Rows.mod_int_or R.1 (fun e => absurd e hj) (fun _ => ⟨.int (i.fmod j), σ, .toks O, ⟨_, rfl⟩, h⟩)
theorem W2.div_int {i j : Int} {Q : V → Sto → Prop} (hj : j ≠ 0) (hp : Builtin.divisionGoesByPylong i j = false) (h : Q (.int (i.fdiv j)) σ) : W2 B N (binaryOp .FloorDiv) (.int i) (.int j) σ Q := fun A s v u R O r₁ r₂ => by
  obtain ⟨t, rfl⟩ := r₁; obtain ⟨t', rfl⟩ := r₂
  exact PyProof.Rows.floordiv_int_or R.1 (fun e => absurd e hj) (fun _ => ⟨.int (i.fdiv j), σ, .toks O, ⟨_, rfl⟩, h⟩) (fun _ => .inl hp)
theorem W2.shr_int {i j : Int} {Q : V → Sto → Prop} (hj : 0 ≤ j) (h : Q (.int (i.fdiv (2 ^ j.toNat))) σ) : W2 B N (binaryOp .RShift) (.int i) (.int j) σ Q := fun A s v u R O r₁ r₂ => by
  obtain ⟨t, rfl⟩ := r₁; obtain ⟨t', rfl⟩ := r₂
  exact PyProof.Rows.rshift_int hj ⟨.int (i.fdiv (2 ^ j.toNat)), σ, .toks O, ⟨_, rfl⟩, h⟩
theorem W1.neg_int {i : Int} {Q : V → Sto → Prop} (h : Q (.int (-i)) σ) : W1 B N (unaryOp .USub) (.int i) σ Q := fun A s v R O r₁ => by
  obtain ⟨t, rfl⟩ := r₁
  exact PyProof.Rows.neg_int ⟨.int (-i), σ, .toks O, ⟨_, rfl⟩, h⟩
theorem W2.iadd_int {i j : Int} {Q : V → Sto → Prop} (h : Q (.int (i + j)) σ) : W2 B N (inplaceOp .Add) (.int i) (.int j) σ Q := fun A s v u R O r₁ r₂ => by
  obtain ⟨t, rfl⟩ := r₁; obtain ⟨t', rfl⟩ := r₂
  exact PyProof.Rows.iadd_int ⟨.int (i + j), σ, .toks O, ⟨_, rfl⟩, h⟩
theorem W2.isub_int {i j : Int} {Q : V → Sto → Prop} (h : Q (.int (i - j)) σ) : W2 B N (inplaceOp .Sub) (.int i) (.int j) σ Q := fun A s v u R O r₁ r₂ => by
  obtain ⟨t, rfl⟩ := r₁; obtain ⟨t', rfl⟩ := r₂
  exact PyProof.Rows.isub_int ⟨.int (i - j), σ, .toks O, ⟨_, rfl⟩, h⟩
theorem W2.eq_int {i j : Int} {Q : V → Sto → Prop} (h : Q (.bool (i == j)) σ) : W2 B N (compareOp .Eq) (.int i) (.int j) σ Q := fun A s v u R O r₁ r₂ => by
  obtain ⟨t, rfl⟩ := r₁; obtain ⟨t', rfl⟩ := r₂
  exact PyProof.Rows.eq_int ⟨.bool (i == j), σ, .refl O, rfl, h⟩
theorem W2.lt_int {i j : Int} {Q : V → Sto → Prop} (h : Q (.bool (decide (i < j))) σ) : W2 B N (compareOp .Lt) (.int i) (.int j) σ Q := fun A s v u R O r₁ r₂ => by
  obtain ⟨t, rfl⟩ := r₁; obtain ⟨t', rfl⟩ := r₂
  exact PyProof.Rows.lt_int ⟨.bool (decide (i < j)), σ, .refl O, rfl, h⟩
theorem W2.gt_int {i j : Int} {Q : V → Sto → Prop} (h : Q (.bool (decide (j < i))) σ) : W2 B N (compareOp .Gt) (.int i) (.int j) σ Q := fun A s v u R O r₁ r₂ => by
  obtain ⟨t, rfl⟩ := r₁; obtain ⟨t', rfl⟩ := r₂
  exact PyProof.Rows.gt_int ⟨.bool (decide (j < i)), σ, .refl O, rfl, h⟩
theorem W2.ge_int {i j : Int} {Q : V → Sto → Prop} (h : Q (.bool (decide (j ≤ i))) σ) : W2 B N (compareOp .GtE) (.int i) (.int j) σ Q := fun A s v u R O r₁ r₂ => by
  obtain ⟨t, rfl⟩ := r₁; obtain ⟨t', rfl⟩ := r₂
  exact PyProof.Rows.ge_int ⟨.bool (decide (j ≤ i)), σ, .refl O, rfl, h⟩

/-! ## strs -/
theorem post_str {x : Str} {m : Made} {Q : V → Sto → Prop} (hm : (∃ t, m = .val (.str x t)) ∨ (m = .str x ∧ x.length ≤ sizeLine)) (O : OkS B s σ) (h : Q (.str x) σ) :
    m.post (PC B s σ Q) s := by
  rcases hm with ⟨t, rfl⟩ | ⟨rfl, hl⟩
  · exact ⟨.str x, σ, .refl O, ⟨t, rfl⟩, h⟩
  · exact ⟨hl, .str x, σ, .toks O, ⟨_, rfl⟩, h⟩
theorem W2.eq_str {x y : Str} {Q : V → Sto → Prop} (h : Q (.bool (x == y)) σ) : W2 B N (compareOp .Eq) (.str x) (.str y) σ Q := fun A s v u R O r₁ r₂ => by
  obtain ⟨t, rfl⟩ := r₁; obtain ⟨t', rfl⟩ := r₂
  exact PyProof.Rows.eq_str ⟨.bool (x == y), σ, .refl O, rfl, h⟩
theorem W2.ne_str {x y : Str} {Q : V → Sto → Prop} (h : Q (.bool (x != y)) σ) : W2 B N (compareOp .NotEq) (.str x) (.str y) σ Q := fun A s v u R O r₁ r₂ => by
  obtain ⟨t, rfl⟩ := r₁; obtain ⟨t', rfl⟩ := r₂
  exact PyProof.Rows.ne_str ⟨.bool (x != y), σ, .refl O, rfl, h⟩
theorem W2.lt_str {x y : Str} {Q : V → Sto → Prop} (h : Q (.bool (decide (x.cps.toList < y.cps.toList))) σ) : W2 B N (compareOp .Lt) (.str x) (.str y) σ Q := fun A s v u R O r₁ r₂ => by
  obtain ⟨t, rfl⟩ := r₁; obtain ⟨t', rfl⟩ := r₂
  exact PyProof.Rows.lt_str ⟨.bool (decide (x.cps.toList < y.cps.toList)), σ, .refl O, rfl, h⟩
theorem W2.in_str {x y : Str} {Q : V → Sto → Prop} (h : Q (.bool (Txt.contains x y)) σ) : W2 B N (compareOp .In) (.str y) (.str x) σ Q := fun A s v u R O r₁ r₂ => by
  obtain ⟨t, rfl⟩ := r₁; obtain ⟨t', rfl⟩ := r₂
  exact PyProof.Rows.in_str ⟨.bool (Txt.contains x y), σ, .refl O, rfl, h⟩
theorem add_made {x y : Str} {t u : Tok} (hl : (x ++ y).length ≤ sizeLine) : (∃ t', (if x.length == 0 then Made.val (.str y u) else if y.length == 0 then Made.val (.str x t) else Made.str (x ++ y)) = .val (.str (x ++ y) t')) ∨ ((if x.length == 0 then Made.val (.str y u) else if y.length == 0 then Made.val (.str x t) else Made.str (x ++ y)) = .str (x ++ y) ∧ (x ++ y).length ≤ sizeLine) := by
  obtain ⟨xs⟩ := x; obtain ⟨ys⟩ := y
  by_cases h1 : xs.size = 0
  · left; refine ⟨u, ?_⟩
    have : xs = #[] := Array.eq_empty_of_size_eq_zero h1
    subst this
    show Made.val _ = Made.val (Value.str ⟨#[] ++ ys⟩ u)
    rw [Array.empty_append]
  · by_cases h2 : ys.size = 0
    · left; refine ⟨t, ?_⟩
      have : ys = #[] := Array.eq_empty_of_size_eq_zero h2
      subst this
      have h1' : (Str.length ⟨xs⟩ == 0) = false := by simpa [Str.length] using h1
      rw [h1']
      show Made.val _ = Made.val (Value.str ⟨xs ++ #[]⟩ t)
      rw [Array.append_empty]
    · right
      have h1' : (Str.length ⟨xs⟩ == 0) = false := by simpa [Str.length] using h1
      have h2' : (Str.length ⟨ys⟩ == 0) = false := by simpa [Str.length] using h2
      rw [h1', h2']; exact ⟨rfl, hl⟩
theorem W2.add_str {x y : Str} {Q : V → Sto → Prop} (h : Q (.str (x ++ y)) σ) (hl : (x ++ y).length ≤ sizeLine) : W2 B N (binaryOp .Add) (.str x) (.str y) σ Q := fun A s v u R O r₁ r₂ => by
  obtain ⟨t, rfl⟩ := r₁; obtain ⟨t', rfl⟩ := r₂
  exact PySem.P.add_str (post_str (add_made hl) O h)
theorem W2.iadd_str {x y : Str} {Q : V → Sto → Prop} (h : Q (.str (x ++ y)) σ) (hl : (x ++ y).length ≤ sizeLine) : W2 B N (inplaceOp .Add) (.str x) (.str y) σ Q := fun A s v u R O r₁ r₂ => by
  obtain ⟨t, rfl⟩ := r₁; obtain ⟨t', rfl⟩ := r₂
  exact PySem.P.iadd_str (post_str (add_made hl) O h)
theorem W2.mul_str {x : Str} {n : Int} {Q : V → Sto → Prop} (h : Q (.str (Txt.mul x n)) σ) (hm : MulOk x n) (hl : (Txt.mul x n).length ≤ sizeLine) : W2 B N (binaryOp .Mult) (.str x) (.int n) σ Q := fun A s v u R O r₁ r₂ => by
  obtain ⟨t, rfl⟩ := r₁; obtain ⟨t', rfl⟩ := r₂
  refine PySem.P.mul_str hm.1 hm.2.1 hm.2.2 (post_str (x := Txt.mul x n) ?_ O h)
  unfold Txt.mul at hl ⊢
  by_cases h1 : n < 1
  · rw [if_pos h1, if_pos h1]; rw [if_pos h1] at hl; exact .inr ⟨rfl, hl⟩
  · rw [if_neg h1, if_neg h1]; rw [if_neg h1] at hl
    by_cases h2 : (n == 1 || x.length == 0) = true
    · rw [if_pos h2, if_pos h2]; exact .inl ⟨_, rfl⟩
    · rw [if_neg h2, if_neg h2]; rw [if_neg h2] at hl; exact .inr ⟨rfl, hl⟩

/-! ## truth -/
theorem WT.str {x : Str} {Q : Bool → Sto → Prop} (h : Q (x.length != 0) σ) (hl : x.length ≤ sizeLine) : WT B N (.str x) σ Q := fun A s v R O r => by
  obtain ⟨t, rfl⟩ := r
  refine PySem.P.truthy_str (by rw [sizeLine_eq] at hl; lia) ⟨σ, .toks O, ?_⟩
  have e : ((x.length : Int) != 0) = (x.length != 0) := by
    rw [Bool.eq_iff_iff]; simp
  rw [e]; exact h
theorem WT.list {a : Addr} {xs : List V} {Q : Bool → Sto → Prop} (hx : σ a = some (.list xs)) (hl : xs.length ≤ sizeLine) (h : Q (!xs.isEmpty) σ) : WT B N (.ref a) σ Q := fun A s v R O r => by
  cases r
  obtain ⟨vs, pl, rl⟩ := O.cell a _ hx
  refine wpAny_truthy_list pl.isList (by rw [List.size_toArray, rl.length]; rw [sizeLine_eq] at hl; lia) ⟨σ, .toks O, ?_⟩
  have e : (!(List.toArray vs).isEmpty) = !xs.isEmpty := by
    have := rl.length
    cases vs <;> cases xs <;> simp_all
  rw [e]; exact h
theorem WT.tup {xs : List V} {Q : Bool → Sto → Prop} (hl : xs.length ≤ sizeLine) (h : Q (!xs.isEmpty) σ) : WT B N (.tup xs) σ Q := fun A s v R O r => by
  obtain ⟨a, vs, rfl, ht, rl⟩ := r
  refine PyProof.Rows.truthy_tuple ht (by rw [List.size_toArray, rl.length]; rw [sizeLine_eq] at hl; lia) ⟨σ, .toks O, ?_⟩
  have e : (!(List.toArray vs).isEmpty) = !xs.isEmpty := by
    have := rl.length
    cases vs <;> cases xs <;> simp_all
  rw [e]; exact h
end
end

section
open Builtin.Str
section
variable {B : Bs} {sc : Sc} {N : Nat} {ρ : Loc} {σ : Sto} {F : Frm} {A : Around} {s : Shared}

/-! ## lists -/
theorem setItem_plain {l : Addr} {items : Array Value} {k : Int} {t : Tok} {v : Value} {Q : Unit → Shared → Prop} {E : Value → Shared → Prop} (hl : s.heap.PlainList l items) (h0 : 0 ≤ k) (hfit : k < 2 ^ 63) (hn : k < items.size)
    (hQ : ∀ h', h'.PlainList l (items.setIfInBounds k.toNat v) → Heap.SameBut l s.heap h' → Q () { s with heap := h' }) : wpAny (Md B) A (setItem (.ref l) (.int k t) v) Q E s := by
  obtain ⟨n, ho⟩ := id hl
  have hI := hl.isList
  unfold setItem
  try with_reducible refine wpAny_holding ?_
  first | refine wpAny_bind (wpAny_pure ?_) | skip
  refine wpAny_bind (wpAny_sequenceKey hI.typeIs (by decide) ?_)
  refine wpAny_bind (wpAny_callSpecial?_slot (name := Str.ofString "__setitem__") hI.typeIs slot_list_setitem (wpAny_call_entry slot_list_setitem hI.typeIs entry_list_setitem ?_ (args_list_setitem _ _ _)))
  show wpAny _ _ (Builtin.List.listSubscript? (.int k t) >>= _) _ _ s
  refine wpAny_bind (wpAny_listSubscript_int (fitsIndex_of h0 hfit) ?_)
  clear hfit
  obtain ⟨j, rfl⟩ := Int.eq_ofNat_of_zero_le h0
  have hj : j < items.size := by lia
  have hx' : items[j]? = some items[j] := Array.getElem?_eq_getElem hj
  show wpAny _ _ ((seqItemAt l j >>= fun r => pure (r.map (j, ·))) >>= _) _ _ s
  refine wpAny_bind (wpAny_bind (wpAny_seqItemAt ho rfl (wpAny_pure ?_)))
  rw [hx']
  show wpAny _ _ (setSeqItemAt l j v >>= _) _ _ s
  have hfin : (s.heap.update l (Obj.mapSeq (·.setIfInBounds j v))).PlainList l (items.setIfInBounds j v) := by
    obtain ⟨n', hd'⟩ := Obj.data_mapSeq (o := { cls := .type "list", data := .seq items n }) rfl (·.setIfInBounds j v)
    refine ⟨n', (Heap.get?_update_self _ ho (Obj.isFreed_of_seq hd')).trans ?_⟩
    have e : ∀ (o : Obj), o.cls = .type "list" → o.dict = none → o.slots = #[] → o.data = .seq (items.setIfInBounds j v) n' → some o = some { cls := .type "list", data := .seq (items.setIfInBounds j v) n' } := by
      rintro ⟨c, d, da, sl⟩ h1 h2 h3 h4
      cases h1; cases h2; cases h3; cases h4; rfl
    exact e _ (Obj.cls_mapSeq ..) rfl rfl hd'
  refine wpAny_bind (wpAny_setSeqItemAt ho rfl ?_)
  first
    | exact wpAny_bind (wpAny_pure (wpAny_pure ⟨.none, rfl, wpAny_pure (hQ _ hfin (Heap.SameBut.update ..))⟩))
    | exact wpAny_pure ⟨.none, rfl, wpAny_pure (hQ _ hfin (Heap.SameBut.update ..))⟩
theorem W3.list {a : Addr} {xs : List V} {k : Nat} {d : V} {Q : Sto → Prop} (hx : σ a = some (.list xs)) (hk : k < xs.length) (hl : xs.length ≤ sizeLine) (h : Q (σ.set a (.list (xs.set k d)))) : W3 B N setItem (.ref a) (.int k) d σ Q := fun A s v u z R O r₁ r₂ r₃ => by
  cases r₁
  obtain ⟨t, rfl⟩ := r₂
  obtain ⟨vs, pl, rl⟩ := O.cell a _ hx
  have hvl := rl.length
  have := sizeLine_eq
  refine setItem_plain pl (by lia) (by lia) (by rw [List.size_toArray]; lia) fun h' pl' hs => ?_
  refine ⟨_, PostS.upd (tk := s.toks) O hs.extBut hx (c := .list (xs.set k d)) ?_, h⟩
  refine ⟨vs.set k z, ?_, ?_⟩
  · have e : (List.toArray vs).setIfInBounds (k : Int).toNat z = List.toArray (vs.set k z) := by simp
    rw [← e]; exact pl'
  · have M : Mono s.heap h' := fun b o hi e => hs.extBut b o (by rintro rfl; exact O.nt hx e hi) e
    exact (rl.mono M).set k (r₃.mono M)
/-- a list's item -/
theorem W2.item {a : Addr} {xs : List V} {k : Nat} {d : V} {Q : V → Sto → Prop} (hx : σ a = some (.list xs)) (hd : xs[k]? = some d) (hl : xs.length ≤ sizeLine) (h : Q d σ) : W2 B N getItem (.ref a) (.int k) σ Q := fun A s v u R O r₁ r₂ => by
  cases r₁
  obtain ⟨t, rfl⟩ := r₂
  obtain ⟨vs, pl, rl⟩ := O.cell a _ hx
  obtain ⟨y, hy, ry⟩ := rl.get hd
  have := sizeLine_eq
  have hk : k < xs.length := (List.getElem?_eq_some_iff.mp hd).1
  exact getItem_listL pl.isList (by lia) (by lia) (by simpa using hy) ⟨d, σ, .refl O, ry, h⟩
theorem len_post {n : Nat} {Q : V → Sto → Prop} (O : OkS B s σ) (h : Q (.int n) σ) : PC B s σ Q (.int (n : Int) (s.toks + 1)) { s with toks := s.toks + 1 + 1 } := ⟨.int n, σ, .toks O, ⟨_, rfl⟩, h⟩
theorem WC.len_list {a : Addr} {xs : List V} {Q : V → Sto → Prop} (hx : σ a = some (.list xs)) (hl : xs.length ≤ sizeLine) (h : Q (.int xs.length) σ) : WC B N (.bi "len") [.ref a] [] σ Q := fun A s vf vs kws R O rf rv rk => by
  cases rf; cases rk
  obtain ⟨v, r, rfl, h1, h2⟩ := rv; cases h1; cases h2
  obtain ⟨vs, pl, rl⟩ := O.cell a _ hx
  have := sizeLine_eq
  refine PySem.Calls.call_len_list pl.isList (by rw [List.size_toArray, rl.length]; lia) ?_
  rw [List.size_toArray, rl.length]; exact len_post O h
theorem WC.len_tup {xs : List V} {Q : V → Sto → Prop} (hl : xs.length ≤ sizeLine) (h : Q (.int xs.length) σ) : WC B N (.bi "len") [.tup xs] [] σ Q := fun A s vf vs kws R O rf rv rk => by
  cases rf; cases rk
  obtain ⟨v, r, rfl, h1, h2⟩ := rv; cases h2
  obtain ⟨a, vs, rfl, ht, rl⟩ := h1
  have := sizeLine_eq
  refine PyProof.Rows.len_tuple ht (by rw [List.size_toArray, rl.length]; lia) ?_
  rw [List.size_toArray, rl.length]; exact len_post O h
theorem WC.len_str {x : Str} {Q : V → Sto → Prop} (hl : x.length ≤ sizeLine) (h : Q (.int x.length) σ) : WC B N (.bi "len") [.str x] [] σ Q := fun A s vf vs kws R O rf rv rk => by
  cases rf; cases rk
  obtain ⟨v, r, rfl, h1, h2⟩ := rv; cases h2
  obtain ⟨t, rfl⟩ := h1
  have := sizeLine_eq
  exact PyProof.Rows.len_str (by lia) (len_post O h)
/-- append -/
theorem WC.append {a : Addr} {xs : List V} {d : V} {Q : V → Sto → Prop} (hx : σ a = some (.list xs)) (hl : xs.length ≤ 1000) (h : Q .none (σ.set a (.list (xs ++ [d])))) : WC B N (.bi "list.append") [.ref a, d] [] σ Q := fun A s vf vs kws R O rf rv rk => by
  cases rf; cases rk
  obtain ⟨v, r, rfl, h1, u, r', rfl, h2, h3⟩ := rv; cases h1; cases h3
  obtain ⟨vs, pl, rl⟩ := O.cell a _ hx
  have := sizeLine_eq
  refine wpAny_list_append_plain pl (fun h' pl' hs => ?_) (by rw [List.size_toArray, rl.length]; lia)
  have M : Mono s.heap h' := fun b o hi e => hs.extBut b o (by rintro rfl; exact O.nt hx e hi) e
  exact ⟨.none, _, PostS.upd (tk := s.toks) O hs.extBut hx (c := .list (xs ++ [d])) ⟨vs ++ [u], by simpa using pl', (rl.mono M).append (RepL.one (h2.mono M))⟩, rfl, h⟩
theorem meth_list {a : Addr} {xs : List V} {name : Str} {id : String} (hx : σ a = some (.list xs)) (slot : Slot "list" name id) (ty : typeOf (.builtin id) = pure (.type "method_descriptor")) : MethOf B (.ref a) σ name id := fun A s v pl Q E O r hq => by
  cases r
  obtain ⟨vs, p, rl⟩ := O.cell a _ hx
  obtain ⟨n, ho⟩ := p
  exact getMethod_builtin ⟨_, ho, rfl⟩ F.plainAttrs_list slot ty (fun b e => by cases e; exact ⟨_, ho, rfl⟩) hq
theorem M.append {a : Addr} {xs : List V} (hx : σ a = some (.list xs)) : MethOf B (.ref a) σ (Str.ofString "append") "list.append" := meth_list hx F.slot_list_append F.type_list_append
theorem M.pop {a : Addr} {xs : List V} (hx : σ a = some (.list xs)) : MethOf B (.ref a) σ (Str.ofString "pop") "list.pop" := meth_list hx F.slot_list_pop F.type_list_pop
theorem M.sort {a : Addr} {xs : List V} (hx : σ a = some (.list xs)) : MethOf B (.ref a) σ (Str.ofString "sort") "list.sort" := meth_list hx F.slot_list_sort F.type_list_sort
theorem M.get {a : Addr} {es : List (Str × Str)} (hx : σ a = some (.dict es)) : MethOf B (.ref a) σ (Str.ofString "get") "dict.get" := fun A s v pl Q E O r hq => by
  cases r
  have D : DictAt B s.heap a es := O.cell a _ hx
  obtain ⟨_, kvs, hk, _⟩ := D
  obtain ⟨o, ho, hd⟩ := Heap.dictOf_iff.mp hk
  obtain ⟨es', ep, ⟨hc, hdict, _⟩, hdat, _⟩ := hd
  exact getMethod_builtin ⟨_, ho, hc⟩ F.plainAttrs_dict F.slot_dict_get F.type_dict_get (fun b e => by cases e; exact ⟨_, ho, hdict⟩) hq
theorem meth_str {x : Str} {name : Str} {id : String} (slot : Slot "str" name id) (ty : typeOf (.builtin id) = pure (.type "method_descriptor")) : MethOf B (.str x) σ name id := fun A s v pl Q E O r hq => by
  obtain ⟨t, rfl⟩ := r
  have h1 : s.TypeIs (.str x t) "str" := typeIs_str s x t
  have h2 : PlainAttrs "str" := F.plainAttrs_str
  have h3 : ∀ a, Value.str x t = .ref a → ∃ o, s.heap.get? a = some o ∧ o.dict = none := fun b e => nomatch e
  have h4 : Q (.builtin id, [.str x t]) s := hq
  exact @getMethod_builtin _ _ _ _ (.str x t) "str" name id pl Q h1 h2 slot ty h3 h4
theorem M.startswith {x : Str} : MethOf B (.str x) σ (Str.ofString "startswith") "str.startswith" := by with_reducible exact meth_str F.slot_str_startswith F.type_str_startswith
theorem M.endswith {x : Str} : MethOf B (.str x) σ (Str.ofString "endswith") "str.endswith" := by with_reducible exact meth_str F.slot_str_endswith F.type_str_endswith
theorem M.replace {x : Str} : MethOf B (.str x) σ (Str.ofString "replace") "str.replace" := by with_reducible exact meth_str F.slot_str_replace F.type_str_replace
theorem M.rfind {x : Str} : MethOf B (.str x) σ (Str.ofString "rfind") "str.rfind" := by with_reducible exact meth_str F.slot_str_rfind F.type_str_rfind
theorem M.rstrip {x : Str} : MethOf B (.str x) σ (Str.ofString "rstrip") "str.rstrip" := by with_reducible exact meth_str F.slot_str_rstrip F.type_str_rstrip
theorem M.split {x : Str} : MethOf B (.str x) σ (Str.ofString "split") "str.split" := by with_reducible exact meth_str F.slot_str_split F.type_str_split
theorem M.join {x : Str} : MethOf B (.str x) σ (Str.ofString "join") "str.join" := by with_reducible exact meth_str F.slot_str_join F.type_str_join
theorem M.index {x : Str} : MethOf B (.str x) σ (Str.ofString "index") "str.index" := by with_reducible exact meth_str F.slot_str_index F.type_str_index

/-! ## methods of strs -/
theorem WC.startswith {x y : Str} {Q : V → Sto → Prop} (h : Q (.bool (Txt.startswith x y)) σ) : WC B N (.bi "str.startswith") [.str x, .str y] [] σ Q := fun A s vf vs kws R O rf rv rk => by
  cases rf; cases rk
  obtain ⟨v, r, rfl, ⟨t, rfl⟩, u, r', rfl, ⟨t', rfl⟩, h3⟩ := rv; cases h3
  exact SC.startswith ⟨.bool (Txt.startswith x y), σ, .refl O, rfl, h⟩
theorem WC.endswith {x y : Str} {Q : V → Sto → Prop} (h : Q (.bool (Txt.endswith x y)) σ) : WC B N (.bi "str.endswith") [.str x, .str y] [] σ Q := fun A s vf vs kws R O rf rv rk => by
  cases rf; cases rk
  obtain ⟨v, r, rfl, ⟨t, rfl⟩, u, r', rfl, ⟨t', rfl⟩, h3⟩ := rv; cases h3
  exact SC.endswith ⟨.bool (Txt.endswith x y), σ, .refl O, rfl, h⟩
theorem WC.rfind {x y : Str} {Q : V → Sto → Prop} (h : Q (.int (Txt.rfind x y)) σ) : WC B N (.bi "str.rfind") [.str x, .str y] [] σ Q := fun A s vf vs kws R O rf rv rk => by
  cases rf; cases rk
  obtain ⟨v, r, rfl, ⟨t, rfl⟩, u, r', rfl, ⟨t', rfl⟩, h3⟩ := rv; cases h3
  exact SC.rfind ⟨.int (Txt.rfind x y), σ, .toks O, ⟨_, rfl⟩, h⟩
theorem WC.index {x y : Str} {i : Nat} {rest : List Nat} {Q : V → Sto → Prop} (ho : occurrences x y 0 x.length 1 = i :: rest) (h : Q (.int i) σ) : WC B N (.bi "str.index") [.str x, .str y] [] σ Q := fun A s vf vs kws R O rf rv rk => by
  cases rf; cases rk
  obtain ⟨v, r, rfl, ⟨t, rfl⟩, u, r', rfl, ⟨t', rfl⟩, h3⟩ := rv; cases h3
  exact SC.index ho ⟨.int i, σ, .toks O, ⟨_, rfl⟩, h⟩
theorem WC.rstrip {x y : Str} {Q : V → Sto → Prop} (hl : x.length ≤ sizeLine) (h : Q (.str (Txt.rstripChars x y)) σ) : WC B N (.bi "str.rstrip") [.str x, .str y] [] σ Q := fun A s vf vs kws R O rf rv rk => by
  cases rf; cases rk
  obtain ⟨v, r, rfl, ⟨t, rfl⟩, u, r', rfl, ⟨t', rfl⟩, h3⟩ := rv; cases h3
  refine call_gives F.slot_str_rstrip (typeIs_str _ _ _) F.entry_str_rstrip (F.args_str_rstrip_2 _ _) (gives_str_rstrip_chars x y t t') (post_str (x := Txt.rstripChars x y) ?_ O h)
  unfold Txt.rstripChars Txt.stripBy
  by_cases h1 : stripSame y.cps.contains false true x = true
  · rw [if_pos h1, if_pos h1]; exact .inl ⟨_, rfl⟩
  · rw [if_neg h1, if_neg h1]; exact .inr ⟨rfl, fits_stripped _ _ _ hl⟩
theorem repl_made {x y z : Str} {t : Tok} (hb : x.length + (x.length + 1) * z.length ≤ 16777216) :
    (∃ t', (if ((occurrences x y 0 x.length (x.length + 1)).isEmpty || (y.length == 0 && z.length == 0)) = true then Made.val (.str x t) else .str (glued z (partsBetween x (occurrences x y 0 x.length (x.length + 1)) y.length))) = .val (.str (Txt.replace x y z) t')) ∨
    ((if ((occurrences x y 0 x.length (x.length + 1)).isEmpty || (y.length == 0 && z.length == 0)) = true then Made.val (.str x t) else .str (glued z (partsBetween x (occurrences x y 0 x.length (x.length + 1)) y.length))) = .str (Txt.replace x y z) ∧ (Txt.replace x y z).length ≤ sizeLine) := by
  unfold Txt.replace
  by_cases h1 : ((occurrences x y 0 x.length (x.length + 1)).isEmpty || (y.length == 0 && z.length == 0)) = true
  · rw [if_pos h1, if_pos h1]; exact .inl ⟨_, rfl⟩
  · rw [if_neg h1, if_neg h1]; exact .inr ⟨rfl, fits_replaced y hb⟩
theorem call_replace {x y z : Str} {t u v : Tok} {Q : V → Sto → Prop} (hu : u ≠ 0) (hv : v ≠ 0) (huv : u ≠ v) (hyz : (y == z) = false) (hb : x.length + (x.length + 1) * z.length ≤ 16777216) (O : OkS B s σ) (h : Q (.str (Txt.replace x y z)) σ) :
    wpAny (Md B) A (call (.builtin "str.replace") [.str x t, .str y u, .str z v]) (PC B s σ Q) NoE s := by
  have e : (2 : Nat) ^ 24 = 16777216 := by decide
  have hl : tooLong (x.length + (occurrences x y 0 x.length (x.length + 1)).length * z.length) = false := by
    have h1 := StrLaws.occ_length_le x y 0 x.length (x.length + 1)
    have h2 : (occurrences x y 0 x.length (x.length + 1)).length * z.length ≤ (x.length + 1) * z.length := Nat.mul_le_mul_right _ h1
    unfold tooLong sizeLine
    exact decide_eq_false (by lia)
  exact call_gives F.slot_str_replace (typeIs_str _ _ _) F.entry_str_replace (F.args_str_replace_3 _ _ _) (gives_str_replace x y z t u v fun _ => ⟨by simp [hu, hv], by simp [huv], hyz, hl⟩) (post_str (repl_made hb) O h)
theorem WE.replace {o : Expr} {y z : Str} {k₁ k₂ : Nat} {p₁ p₂ apos pos : Pos} {Q : V → Sto → Prop} (hyz : (y == z) = false)
    (h : WE B sc N o ρ σ fun d σ₀ => ∃ x, d = .str x ∧ x.length + (x.length + 1) * z.length ≤ 16777216 ∧ Q (.str (Txt.replace x y z)) σ₀)
    (he : ∀ env, ∃ pl, eval (.Call (.Attribute o (Str.ofString "replace") apos) [.Constant (.str y) k₁ p₁, .Constant (.str z) k₂ p₂] [] pos) env = (do
      let ov ← eval o env
      standAt apos.atName
      let (f, first) ← holding [ov] (getMethod ov (Str.ofString "replace") pl)
      callWith pos f first (backTo pos (starEach [.Constant (.str y) k₁ p₁, .Constant (.str z) k₂ p₂] env)) (backToKw pos (keywordEach [] env)))) : WE B sc N (.Call (.Attribute o (Str.ofString "replace") apos) [.Constant (.str y) k₁ p₁, .Constant (.str z) k₂ p₂] [] pos) ρ σ Q := .mk fun A F s R X O => by
  obtain ⟨pl, he⟩ := he F.env
  rw [he]
  refine wpAny_bind (wpAny_mono (h.run A F s R X O) (fun vo s₁ hp => hp.k fun d σ₁ P₁ r₁ q₀ => q₀.elim fun x q₁ => u3 q₁ fun hx hb q => ?_) fun _ _ f => f)
  subst hx
  refine wpAny_bind (wpAny_standAt (wpAny_bind (wpAny_holding (M.replace A s₁ vo pl _ _ P₁.o.s r₁ ?_))))
  obtain ⟨t, rfl⟩ := r₁
  refine callWith_of (P := fun _ => True) rfl (fun h' _ => ⟨.machine, .inr (.inl rfl), Looks.of_pure rfl⟩) ?_
  refine evalArgs_all (noStar_back rfl) rfl ?_
  refine wpAny_items_cons (wpAny_Constant_str ?_) rfl
  refine wpAny_items_cons (wpAny_Constant_str ?_) rfl
  refine wpAny_items_nil ?_
  refine wpAny_evalAll_nil ?_
  refine ⟨trivial, ?_⟩
  have tk := P₁.o.s.tk
  refine wpAny_mono (call_replace (s := { s₁ with toks := s₁.toks + 1 + 1 }) (σ := σ₁) (Q := Q) (u := s₁.toks) (v := s₁.toks + 1) (Nat.pos_iff_ne_zero.mp tk) (Nat.succ_ne_zero _) (Nat.ne_of_lt (Nat.lt_succ_self _)) hyz hb (PostS.toks (t := s₁.toks + 1 + 1) P₁.o.s).o q) (fun r s₂ hp => hp.k fun d σ₂ P₂ r₂ q₂ => ?_) fun _ _ f => f
  refine ⟨d, σ₂, P₁.trans (PostS.frame ?_ X P₁.o), r₂, q₂⟩
  exact (PostS.toks (t := s₁.toks + 1 + 1) P₁.o.s).trans P₂
end
end

section
open Builtin.Str
section
variable {B : Bs} {sc : Sc} {N : Nat} {ρ : Loc} {σ : Sto} {F : Frm} {A : Around} {s : Shared}

/-! ## subscripts -/
noncomputable def Sub (B : Bs) (a : V) (σ : Sto) : Prop := ∀ (s : Shared) (v : Value), OkS B s σ → Rep s.heap a v → ∃ T id, s.TypeIs v T ∧ typeLookup (.type T) "__getitem__" = pure (some (.builtin id))
theorem Sub.tup {xs : List V} : Sub B (.tup xs) σ := fun s v O r => by
  obtain ⟨a, vs, rfl, ht, rl⟩ := r
  exact ⟨_, _, ht.typeIs, slot_tuple_getitem.lookup⟩
theorem Sub.str {x : Str} : Sub B (.str x) σ := fun s v O r => by
  obtain ⟨t, rfl⟩ := r
  exact ⟨_, _, typeIs_str _ _ _, F.slot_str_getitem.lookup⟩
theorem Sub.list {a : Addr} {xs : List V} (hx : σ a = some (.list xs)) : Sub B (.ref a) σ := fun s v O r => by
  cases r
  obtain ⟨vs, pl, rl⟩ := O.cell a _ hx
  exact ⟨_, _, pl.isList.typeIs, slot_list_getitem.lookup⟩
noncomputable abbrev KS2 (B : Bs) (N : Nat) (Q : V → Sto → Prop) (a b : V) (σ₂ : Sto) : Prop := Sub B a σ₂ ∧ W2 B N getItem a b σ₂ Q
noncomputable abbrev KS (B : Bs) (sc : Sc) (N : Nat) (slice : Expr) (ρ : Loc) (Q : V → Sto → Prop) (a : V) (σ₁ : Sto) : Prop := WE B sc N slice ρ σ₁ (KS2 B N Q a)
theorem WE.sub {value slice : Expr} {pos : Pos} {Q : V → Sto → Prop} (h : WE B sc N value ρ σ (KS B sc N slice ρ Q))
    (hs : ∀ o i, subscripted slice false o i = operate [o, i] (getItem o i)) : WE B sc N (.Subscript value slice pos) ρ σ Q := .mk fun A F s R X O => by
  refine Subscript_ (wpAny_mono (h.run A F s R X O) (fun v s₁ hp => hp.k fun a σ₁ P₁ r₁ h₁ => ?_) fun _ _ f => f)
  refine wpAny_mono (h₁.run A F s₁ R X P₁.o) (fun u s₂ hp => hp.k fun b σ₂ P₂ r₂ q => u2 q fun hsub h₂ => ?_) fun _ _ f => f
  have r₁' := r₁.mono (P₂.mono P₁.o)
  obtain ⟨T, id, hT, hl⟩ := hsub s₂ v P₂.o.s r₁'
  refine tail_any hT hl (wpAny_mono (h₂ A s₂ v u R P₂.o.s r₁' r₂) (fun z s₃ hp => hp.k fun d σ₃ P₃ r₃ q => ?_) fun _ _ f => f) (hs _ _)
  exact ⟨d, σ₃, P₁.trans (P₂.trans (P₃.frame X P₂.o)), r₃, q⟩

/-- a bound of a slice -/
noncomputable def RepO : Option Int → Value → Prop
  | none, v => v = .none
  | some i, v => ∃ t, v = .int i t
theorem RepO.part {o : Option Int} {v : Value} (r : RepO o v) : IsPart v o := by
  cases o with
  | none => cases r; exact .none
  | some i => obtain ⟨t, rfl⟩ := r; exact .int i t
theorem RepO.pv {o : Option Int} {v : Value} (r : RepO o v) : ∃ p : Option (Int × Tok), v = partValue p ∧ p.map (·.1) = o := by
  cases o with
  | none => cases r; exact ⟨none, rfl, rfl⟩
  | some i => obtain ⟨t, rfl⟩ := r; exact ⟨some (i, t), rfl, rfl⟩
/-- an item by a slice -/
noncomputable def WSl (B : Bs) (N : Nat) (a : V) (lo hi : Option Int) (σ : Sto) (Q : V → Sto → Prop) : Prop :=
  ∀ (A : Around) (s : Shared) (v : Value) (sl : Addr) (vl vu : Value), Room A N → OkS B s σ → Rep s.heap a v → s.heap.IsSliceOf sl vl vu .none → RepO lo vl → RepO hi vu →
    wpAny (Md B) A (getItem v (.ref sl)) (PC B s σ Q) NoE s
/-- the bounds' expressions -/
noncomputable def WB (B : Bs) (sc : Sc) (N : Nat) (e : Option Expr) (ρ : Loc) (σ : Sto) (Q : Option Int → Sto → Prop) : Prop := match e with
  | none => Q none σ
  | some e => WE B sc N e ρ σ fun d σ' => ∃ i, d = .int i ∧ Q (some i) σ'
theorem WB.run {e : Option Expr} {Q : Option Int → Sto → Prop} (h : WB B sc N e ρ σ Q) (R : Room A N) (X : FrmOk B sc F) (O : Ok B F s ρ σ) :
    wpAny (Md B) A (evalPart e F.env) (fun v s' => ∃ o σ', Post B F s σ s' ρ σ' ∧ RepO o v ∧ Q o σ') NoE s := by
  cases e with
  | none => exact wpAny_pure ⟨none, σ, .refl O, rfl, h⟩
  | some e => exact wpAny_mono (WE.run h A F s R X O) (fun v s' hp => hp.k fun d σ' P r q => q.elim fun i q => u2 q fun hd q => ⟨some i, σ', P, by subst hd; exact r, q⟩) fun _ _ f => f
theorem RepO.of {o : Option Int} {v : Value} (r : RepO o v) : RepO o v := r
theorem WE.slice {value : Expr} {lo hi : Option Expr} {p pos : Pos} {Q : V → Sto → Prop} (h : WE B sc N value ρ σ fun a σ₁ => WB B sc N lo ρ σ₁ fun l σ₂ => WB B sc N hi ρ σ₂ fun u σ₃ => Sub B a σ₃ ∧ WSl B N a l u σ₃ Q) :
    WE B sc N (.Subscript value (.Slice lo hi Option.none p) pos) ρ σ Q := .mk fun A F s R X O => by
  refine Subscript_ (wpAny_mono (h.run A F s R X O) (fun v s₁ hp => hp.k fun a σ₁ P₁ r₁ h₁ => ?_) fun _ _ f => f)
  refine wpAny_Slice (wpAny_mono (WB.run h₁ R X P₁.o) (fun vl s₂ ⟨l, σ₂, P₂, r₂, h₂⟩ => wpAny_mono (WB.run h₂ R X P₂.o) (fun vu s₃ ⟨u, σ₃, P₃, r₃, hsub, h₃⟩ => ?_) fun _ _ f => f) fun _ _ f => f)
  rw [evalPart_none]
  refine wpAny_pure ?_
  let s₄ : Shared := { s₃ with heap := s₃.heap.push { cls := .type "slice", data := .fields #[vl, vu, .none] } }
  have P₄ : Post B F s₃ σ₃ s₄ ρ σ₃ := (PostS.push (tk := s₃.toks) P₃.o.s).frame X P₃.o
  have r₁' := ((r₁.mono (P₂.mono P₁.o)).mono (P₃.mono P₂.o)).mono (P₄.mono P₃.o)
  obtain ⟨T, id, hT, hl⟩ := hsub s₄ v P₄.o.s r₁'
  refine tail_any hT hl (ops := [.ref s₃.heap.objs.size, v]) (wpAny_mono (h₃ A s₄ v _ vl vu R P₄.o.s r₁' (Heap.IsSliceOf.new ..) r₂ r₃) (fun z s₅ hp => hp.k fun d σ₅ P₅ r₅ q => ?_) fun _ _ f => f) rfl
  exact ⟨d, σ₅, P₁.trans (P₂.trans (P₃.trans (P₄.trans (P₅.frame X P₄.o)))), r₅, q⟩

theorem sliceRange_zero (m : Nat) : sliceRange 0 m 1 = List.range m := by
  have := sliceRange_one 0 m
  simpa using this
theorem bounds_upto (j : Int) (n : Nat) (hj : 0 ≤ j) : sliceBounds none (some j) none n = (0, ((min j.toNat n : Nat) : Int), 1) := by
  obtain ⟨k, rfl⟩ := Int.eq_ofNat_of_zero_le hj
  simp only [sliceBounds, Option.getD_none]
  have h2 : ¬ ((k : Int) < 0) := by lia
  simp only [h2, if_false, show (1 : Int) > 0 by decide, if_true]
  congr 1
  congr 1
  lia
theorem pick_take {α : Type} (xs : List α) (m : Nat) (hm : m ≤ xs.length) : ((List.range m).filterMap (xs.toArray[·]?)) = xs.take m := by
  have := pick_run xs.toArray 0 m
  simpa using this
theorem WSl.list_upto {a : Addr} {xs : List V} {j : Int} {Q : V → Sto → Prop} (hx : σ a = some (.list xs)) (hj : 0 ≤ j) (hl : xs.length ≤ sizeLine) (h : ∀ b, σ b = none → Q (.ref b) (σ.set b (.list (xs.take j.toNat)))) : WSl B N (.ref a) none (some j) σ Q := fun A s v sl vl vu R O r hs rl ru => by
  cases r
  obtain ⟨vs, pl, rv⟩ := O.cell a _ hx
  refine wpAny_getItem_list_slice pl.isList hs rl.part ru.part .none (by simp) ?_ (by rw [List.size_toArray, rv.length]; exact hl)
  have e : slicePick (List.toArray vs) none (some j) none = List.toArray (vs.take j.toNat) := by
    unfold slicePick
    rw [bounds_upto j _ hj]
    dsimp only
    rw [sliceRange_zero, pick_take _ _ (by rw [List.size_toArray]; lia)]
    rw [List.size_toArray]
    congr 1
    rw [← List.take_take]
    simp
  rw [e]
  exact ⟨.ref _, _, PostS.new (tk := s.toks) O (cell_list_new (rv.take j.toNat)), rfl, h _ O.free⟩
theorem WSl.list_from {a : Addr} {xs : List V} {j : Nat} {Q : V → Sto → Prop} (hx : σ a = some (.list xs)) (hj : j ≤ xs.length) (hl : xs.length ≤ sizeLine) (h : ∀ b, σ b = none → Q (.ref b) (σ.set b (.list (xs.drop j)))) : WSl B N (.ref a) (some j) none σ Q := fun A s v sl vl vu R O r hs rl ru => by
  cases r
  obtain ⟨vs, pl, rv⟩ := O.cell a _ hx
  refine wpAny_getItem_list_slice pl.isList hs rl.part ru.part .none (by simp) ?_ (by rw [List.size_toArray, rv.length]; exact hl)
  rw [slicePick_from _ j (by rw [List.size_toArray, rv.length]; exact hj)]
  exact ⟨.ref _, _, PostS.new (tk := s.toks) O (cell_list_new (rv.drop j)), rfl, h _ O.free⟩
theorem WSl.str_upto {x : Str} {j : Int} {Q : V → Sto → Prop} (hj : 0 ≤ j) (hl : x.length ≤ sizeLine) (h : Q (.str ⟨(x.cps.toList.take j.toNat).toArray⟩) σ) : WSl B N (.str x) none (some j) σ Q := fun A s v sl vl vu R O r hs rl ru => by
  obtain ⟨t, rfl⟩ := r
  cases rl
  obtain ⟨t', rfl⟩ := ru
  refine wpAny_getItem_str_slice (l := none) (u := some (j, t')) (st := none) hs rfl (post_str (x := ⟨(x.cps.toList.take j.toNat).toArray⟩) ?_ O h)
  have e : slicePicked x none (some (j, t')) none = List.range (min j.toNat x.length) := by
    unfold slicePicked strSliceIndices
    obtain ⟨k, rfl⟩ := Int.eq_ofNat_of_zero_le hj
    have h2 : ¬ ((k : Int) < 0) := by lia
    simp only [Option.map_none, Option.map_some, Option.getD_none, h2, if_false, show (1 : Int) > 0 by decide, if_true]
    have e1 : max (0 : Int) (min (k : Int) (x.length : Int)) = ((min k x.length : Nat) : Int) := by lia
    rw [e1, sliceRange_zero]; rfl
  have e2 : (⟨(List.filterMap (x.cps[·]?) (List.range (min j.toNat x.length))).toArray⟩ : Str) = ⟨(x.cps.toList.take j.toNat).toArray⟩ := by
    obtain ⟨⟨xs⟩⟩ := x
    congr 2
    have := pick_take xs (min j.toNat xs.length) (by lia)
    show List.filterMap (fun k => (List.toArray xs)[k]?) (List.range (min j.toNat xs.length)) = xs.take j.toNat
    rw [this, ← List.take_take]; simp
  unfold sliceMade
  rw [e]
  by_cases hc : (((none : Option (Int × Tok)).map (·.1)).getD 1 == 1 && (List.range (min j.toNat x.length)).length == x.length) = true
  · rw [if_pos hc]
    left
    refine ⟨t, ?_⟩
    simp at hc
    have : (x.cps.toList.take j.toNat) = x.cps.toList := List.take_of_length_le (by rw [Array.length_toList]; unfold Str.length at hc; lia)
    rw [this]
  · rw [if_neg hc, e2]
    refine .inr ⟨rfl, ?_⟩
    unfold Str.length at hl ⊢
    simp; lia
theorem adjust_upto (j : Int) (n : Nat) (m : Nat) (hm : (if j < 0 then max (j + n) 0 else min j n) = (m : Int)) : Builtin.Slice.sliceAdjust none (some j) 1 (n : Int) = (0, (m : Int)) := by
  unfold Builtin.Slice.sliceAdjust
  have h1 : ¬ ((1 : Int) < 0) := by lia
  simp only [h1, if_false]
  rw [hm]
theorem places_upto (m : Nat) : Builtin.Slice.slicePlaces 0 (m : Int) 1 = m := by
  unfold Builtin.Slice.slicePlaces
  have h1 : (1 : Int) > 0 := by lia
  simp only [h1, if_true, Int.ediv_one]
  split <;> lia
theorem sliceApplied_upto {sl : Addr} {j : Int} {n m : Nat} {u : Tok} {Q : Int × Int × Nat → Shared → Prop} {E : Value → Shared → Prop} (hs : s.heap.IsSliceOf sl .none (.int j u) .none) (hm : (if j < 0 then max (j + n) 0 else min j n) = (m : Int)) (h : Q (0, 1, m) s) :
    wpAny (Md B) A (Builtin.Slice.sliceApplied (.ref sl) (pure (n : Int))) Q E s := by
  obtain ⟨os, hos, hcs, hds⟩ := id hs
  unfold Builtin.Slice.sliceApplied Builtin.Slice.sliceFields
  refine wpAny_bind (wpAny_bind (wpAny_field hos hds (x := .none) rfl (wpAny_bind (wpAny_field hos hds (x := .int j u) rfl (wpAny_bind (wpAny_field hos hds (x := .none) rfl (wpAny_pure ?_)))))))
  refine wpAny_bind (slicePart_none ?_)
  show wpAny _ _ (if ((1 : Int) == 0) = true then _ else _) _ _ s
  rw [if_neg (by decide)]
  refine wpAny_bind (slicePart_none (wpAny_bind (slicePart_int (wpAny_bind (wpAny_pure ?_)))))
  show wpAny _ _ (match Builtin.Slice.sliceAdjust none (some j) 1 (n : Int) with | (lo, hi) => pure (lo, (1 : Int), Builtin.Slice.slicePlaces lo hi 1)) _ _ s
  rw [adjust_upto j n m hm]
  show wpAny _ _ (pure ((0 : Int), (1 : Int), Builtin.Slice.slicePlaces 0 (m : Int) 1)) _ _ s
  rw [places_upto m]
  exact wpAny_pure h
theorem WSl.tup_upto {xs : List V} {j : Int} {m : Nat} {Q : V → Sto → Prop} (hm : (if j < 0 then max (j + xs.length) 0 else min j xs.length) = (m : Int)) (hl : xs.length ≤ sizeLine) (h : Q (.tup (xs.take m)) σ) : WSl B N (.tup xs) none (some j) σ Q := fun A s v sl vl vu R O r hs rl ru => by
  obtain ⟨a, vs, rfl, ht, rv⟩ := r
  cases rl
  obtain ⟨u, rfl⟩ := ru
  have hmn : m ≤ xs.length := by lia
  have hv := rv.length
  have hsz : sizeOk (.seq (vs.take m).toArray) := by
    show (vs.take m).toArray.size ≤ sizeLine
    rw [List.size_toArray, List.length_take]; lia
  obtain ⟨os, hos, hcs, hds⟩ := id hs
  have hTs : s.TypeIs (.ref sl) "slice" := ⟨os, hos, hcs⟩
  unfold getItem
  try with_reducible refine wpAny_holding ?_
  first | refine wpAny_bind (wpAny_pure ?_) | skip
  refine wpAny_bind (wpAny_sequenceKey ht.typeIs (by decide) ?_)
  refine wpAny_bind (wpAny_callSpecial?_slot (name := Str.ofString "__getitem__") ht.typeIs slot_tuple_getitem (wpAny_call_entry slot_tuple_getitem ht.typeIs entry_tuple_getitem ?_ (args_tuple_getitem _ _)))
  show wpAny _ _ (Builtin.Tuple.tupleItemsOf (.ref a) >>= _) _ _ s
  refine wpAny_bind (tupleItemsOf_ ht ?_)
  refine wpAny_bind (wpAny_typeOf hTs ?_)
  rw [if_pos (by decide)]
  have hmv : (if j < 0 then max (j + ((List.toArray vs).size : Nat)) 0 else min j ((List.toArray vs).size : Nat)) = (m : Int) := by rw [List.size_toArray, hv]; exact hm
  refine wpAny_bind (sliceApplied_upto hs hmv ?_)
  show wpAny _ _ (if ((0 : Int) == 0 && (1 : Int) == 1 && m == (List.toArray vs).size) = true then _ else _) _ _ s
  have hpick : List.filterMap (fun (k : Nat) => (List.toArray vs)[((0 : Int) + (k : Int) * 1).toNat]?) (List.range m) = vs.take m := by
    have := pick_take vs m (by lia)
    rw [← this]
    congr 1
    funext k
    have : ((0 : Int) + (k : Int) * 1).toNat = k := by lia
    rw [this]
  by_cases hw : ((0 : Int) == 0 && (1 : Int) == 1 && m == (List.toArray vs).size) = true
  · rw [if_pos hw]
    have hm' : m = vs.length := by simpa using hw
    refine wpAny_bind (m := Builtin.Tuple.tupleIsExact _) (wpAny_bind (wpAny_typeOf ht.typeIs (wpAny_pure ?_)))
    refine wpAny_bind (wpAny_rule (wpAny_pure ⟨_, rfl, wpAny_pure ⟨.tup (xs.take m), σ, .refl O, ⟨a, vs, rfl, ht, ?_⟩, h⟩⟩))
    rw [List.take_of_length_le (by lia)]; exact rv
  · rw [if_neg hw]
    show wpAny _ _ (Builtin.Tuple.tupleExact _ >>= fun r => ret r) _ _ s
    rw [hpick]
    refine wpAny_bind (m := Builtin.Tuple.tupleExact _) (wpAny_newObj_type (wpAny_pure ⟨_, rfl, wpAny_pure ?_⟩) hsz)
    exact ⟨.tup (xs.take m), σ, PostS.push (tk := s.toks) O, rep_tup_new (rv.take m), h⟩

/-- a tuple's item, at either end -/
theorem W2.item_tup {xs : List V} {k : Int} {j : Nat} {d : V} {Q : V → Sto → Prop} (hj : seqIndex? k xs.length = some j) (hd : xs[j]? = some d) (h1 : -1000 ≤ k) (h2 : k ≤ 1000) (h : Q d σ) : W2 B N getItem (.tup xs) (.int k) σ Q := fun A s v u R O r₁ r₂ => by
  obtain ⟨a, vs, rfl, ht, rv⟩ := r₁
  obtain ⟨t, rfl⟩ := r₂
  obtain ⟨y, hy, ry⟩ := rv.get hd
  refine PyProof.Rows.getItem_tuple ht (by lia) (by lia) (j := j) (by rw [List.size_toArray, rv.length]; exact hj) (by simpa using hy) ⟨d, σ, .refl O, ry, h⟩
theorem seqIndex_nat (k n : Nat) (h : k < n) : seqIndex? (k : Int) n = some k := by
  unfold seqIndex?
  simp; lia
end
end

section
open Builtin.Str
set_option maxRecDepth 100000
section
variable {B : Bs} {sc : Sc} {N : Nat} {ρ : Loc} {σ : Sto} {F : Frm} {A : Around} {s : Shared}

theorem WC.type_str {x : Str} {Q : V → Sto → Prop} (h : Q (.ty "str") σ) : WC B N (.ty "type") [.str x] [] σ Q := fun A s vf vs kws R O rf rv rk => by
  cases rf; cases rk
  obtain ⟨v, r, rfl, ⟨t, rfl⟩, h3⟩ := rv; cases h3
  exact call_type_of (typeIs_str s x t) (by decide) ⟨.ty "str", σ, .refl O, rfl, h⟩
theorem WC.isinstance_str_bytes {x : Str} {Q : V → Sto → Prop} (h : Q (.bool false) σ) : WC B N (.bi "isinstance") [.str x, .ty "bytes"] [] σ Q := fun A s vf vs kws R O rf rv rk => by
  cases rf; cases rk
  obtain ⟨v, r, rfl, ⟨t, rfl⟩, u, r', rfl, h2, h3⟩ := rv; cases h3; cases h2
  exact call_isinstance (isinstance_false_str (by decide +kernel) F.isi_meta_bytes F.sub_str_bytes) ⟨.bool false, σ, .toks O, rfl, h⟩
theorem WC.ord {x : Str} {Q : V → Sto → Prop} (hx : x.length = 1) (h : Q (.int (x.cps.getD 0 0 : Nat)) σ) : WC B N (.bi "ord") [.str x] [] σ Q := fun A s vf vs kws R O rf rv rk => by
  cases rf; cases rk
  obtain ⟨v, r, rfl, ⟨t, rfl⟩, h3⟩ := rv; cases h3
  exact ord_of_one hx ⟨.int _, σ, .toks O, ⟨_, rfl⟩, h⟩
theorem WC.range1 {n : Int} {Q : V → Sto → Prop} (h : Q (.rng 0 n 1) σ) : WC B N (.ty "range") [.int n] [] σ Q := fun A s vf vs kws R O rf rv rk => by
  cases rf; cases rk
  obtain ⟨v, r, rfl, ⟨t, rfl⟩, h3⟩ := rv; cases h3
  exact call_range_1 ⟨.rng 0 n 1, σ, PostS.push (tk := s.toks + 1 + 1) O, ⟨_, _, _, _, rfl, IsRange.new ..⟩, h⟩
theorem WC.range3 {a b c : Int} {Q : V → Sto → Prop} (hc : c ≠ 0) (hp : Builtin.divisionGoesByPylong (b - a) c = false) (h : Q (.rng a b c) σ) : WC B N (.ty "range") [.int a, .int b, .int c] [] σ Q := fun A s vf vs kws R O rf rv rk => by
  cases rf; cases rk
  obtain ⟨v, r, rfl, ⟨t, rfl⟩, u, r', rfl, ⟨t', rfl⟩, u', r'', rfl, ⟨t'', rfl⟩, h3⟩ := rv; cases h3
  exact call_range_3 hc ⟨.rng a b c, σ, PostS.push (tk := s.toks) O, ⟨_, _, _, _, rfl, IsRange.new ..⟩, h⟩ (.inl hp)
theorem WC.iter_list {a : Addr} {xs : List V} {Q : V → Sto → Prop} (hx : σ a = some (.list xs)) (h : ∀ b, σ b = none → Q (.ref b) (σ.set b (.iter a 0))) : WC B N (.bi "iter") [.ref a] [] σ Q := fun A s vf vs kws R O rf rv rk => by
  cases rf; cases rk
  obtain ⟨v, r, rfl, h1, h3⟩ := rv; cases h3; cases h1
  obtain ⟨vs, pl, rl⟩ := O.cell a _ hx
  refine Calls.call_function_entry (by decide +kernel) (by decide +kernel) kdk_entry_iter (kdk_args_iter _) ?_
  unfold Builtin.«iter»
  refine wpAny_bind (m := someArgs "iter" 1 2 _) (wpAny_of_eq (a := [Value.ref a]) (by first | rfl | kernel_rfl!) ?_)
  show wpAny _ _ (pyIter (.ref a) >>= _) _ _ _
  refine wpAny_bind (wpAny_pyIter_list pl.isList ?_)
  exact wpAny_pure ⟨_, rfl, .ref _, _, PostS.new (tk := s.toks) O (c := .iter a 0) ⟨_, Heap.get?_push_size _ rfl, rfl, rfl⟩, rfl, h _ O.free⟩
/-- is None -/
theorem W2.is_none {a : V} {b : Bool} {Q : V → Sto → Prop} (hb : ∀ (s : Shared) v, Rep s.heap a v → isSame v .none = pure b) (h : Q (.bool b) σ) : W2 B N (compareOp .Is) a .none σ Q := fun A s v u R O r₁ r₂ => by
  cases r₂
  have e : compareOp .Is v .none = (do return .bool (← isSame v .none)) := by first | rfl | (unfold compareOp; rfl)
  rw [e, hb s v r₁]
  exact wpAny_bind (wpAny_pure (wpAny_pure ⟨.bool b, σ, .refl O, rfl, h⟩))
theorem W2.none_is_none {Q : V → Sto → Prop} (h : Q (.bool true) σ) : W2 B N (compareOp .Is) .none .none σ Q := W2.is_none (b := true) (fun s v r => by cases r; rfl) h

theorem nested_str {A : Around} {s : Shared} {Q : Fin → Shared → Prop} {E : Value → Shared → Prop} {k : Value} {dep : Int} {tk : Tok} (hk : k = .int dep tk) (h : Q (.done (.ret (.bool true))) s) :
    wpAny (Md B) A (Builtin.«issubclass.nested» ⟨[.type "str", .type "str", k], []⟩) Q E s := by
  subst hk
  have hs : isSubtype (.type "str") (.type "str") = pure true := F.sub_str_str
  repeat (any_goals (first | assumption | (rw [hs]) | wp_step))
theorem args_nested (a b : Value) (c : Value) : argsOk "issubclass.nested" ⟨[a, b, c], []⟩ := by unfold argsOk; kernel_rfl
theorem nested_tuple {A : Around} {s : Shared} {Q : Fin → Shared → Prop} {E : Value → Shared → Prop} {a : Addr} {x : Value} (ht : s.heap.IsTuple a #[.type "str", x]) (h : Q (.done (.ret (.bool true))) s) :
    wpAny (Md B) A (Builtin.«issubclass.nested» ⟨[.type "str", .ref a, rawInt 0], []⟩) Q E s := by
  obtain ⟨o, ho, hc, n, hd⟩ := id ht
  have hT : s.TypeIs (.ref a) "tuple" := ⟨o, ho, hc⟩
  unfold Builtin.«issubclass.nested»
  show wpAny _ _ (typeOf (.ref a) >>= _) _ _ s
  refine wpAny_bind (wpAny_typeOf hT ?_)
  rw [if_neg (by decide)]
  repeat (any_goals (first | assumption | wp_step))
  refine wpAny_of_eq (a := true) F.isi_self_tuple ?_
  show wpAny _ _ (seqItems? (.ref a) >>= _) _ _ s
  refine wpAny_bind (wpAny_seqItems ho hd ?_)
  have e : ∀ (f : Value → Option PySem.Fin × Unit → Sem (ForInStep (Option PySem.Fin × Unit))), (forIn ((some #[Value.type "str", x]).getD #[]) (none, ()) f : Sem (Option PySem.Fin × Unit)) = forIn [Value.type "str", x] (none, ()) f := fun f => by simp
  rw [e]
  refine wpAny_bind ?_
  rw [List.forIn_cons]
  refine wpAny_bind (wpAny_bind (Calls.call_function_entry (by decide +kernel) (by decide +kernel) F.entry_issubclass_nested (args_nested _ _ _) (nested_str (dep := 0 + 1) (tk := 0) rfl ?_)))
  refine ⟨_, rfl, ?_⟩
  refine wpAny_bind (wpAny_truthy_bool ?_)
  rw [if_pos rfl]
  refine wpAny_bind (wpAny_pure (wpAny_pure ?_))
  exact wpAny_pure (wpAny_pure h)
theorem WC.issubclass_str {Q : V → Sto → Prop} (h : Q (.bool true) σ) : WC B N (.bi "issubclass") [.ty "str", .tup [.ty "str", .ty "bytes"]] [] σ Q := fun A s vf vs kws R O rf rv rk => by
  cases rf; cases rk
  obtain ⟨v, r, rfl, h1, u, r', rfl, h2, h3⟩ := rv; cases h3; cases h1
  obtain ⟨a, vs, rfl, ht, e1, q1, rfl, g1, e2, q2, rfl, g2, g3⟩ := h2
  cases g1; cases g2; cases g3
  refine call_function_meets F.kind_issubclass F.plain_issubclass F.entry_issubclass (F.args_issubclass_2 _ _) (S := fun _ R s' => s'.heap.IsTuple a #[.type "str", .type "bytes"] ∧ R (.ok (.ret (.bool true))) s') (fun prog w A R s' hs => ?_) ⟨ht, .bool true, σ, .refl O, rfl, h⟩
  exact issubclass_outer (nested_tuple (B := ⟨prog, w, s'.heap⟩) hs.1 hs.2)
end
end

section
open PySem.Spec PyProof.V
open Builtin.Str
set_option maxRecDepth 100000
section
variable {B : Bs} {sc : Sc} {N : Nat} {ρ : Loc} {σ : Sto} {F : Frm} {A : Around} {s : Shared}

theorem low {h : Heap} (x : h.NoLimit) : (h.objs.size == sysModules) = false := let ⟨_, hn, _⟩ := x; beq_eq_false_iff_ne.mpr (Nat.ne_of_gt (Nat.lt_trans (by decide) hn.lt))
theorem dict_end {h' : Heap} {tk : Nat} {kvs : List (Str × Value)} {es : List (Str × Str)} {Q : V → Sto → Prop} (X : FrmOk B sc F) (O : Ok B F s ρ σ) (hlim : B.h₀.NoLimit) (hd : h'.DictOf (strKind B.prog B.w) s.heap.objs.size kvs) (hs : Heap.SameBut s.heap.objs.size (s.heap.push { cls := .type "dict", data := .dict #[] }) h')
    (hf : FlatPairs PyData.str kvs (es.map fun p => (PyData.str p.1, PyData.str p.2))) (htk : 1 ≤ s.toks → 1 ≤ tk) (h : ∀ d, σ d = none → Q (.ref d) (σ.set d (.dict es))) :
    PE B F s σ ρ Q (.ref s.heap.objs.size) { s with heap := h', toks := tk } := by
  have k : ∀ b o, s.heap.get? b = some o → h'.get? b = some o := fun b o e => hs.extBut b o (Nat.ne_of_lt (Heap.lt_size e)) (Heap.get?_push_of_some _ e)
  have hc : CellAt B h' s.heap.objs.size (.dict es) := ⟨low (hlim.keeps O.s.keep), kvs, hd, hf⟩
  exact ⟨.ref _, σ.set s.heap.objs.size (.dict es), PostS.frame ⟨.new k (new_none _), O.s.new k (new_none _) hc htk⟩ X O, rfl, h _ O.s.free⟩
theorem merged2 {K : Type} [DecidableEq K] {k₁ k₂ : K} (hk : k₁ ≠ k₂) (u v : Value) : merged [] [(k₁, u), (k₂, v)] = [(k₁, u), (k₂, v)] := by
  simp [merged, stored, hk, Ne.symm hk]
theorem WE.dict1 {k₁ v₁ : Str} {a₁ b₁ : Nat} {p₁ q₁ pos : Pos} {Q : V → Sto → Prop} (hlim : B.h₀.NoLimit) (h : ∀ d, σ d = Option.none → Q (.ref d) (σ.set d (.dict [(k₁, v₁)]))) :
    WE B sc N (.Dict [some (.Constant (.str k₁) a₁ p₁)] [.Constant (.str v₁) b₁ q₁] pos) ρ σ Q := .mk fun A F s R X O => by
  refine wpAny_Dict_walk (knd := strKind B.prog B.w) rfl rfl (by intro e; cases e) (Nat.le_of_ble_eq_true rfl) ?_
  show wpAny _ _ (evalPairs [(eval (.Constant (.str k₁) a₁ p₁) F.env, do let x ← eval (.Constant (.str v₁) b₁ q₁) F.env; standAt pos; pure x)]) _ _ _
  refine wpAny_bind (wpAny_Constant_str (wpAny_bind (wpAny_holding (wpAny_bind (wpAny_Constant_str (wpAny_bind (wpAny_standAt (wpAny_pure ?_))))))))
  refine wpAny_bind (wpAny_holding (wpAny_pure (wpAny_pure ?_)))
  refine ⟨[(k₁, .str v₁ (s.toks + 1))], ⟨strKind_is _ _ _ _, rfl, trivial⟩, Heap.DictOf.new _, fun h' hd hs => ?_⟩
  exact dict_end (kvs := [(k₁, .str v₁ (s.toks + 1))]) (es := [(k₁, v₁)]) X O hlim hd hs (.cons (.str _ _) .nil) (fun q => Nat.le_trans q (Nat.le_trans (Nat.le_add_right _ 1) (Nat.le_trans (Nat.le_add_right _ 1) (Nat.le_add_right _ _)))) h
theorem WE.dict2 {k₁ v₁ k₂ v₂ : Str} {a₁ b₁ a₂ b₂ : Nat} {p₁ q₁ p₂ q₂ pos : Pos} {Q : V → Sto → Prop} (hlim : B.h₀.NoLimit) (hne : (k₁ == k₂) = false) (h : ∀ d, σ d = Option.none → Q (.ref d) (σ.set d (.dict [(k₁, v₁), (k₂, v₂)]))) :
    WE B sc N (.Dict [some (.Constant (.str k₁) a₁ p₁), some (.Constant (.str k₂) a₂ p₂)] [.Constant (.str v₁) b₁ q₁, .Constant (.str v₂) b₂ q₂] pos) ρ σ Q := .mk fun A F s R X O => by
  refine wpAny_Dict_walk (knd := strKind B.prog B.w) rfl rfl (by intro e; cases e) (Nat.le_of_ble_eq_true rfl) ?_
  show wpAny _ _ (evalPairs [(eval (.Constant (.str k₁) a₁ p₁) F.env, do let x ← eval (.Constant (.str v₁) b₁ q₁) F.env; standAt pos; pure x), (eval (.Constant (.str k₂) a₂ p₂) F.env, do let x ← eval (.Constant (.str v₂) b₂ q₂) F.env; standAt pos; pure x)]) _ _ _
  refine wpAny_bind (wpAny_Constant_str (wpAny_bind (wpAny_holding (wpAny_bind (wpAny_Constant_str (wpAny_bind (wpAny_standAt (wpAny_pure ?_))))))))
  refine wpAny_bind (wpAny_holding (wpAny_bind (wpAny_Constant_str (wpAny_bind (wpAny_holding (wpAny_bind (wpAny_Constant_str (wpAny_bind (wpAny_standAt (wpAny_pure ?_))))))))))
  refine wpAny_bind (wpAny_holding (wpAny_pure (wpAny_pure (wpAny_pure ?_))))
  refine ⟨[(k₁, .str v₁ (s.toks + 1)), (k₂, .str v₂ (s.toks + 1 + 1 + 1))], ⟨strKind_is _ _ _ _, rfl, strKind_is _ _ _ _, rfl, trivial⟩, Heap.DictOf.new _, fun h' hd hs => ?_⟩
  have hk : k₁ ≠ k₂ := by rintro rfl; simp at hne
  rw [merged2 hk] at hd
  exact dict_end (kvs := [(k₁, .str v₁ (s.toks + 1)), (k₂, .str v₂ (s.toks + 1 + 1 + 1))]) (es := [(k₁, v₁), (k₂, v₂)]) X O hlim hd hs (.cons (.str _ _) (.cons (.str _ _) .nil)) (fun q => Nat.le_trans q (Nat.le_trans (Nat.le_add_right _ 1) (Nat.le_trans (Nat.le_add_right _ 1) (Nat.le_trans (Nat.le_add_right _ 1) (Nat.le_trans (Nat.le_add_right _ 1) (Nat.le_add_right _ _)))))) h
/-- what a dict of texts says of a text -/
theorem lookup_map (x : Str) : ∀ es : List (Str × Str), Spec.lookup (.str x) (es.map fun p => (PyData.str p.1, PyData.str p.2)) = (es.lookup x).map PyData.str
  | [] => rfl
  | (k, v) :: r => by
    have ih := lookup_map x r
    show (if same (PyData.str k) (PyData.str x) = true then some (PyData.str v) else Spec.lookup (.str x) (r.map fun p => (PyData.str p.1, PyData.str p.2))) = _
    rw [same_str, List.lookup_cons]
    cases q : x == k with
    | true =>
      have : k = x := (eq_of_beq q).symm
      rw [if_pos (decide_eq_true this)]; rfl
    | false =>
      have : ¬ k = x := fun e => by rw [e, beq_self_eq_true] at q; cases q
      rw [if_neg (by rw [decide_eq_false this]; exact Bool.false_ne_true)]; exact ih
theorem W2.in_dict {a : Addr} {es : List (Str × Str)} {x : Str} {Q : V → Sto → Prop} (hx : σ a = some (.dict es)) (h : Q (.bool (es.lookup x).isSome) σ) : W2 B N (compareOp .In) (.str x) (.ref a) σ Q := fun A s v u R O r₁ r₂ => by
  cases r₂
  obtain ⟨t, rfl⟩ := r₁
  have D : DictAt B s.heap a es := O.cell a _ hx
  refine in_strTab D ?_
  rw [lookup_map, Option.isSome_map]
  exact ⟨.bool _, σ, .toks O, rfl, h⟩
theorem WC.dict_get {a : Addr} {es : List (Str × Str)} {x y : Str} {Q : V → Sto → Prop} (hx : σ a = some (.dict es)) (h : Q (.str ((es.lookup x).getD y)) σ) : WC B N (.bi "dict.get") [.ref a, .str x, .str y] [] σ Q := fun A s vf vs kws R O rf rv rk => by
  cases rf; cases rk
  obtain ⟨v, r, rfl, h1, u, r', rfl, ⟨t, rfl⟩, u', r'', rfl, ⟨t', rfl⟩, h3⟩ := rv; cases h3; cases h1
  have D : DictAt B s.heap a es := O.cell a _ hx
  refine call_get2_strTab D (.str y t') fun v hv => ?_
  rw [lookup_map] at hv
  have e : ((es.lookup x).map PyData.str).getD (PyData.str y) = PyData.str ((es.lookup x).getD y) := by cases es.lookup x <;> rfl
  rw [e] at hv
  obtain ⟨t2, rfl⟩ := hv.str_inv
  exact ⟨.str _, σ, .toks O, ⟨_, rfl⟩, h⟩
end
end

section
open PySem.SeqAt
open Builtin.Str
set_option maxRecDepth 100000
section
variable {B : Bs} {sc : Sc} {N : Nat} {ρ : Loc} {σ : Sto} {F : Frm} {A : Around} {s : Shared}

theorem W2.item_neg {a : Addr} {xs : List V} {d : V} {Q : V → Sto → Prop} (hx : σ a = some (.list xs)) (hd : xs[xs.length - 1]? = some d) (hl : xs.length ≤ sizeLine) (h : Q d σ) : W2 B N getItem (.ref a) (.int (-1)) σ Q := fun A s v u R O r₁ r₂ => by
  cases r₁
  obtain ⟨t, rfl⟩ := r₂
  obtain ⟨vs, pl, rl⟩ := O.cell a _ hx
  obtain ⟨y, hy, ry⟩ := rl.get hd
  have hk := (List.getElem?_eq_some_iff.mp hd).1
  have hv := rl.length
  refine wpAny_getItem_list_neg pl.isList (by lia) (by rw [List.size_toArray]; lia) (by lia) ?_ ⟨d, σ, .refl O, ry, h⟩
  rw [List.size_toArray]
  have : (-1 + (vs.length : Int)).toNat = xs.length - 1 := by lia
  rw [this]; simpa using hy
/-- pop -/
theorem WC.pop {a : Addr} {xs : List V} {d : V} {Q : V → Sto → Prop} (hx : σ a = some (.list xs)) (hd : xs[xs.length - 1]? = some d) (hl : xs.length ≤ sizeLine) (h : Q d (σ.set a (.list xs.dropLast))) : WC B N (.bi "list.pop") [.ref a] [] σ Q := fun A s vf vs kws R O rf rv rk => by
  cases rf; cases rk
  obtain ⟨v, r, rfl, h1, h3⟩ := rv; cases h3; cases h1
  obtain ⟨vs, pl, rl⟩ := O.cell a _ hx
  obtain ⟨y, hy, ry⟩ := rl.get hd
  have hv := rl.length
  have hk := (List.getElem?_eq_some_iff.mp hd).1
  obtain ⟨n, ho⟩ := pl
  have hs : Heap.ExtBut a s.heap (s.heap.update a (Obj.mapSeq fun xs => xs.eraseIdxIfInBounds ((List.toArray vs).size - 1))) := (Heap.SameBut.update ..).extBut
  refine call_meets F.slot_list_pop ⟨_, ho, rfl⟩ F.entry_list_pop (F.args_list_pop_1 _) (MeetsSeq.list_pop_last a _ n y (by rw [List.size_toArray, hv]; simpa using hy) (by rw [List.size_toArray, hv]; exact hl)) ⟨ho, ?_⟩
  refine ⟨d, _, PostS.upd (tk := s.toks) O hs hx (c := .list xs.dropLast) ⟨vs.dropLast, ?_, ?_⟩, ?_, h⟩
  · obtain ⟨n', hd'⟩ := Obj.data_mapSeq (o := { cls := .type "list", data := .seq (List.toArray vs) n }) rfl (fun xs => xs.eraseIdxIfInBounds ((List.toArray vs).size - 1))
    refine ⟨n', (Heap.get?_update_self _ ho (Obj.isFreed_of_seq hd')).trans ?_⟩
    have e1 : (List.toArray vs).eraseIdxIfInBounds ((List.toArray vs).size - 1) = List.toArray vs.dropLast := by
      apply Array.ext'
      rw [Array.toList_eraseIdxIfInBounds]
      simp [List.eraseIdx_length_sub_one]
    have e : ∀ (o : Obj), o.cls = .type "list" → o.dict = none → o.slots = #[] → o.data = .seq (List.toArray vs.dropLast) n' → some o = some { cls := .type "list", data := .seq (List.toArray vs.dropLast) n' } := by
      rintro ⟨c, d, da, sl⟩ h1 h2 h3 h4
      cases h1; cases h2; cases h3; cases h4; rfl
    exact e _ (Obj.cls_mapSeq ..) rfl rfl (by rw [← e1]; exact hd')
  · have M : Mono s.heap (s.heap.update a (Obj.mapSeq fun xs => xs.eraseIdxIfInBounds ((List.toArray vs).size - 1))) := fun b o hi e => hs b o (by rintro rfl; exact O.nt hx e hi) e
    rw [List.dropLast_eq_take, List.dropLast_eq_take, hv]
    exact (rl.mono M).take _
  · exact ry.mono fun b o hi e => hs b o (by rintro rfl; exact O.nt hx e hi) e
/-- strs out of values -/
theorem strs_of {h : Heap} : ∀ {xs : List Str} {vs : List Value}, RepL h (xs.map V.str) vs → ∃ l : List (Str × Tok), vs = strValues l ∧ l.map (·.1) = xs
  | [], vs, r => by cases r; exact ⟨[], rfl, rfl⟩
  | x :: xs, vs, r => by
    obtain ⟨v, r', rfl, ⟨t, rfl⟩, h2⟩ := r
    obtain ⟨l, rfl, e⟩ := strs_of h2
    exact ⟨(x, t) :: l, rfl, by simp [e]⟩
theorem of_strs {h : Heap} : ∀ (l : List (Str × Tok)), RepL h ((l.map (·.1)).map V.str) (strValues l)
  | [] => rfl
  | (x, t) :: l => ⟨_, _, rfl, ⟨t, rfl⟩, of_strs l⟩
theorem strsFrom_eq' (k : Nat) (xs : List Str) : ∃ l : List (Str × Tok), strsFrom k xs = strValues l ∧ l.map (·.1) = xs := by
  induction xs generalizing k with
  | nil => exact ⟨[], rfl, rfl⟩
  | cons x r ih => obtain ⟨l, e1, e2⟩ := ih (k + 1); exact ⟨(x, k) :: l, by show _ :: strsFrom (k + 1) r = _; rw [e1]; rfl, by simp [e2]⟩
theorem WC.join_list {a : Addr} {sep : Str} {xs : List Str} {Q : V → Sto → Prop} (hx : σ a = some (.list (xs.map V.str))) (ok : JoinOk sep xs = true) (h : Q (.str (Txt.join sep xs)) σ) : WC B N (.bi "str.join") [.str sep, .ref a] [] σ Q := fun A s vf vs kws R O rf rv rk => by
  cases rf; cases rk
  obtain ⟨v, r, rfl, ⟨t, rfl⟩, u, r', rfl, h2, h3⟩ := rv; cases h3; cases h2
  obtain ⟨vs, pl, rl⟩ := O.cell a _ hx
  obtain ⟨l, rfl, e⟩ := strs_of rl
  exact wpAny_with_toks O.tk (SC.join pl.isList e ok fun t' k hk => ⟨.str _, σ, PostS.toks O fun _ => hk, ⟨_, rfl⟩, h⟩)
theorem WC.join_tup {sep : Str} {xs : List Str} {Q : V → Sto → Prop} (ok : JoinOk sep xs = true) (h : Q (.str (Txt.join sep xs)) σ) : WC B N (.bi "str.join") [.str sep, .tup (xs.map V.str)] [] σ Q := fun A s vf vs kws R O rf rv rk => by
  cases rf; cases rk
  obtain ⟨v, r, rfl, ⟨t, rfl⟩, u, r', rfl, h2, h3⟩ := rv; cases h3
  obtain ⟨a, vs, rfl, ⟨o, ho, hc, n, hd⟩, rl⟩ := h2
  obtain ⟨l, rfl, e⟩ := strs_of rl
  unfold JoinOk at ok
  rw [Bool.not_eq_true'] at ok
  subst e
  exact wpAny_with_toks O.tk (call_meets F.slot_str_join (typeIs_str _ _ _) F.entry_str_join (F.args_str_join_2 _ _) (meets_str_join_tuple sep t a l ok) ⟨⟨o, n, ho, hc, hd⟩, post_join l ⟨joinFit_length ok, fun t' k hk => ⟨.str _, σ, PostS.toks O fun _ => hk, ⟨_, rfl⟩, h⟩⟩⟩)
end
end

section
open PySem.SeqAt
open Builtin.Str
set_option maxRecDepth 100000
section
variable {B : Bs} {sc : Sc} {N : Nat} {ρ : Loc} {σ : Sto} {F : Frm} {A : Around} {s : Shared}

theorem ints_of {h : Heap} : ∀ {xs : List Int} {vs : List Value}, RepL h (xs.map V.int) vs → ∃ l : List (Int × Tok), vs = l.map (fun p => Value.int p.1 p.2) ∧ l.map (·.1) = xs
  | [], vs, r => by cases r; exact ⟨[], rfl, rfl⟩
  | x :: xs, vs, r => by
    obtain ⟨v, r', rfl, ⟨t, rfl⟩, h2⟩ := r
    obtain ⟨l, rfl, e⟩ := ints_of h2
    exact ⟨(x, t) :: l, rfl, by simp [e]⟩
theorem WC.sum_ints {a : Addr} {xs : List Int} {Q : V → Sto → Prop} (hx : σ a = some (.list (xs.map V.int))) (hf : PyProof.Rows.SumFits xs) (h : Q (.int xs.sum) σ) : WC B N (.bi "sum") [.ref a] [] σ Q := fun A s vf vs kws R O rf rv rk => by
  cases rf; cases rk
  obtain ⟨v, r, rfl, h1, h3⟩ := rv; cases h3; cases h1
  obtain ⟨vs, pl, rl⟩ := O.cell a _ hx
  obtain ⟨l, rfl, e⟩ := ints_of rl
  have hn : numAt l.toArray = fun i => xs.getD i 0 := by
    funext i
    rw [← e]
    unfold numAt
    rw [List.getElem?_toArray, List.getD_eq_getElem?_getD, List.getElem?_map]
  have hlen : l.length = xs.length := by rw [← e, List.length_map]
  have hl : s.heap.IsList a (intItems l.toArray) := by
    have : intItems l.toArray = (l.map fun p => Value.int p.1 p.2).toArray := by simp [intItems]
    rw [this]; exact pl.isList
  refine wpAny_with_toks O.tk (sum_intList R.1 hl (fun j hj => ?_) fun h' tk t' hk ht => ?_)
  · rw [hn, PyProof.Rows.preSum_getD]
    exact hf j (by simpa [hlen] using hj)
  · rw [hn, PyProof.Rows.preSum_getD, List.size_toArray, hlen, List.take_length]
    exact ⟨.int xs.sum, σ, PostS.keeps O hk fun _ => ht, ⟨_, rfl⟩, h⟩
theorem WC.tuple_list {a : Addr} {xs : List V} {Q : V → Sto → Prop} (hx : σ a = some (.list xs)) (hl : xs.length ≤ sizeLine) (h : Q (.tup xs) σ) : WC B N (.ty "tuple") [.ref a] [] σ Q := fun A s vf vs kws R O rf rv rk => by
  cases rf; cases rk
  obtain ⟨v, r, rfl, h1, h3⟩ := rv; cases h3; cases h1
  obtain ⟨vs, pl, rl⟩ := O.cell a _ hx
  refine call_tuple_list pl.isList (fun h' hk => ?_) (by rw [List.size_toArray, rl.length]; exact hl)
  have P₁ : PostS B s σ { s with heap := h' } σ := PostS.keeps (tk := s.toks) O hk id
  exact ⟨.tup xs, σ, P₁.trans (PostS.push (tk := s.toks) P₁.o id), rep_tup_new (rl.mono (Mono.of_keeps hk)), h⟩
theorem WC.split {x y : Str} {Q : V → Sto → Prop} (hy : (y.length == 0) = false) (hl : x.length ≤ sizeLine) (hl2 : (partsBetween x (occurrences x y 0 x.length (x.length + 1)) y.length).length ≤ sizeLine)
    (h : ∀ a, σ a = none → Q (.ref a) (σ.set a (.list ((Txt.split x y).map V.str)))) : WC B N (.bi "str.split") [.str x, .str y] [] σ Q := fun A s vf vs kws R O rf rv rk => by
  cases rf; cases rk
  obtain ⟨v, r, rfl, ⟨t, rfl⟩, u, r', rfl, ⟨u', rfl⟩, h3⟩ := rv; cases h3
  have one : ∀ (tk : Nat), Txt.split x y = [x] → (1 ≤ s.toks → 1 ≤ tk) → PC B s σ Q (.ref s.heap.objs.size) { s with heap := s.heap.push { cls := .type "list", data := .seq #[.str x t] }, toks := tk } := fun tk e ht => by
    refine ⟨.ref _, _, PostS.new (tk := tk) O (c := .list ((Txt.split x y).map V.str)) ?_ ht, rfl, h _ O.free⟩
    rw [e]
    exact cell_list_new (vs := [.str x t]) (ds := [.str x]) ⟨_, _, rfl, ⟨t, rfl⟩, rfl⟩
  cases h1 : (decide (x.length < y.length) || decide (strKind x < strKind y))
  · cases hf : (occurrences x y 0 x.length (x.length + 1)).isEmpty
    · refine call_meets F.slot_str_split (typeIs_str _ _ _) F.entry_str_split (F.args_str_split_2 _ _) (meets_str_split_sep x y t u' h1 hy hf hl hl2) ?_
      have e : Txt.split x y = partsBetween x (occurrences x y 0 x.length (x.length + 1)) y.length := by
        unfold Txt.split; rw [if_neg (by rw [h1]; exact Bool.false_ne_true), if_neg (by rw [hf]; exact Bool.false_ne_true)]
      obtain ⟨l, e1, e2⟩ := strsFrom_eq' s.toks (partsBetween x (occurrences x y 0 x.length (x.length + 1)) y.length)
      refine ⟨.ref _, _, PostS.new (tk := s.toks + (partsBetween x (occurrences x y 0 x.length (x.length + 1)) y.length).length) O (c := .list ((Txt.split x y).map V.str)) ?_, rfl, h _ O.free⟩
      rw [e, e1]
      refine cell_list_new ?_
      rw [← e2]; exact of_strs l
    · exact call_meets F.slot_str_split (typeIs_str _ _ _) F.entry_str_split (F.args_str_split_2 _ _) (meets_str_split_not_found x y t u' h1 hy hf) (one s.toks (by unfold Txt.split; rw [if_neg (by rw [h1]; exact Bool.false_ne_true), if_pos hf]) id)
  · exact call_meets F.slot_str_split (typeIs_str _ _ _) F.entry_str_split (F.args_str_split_2 _ _) (meets_str_split_cannot_occur x y t u' h1) (one s.toks (by unfold Txt.split; rw [if_pos h1]) id)

/-! ## data -/
mutual
inductive RD (σ : Sto) : V → PyData → Prop
  | int (i) : RD σ (.int i) (.int i)
  | str (x) : RD σ (.str x) (.str x)
  | tup {xs ds} : RDL σ xs ds → RD σ (.tup xs) (.tuple ds)
  | lst {a xs ds} : σ a = some (.list xs) → RDL σ xs ds → RD σ (.ref a) (.list ds)
inductive RDL (σ : Sto) : List V → List PyData → Prop
  | nil : RDL σ [] []
  | cons {x xs d ds} : RD σ x d → RDL σ xs ds → RDL σ (x :: xs) (d :: ds)
end
mutual
theorem RD.reads (O : OkS B s σ) : ∀ {d : V} {D : PyData} {v : Value}, RD σ d D → Rep s.heap d v → ∃ as, Reads s.heap v D as
  | _, _, v, .int i, r => by obtain ⟨t, rfl⟩ := r; exact ⟨_, .int i t⟩
  | _, _, v, .str i, r => by obtain ⟨t, rfl⟩ := r; exact ⟨_, .str i t⟩
  | _, _, v, .tup h, r => by
    obtain ⟨a, vs, rfl, ⟨o, ho, hc, n, hd⟩, rl⟩ := r
    obtain ⟨as, hs⟩ := RDL.reads O h rl
    exact ⟨as, .tuple ho hc hd (by simpa using hs)⟩
  | _, _, v, .lst (a := a) hx h, r => by
    cases r
    obtain ⟨vs, ⟨n, ho⟩, rl⟩ := O.cell a _ hx
    obtain ⟨as, hs⟩ := RDL.reads O h rl
    exact ⟨a :: as, .list ho rfl rfl (by simpa using hs)⟩
theorem RDL.reads (O : OkS B s σ) : ∀ {ds : List V} {Ds : List PyData} {vs : List Value}, RDL σ ds Ds → RepL s.heap ds vs → ∃ as, ReadsAll s.heap vs Ds as
  | _, _, vs, .nil, r => by cases r; exact ⟨_, .nil⟩
  | _, _, vs, .cons h1 h2, r => by
    obtain ⟨v, r', rfl, r1, r2⟩ := r
    obtain ⟨as, h3⟩ := RD.reads O h1 r1
    obtain ⟨bs, h4⟩ := RDL.reads O h2 r2
    exact ⟨as ++ bs, .cons h3 h4⟩
end
theorem Room.u64 {N : Nat} (R : Room A N) (h : 4 ≤ N) : A.units + 64 < cLine := by have := R.2.2; lia
theorem W2.eq_rd {a b : V} {D E : PyData} {Q : V → Sto → Prop} (ha : RD σ a D) (hb : RD σ b E) (sa : shaped D = true) (sb : shaped E = true) (hm : noMix D E = true) (hN : 4 ≤ N) (h : Q (.bool (Spec.same D E)) σ) : W2 B N (compareOp .Eq) a b σ Q := fun A s v u R O r₁ r₂ => by
  obtain ⟨as, h1⟩ := ha.reads O r₁
  obtain ⟨bs, h2⟩ := hb.reads O r₂
  exact eq_dataH_same h1 h2 sa sb (R.u64 hN) hm ⟨.bool _, σ, .refl O, rfl, h⟩
theorem W2.ne_rd {a b : V} {D E : PyData} {Q : V → Sto → Prop} (ha : RD σ a D) (hb : RD σ b E) (sa : shaped D = true) (sb : shaped E = true) (hm : noMix D E = true) (hN : 4 ≤ N) (h : Q (.bool (!Spec.same D E)) σ) : W2 B N (compareOp .NotEq) a b σ Q := fun A s v u R O r₁ r₂ => by
  obtain ⟨as, h1⟩ := ha.reads O r₁
  obtain ⟨bs, h2⟩ := hb.reads O r₂
  exact ne_dataH_same h1 h2 sa sb (R.u64 hN) hm ⟨.bool _, σ, .refl O, rfl, h⟩
end
end

section
open PySem.SeqAt
open Builtin.Str
open AutoSeq1 (wpAny_loadPart')
open MeetsSeq MeetsSeq2 MeetsSeq3 SeqRoads2
set_option maxRecDepth 100000
/-- one comparison, the state as it was -/
noncomputable def OpAt (op : CmpOp) (A : Around) (s : Shared) (y x : Value) (b : Bool) : Prop :=
  ∀ (prog : Program) (w : World) (E : Value → Shared → Prop) (Q : Value → Shared → Prop), Q (.bool b) s → wpAny (model prog w) A (richCompare op y x) Q E s
noncomputable def lexv (fin : Bool) (e l : Nat → Bool) : Nat → Nat → Bool
  | _, 0 => fin
  | i, k + 1 => if e i = true then lexv fin e l (i + 1) k else l i
/-- how the lengths answer -/
noncomputable def lenv (op : CmpOp) (m n : Nat) : Bool := match op with | .Lt => m < n | _ => m > n

set_option maxHeartbeats 2000000 in
theorem lt_loopAt (op : CmpOp) (code : Int) (hop : (op = .Lt ∧ code = 0) ∨ (op = .Gt ∧ code = 4)) (l b : Addr) (items items2 : Array Value) (n n2 : Nat) (dd dd2 : Option Addr) (sl sl2 : Array (Option Value)) (e lt : Nat → Bool) (k : Nat) :
    ∀ i : Nat, min items.size items2.size - i = k → i ≤ min items.size items2.size → Meets (Builtin.«list.__eq__.loop» ⟨[.ref l, .ref b, rawInt i, rawInt code], []⟩)
      (fun A R s => s.heap.get? l = some { cls := .type "list", dict := dd, data := .seq items n, slots := sl } ∧ s.heap.get? b = some { cls := .type "list", dict := dd2, data := .seq items2 n2, slots := sl2 } ∧
        (∀ j (h1 : j < items.size) (h2 : j < items2.size), EqAt A.in1 s items[j] items2[j] (e j)) ∧ (∀ j (h1 : j < items.size) (h2 : j < items2.size), OpAt op A.in1 s items[j] items2[j] (lt j)) ∧
        R (.ok (.ret (.bool (lexv (lenv op items.size items2.size) e lt i k)))) s) := by
  induction k with
  | zero =>
    intro i hk hle prog w A R s h
    obtain ⟨hp, g, d, tk, os⟩ := s; obtain ⟨hl, hb, he, hlt, h⟩ := h
    rcases hop with ⟨rfl, rfl⟩ | ⟨rfl, rfl⟩
    all_goals
      wp_walk using wpAny_loadPart' hl, wpAny_loadPart' hb
      rcases Nat.lt_or_ge i items.size with q | q
      · have hi1 : items[((i : Nat) : Int).toNat]? = some items[i] := by simp [q]
        have hi2 : items2[((i : Nat) : Int).toNat]? = none := by simp; lia
        rw [hi1, hi2]
        wp_walk using wpAny_loadPart' hl, wpAny_loadPart' hb
        exact h
      · have hi1 : items[((i : Nat) : Int).toNat]? = none := by simp; lia
        rw [hi1]
        wp_walk using wpAny_loadPart' hl, wpAny_loadPart' hb
        exact h
  | succ k ih =>
    intro i hk hle prog w A R s h
    obtain ⟨hp, g, d, tk, os⟩ := s; obtain ⟨hl, hb, he, hlt', h⟩ := h
    have hlt : i < items.size := by lia
    have hlt2 : i < items2.size := by lia
    have hi1 : items[((i : Nat) : Int).toNat]? = some items[i] := by simp [hlt]
    have hi2 : items2[((i : Nat) : Int).toNat]? = some items2[i] := by simp [hlt2]
    have hc : ((i : Int) + 1) = ((i + 1 : Nat) : Int) := by push_cast; rfl
    have hop' := hop
    rcases hop with ⟨rfl, rfl⟩ | ⟨rfl, rfl⟩
    all_goals
      wp_walk using wpAny_loadPart' hl, wpAny_loadPart' hb
      rw [hi1, hi2]
      refine wpAny_bind (he i hlt hlt2 prog w _ _ ?_)
      cases hb' : e i with
      | true =>
        simp only [lexv, hb', if_true] at h
        wp_walk
        rw [hc]
        exact ⟨plainId_quiet plain_eq_loop _, codeAny_builtin entry_eq_loop (by
          rw [Around.under_plainId plain_eq_loop _]
          exact ih (i + 1) (by lia) (by lia) prog w A R _ ⟨hl, hb, he, hlt', h⟩)⟩
      | false =>
        simp only [lexv, hb', Bool.false_eq_true, if_false] at h
        wp_walk using wpAny_loadPart' hl, wpAny_loadPart' hb
        rw [hi1, hi2]
        show wpAny _ _ (richCompare _ items[i] items2[i] >>= fun v => ret v) _ _ _
        refine wpAny_bind (hlt' i hlt hlt2 prog w _ _ ?_)
        exact wpAny_pure h

theorem list_ltAt (l b : Addr) (items items2 : Array Value) (n n2 : Nat) (dd dd2 : Option Addr) (sl sl2 : Array (Option Value)) (e lt : Nat → Bool) :
    Meets (Builtin.«list.__lt__» ⟨[.ref l, .ref b], []⟩)
      (fun A R s => s.heap.get? l = some { cls := .type "list", dict := dd, data := .seq items n, slots := sl } ∧ s.heap.get? b = some { cls := .type "list", dict := dd2, data := .seq items2 n2, slots := sl2 } ∧
        (∀ j (h1 : j < items.size) (h2 : j < items2.size), EqAt A.in1 s items[j] items2[j] (e j)) ∧ (∀ j (h1 : j < items.size) (h2 : j < items2.size), OpAt .Lt A.in1 s items[j] items2[j] (lt j)) ∧
        R (.ok (.ret (.bool (lexv (lenv .Lt items.size items2.size) e lt 0 (min items.size items2.size))))) s) := by
  intro prog w A R s h
  obtain ⟨hp, g, d, tk, os⟩ := s; obtain ⟨hl, hb, he, hlt, h⟩ := h
  have f3 := AutoSeq1.sub_list_list
  wp_walk using wpAny_loadPart' hl, wpAny_loadPart' hb
  exact ⟨plainId_quiet plain_eq_loop _, codeAny_builtin entry_eq_loop (by
    rw [Around.under_plainId plain_eq_loop _]
    exact lt_loopAt .Lt 0 (.inl ⟨rfl, rfl⟩) l b items items2 n n2 dd dd2 sl sl2 e lt _ 0 (Nat.sub_zero _) (Nat.zero_le _) prog w A R _ ⟨hl, hb, he, hlt, h⟩)⟩
theorem list_gtAt (l b : Addr) (items items2 : Array Value) (n n2 : Nat) (dd dd2 : Option Addr) (sl sl2 : Array (Option Value)) (e lt : Nat → Bool) :
    Meets (Builtin.«list.__gt__» ⟨[.ref l, .ref b], []⟩)
      (fun A R s => s.heap.get? l = some { cls := .type "list", dict := dd, data := .seq items n, slots := sl } ∧ s.heap.get? b = some { cls := .type "list", dict := dd2, data := .seq items2 n2, slots := sl2 } ∧
        (∀ j (h1 : j < items.size) (h2 : j < items2.size), EqAt A.in1 s items[j] items2[j] (e j)) ∧ (∀ j (h1 : j < items.size) (h2 : j < items2.size), OpAt .Gt A.in1 s items[j] items2[j] (lt j)) ∧
        R (.ok (.ret (.bool (lexv (lenv .Gt items.size items2.size) e lt 0 (min items.size items2.size))))) s) := by
  intro prog w A R s h
  obtain ⟨hp, g, d, tk, os⟩ := s; obtain ⟨hl, hb, he, hlt, h⟩ := h
  have f3 := AutoSeq1.sub_list_list
  wp_walk using wpAny_loadPart' hl, wpAny_loadPart' hb
  exact ⟨plainId_quiet plain_eq_loop _, codeAny_builtin entry_eq_loop (by
    rw [Around.under_plainId plain_eq_loop _]
    exact lt_loopAt .Gt 4 (.inr ⟨rfl, rfl⟩) l b items items2 n n2 dd dd2 sl sl2 e lt _ 0 (Nat.sub_zero _) (Nat.zero_le _) prog w A R _ ⟨hl, hb, he, hlt, h⟩)⟩
theorem tuple_ltAt (l b : Addr) (items items2 : Array Value) (n n2 : Nat) (dd dd2 : Option Addr) (sl sl2 : Array (Option Value)) (e lt : Nat → Bool) :
    Meets (Builtin.«tuple.__lt__» ⟨[.ref l, .ref b], []⟩)
      (fun A R s => s.heap.get? l = some { cls := .type "tuple", dict := dd, data := .seq items n, slots := sl } ∧ s.heap.get? b = some { cls := .type "tuple", dict := dd2, data := .seq items2 n2, slots := sl2 } ∧
        (∀ j (h1 : j < items.size) (h2 : j < items2.size), EqAt A.in1 s items[j] items2[j] (e j)) ∧ (∀ j (h1 : j < items.size) (h2 : j < items2.size), OpAt .Lt A.in1 s items[j] items2[j] (lt j)) ∧
        R (.ok (.ret (.bool (lexv (lenv .Lt items.size items2.size) e lt 0 (min items.size items2.size))))) s) :=
  .of_wp fun prog w A R s h => by
    obtain ⟨hp, g, d, tk, os⟩ := s; obtain ⟨hl, hb, he, hlt', h⟩ := h
    have f2 := AutoSeq1.sub_tuple_tuple
    have hZ : (items.toList.zip items2.toList).length = min items.size items2.size := by simp
    wp_walk using wpAny_loadPart' hl, wpAny_loadPart' hb, wpAny_forIn_list _ (fun rest b s' => b.1 = none ∧ s' = ⟨hp, g, d, tk, os⟩ ∧ ∃ i, rest = (items.toList.zip items2.toList).drop i ∧ i ≤ min items.size items2.size ∧
      R (.ok (.ret (.bool (lexv (lenv .Lt items.size items2.size) e lt i (min items.size items2.size - i))))) ⟨hp, g, d, tk, os⟩) _
    case turn =>
      rintro ⟨y, x⟩ rest b s' ⟨hb', rfl, i, hz, hle, hR⟩
      have hlt : i < (items.toList.zip items2.toList).length := by
        rcases Nat.lt_or_ge i (items.toList.zip items2.toList).length with h' | h'
        · exact h'
        · rw [List.drop_of_length_le h'] at hz; cases hz
      have hm : i < min items.size items2.size := hZ ▸ hlt
      have h1 : i < items.size := Nat.lt_of_lt_of_le hm (Nat.min_le_left _ _)
      have h2 : i < items2.size := Nat.lt_of_lt_of_le hm (Nat.min_le_right _ _)
      rw [List.drop_eq_getElem_cons hlt] at hz
      injection hz with hyx hrest
      have hy : y = items[i] := by have := congrArg Prod.fst hyx; simpa using this
      have hx : x = items2[i] := by have := congrArg Prod.snd hyx; simpa using this
      subst hy hx
      have hd : min items.size items2.size - i = (min items.size items2.size - (i + 1)) + 1 := by lia
      rw [hd] at hR
      refine wpAny_bind (he i h1 h2 prog w _ _ ?_)
      cases hy : e i with
      | true =>
        simp only [lexv, hy, if_true] at hR
        wp_walk
        exact ⟨rfl, rfl, i + 1, hrest, hm, hR⟩
      | false =>
        simp only [lexv, hy, Bool.false_eq_true, if_false] at hR
        show wpAny _ _ (do rule _; let r ← richCompare _ items[i] items2[i]; let f ← ret r; pure (ForInStep.done (some f, ()))) _ _ _
        refine wpAny_bind (wpAny_rule (wpAny_bind (hlt' i h1 h2 prog w _ _ ?_)))
        refine wpAny_bind (wpAny_pure (wpAny_pure ?_))
        wp_walk
        exact ⟨_, rfl, hR⟩
    case fin =>
      rintro ⟨b1, b2⟩ s' ⟨hb', rfl, i, hz, hle, hR⟩
      simp only at hb'
      subst hb'
      have hge : min items.size items2.size ≤ i := by
        rcases Nat.lt_or_ge i (items.toList.zip items2.toList).length with h' | h'
        · rw [List.drop_eq_getElem_cons h'] at hz; cases hz
        · exact hZ ▸ h'
      have hd : min items.size items2.size - i = 0 := by lia
      rw [hd] at hR
      wp_walk
      exact ⟨_, rfl, hR⟩
    case h =>
      exact ⟨rfl, rfl, 0, rfl, Nat.zero_le _, h⟩
end

section
open PySem.SeqAt
open Builtin.Str
set_option maxRecDepth 100000
theorem lexv_succ (fin : Bool) (e l : Nat → Bool) : ∀ (k i : Nat), lexv fin e l (i + 1) k = lexv fin (fun j => e (j + 1)) (fun j => l (j + 1)) i k
  | 0, i => rfl
  | k + 1, i => by simp only [lexv]; rw [lexv_succ fin e l k (i + 1)]
/-- texts in their order, rows of texts in theirs -/
noncomputable def tlt (x y : Str) : Bool := decide (x.cps.toList < y.cps.toList)
noncomputable def slt : List Str → List Str → Bool
  | [], [] => false
  | [], _ :: _ => true
  | _ :: _, [] => false
  | x :: xs, y :: ys => if x == y then slt xs ys else tlt x y
theorem lexv_slt : ∀ (xs ys : List Str) (e l : Nat → Bool), (∀ j x y, xs[j]? = some x → ys[j]? = some y → e j = (x == y) ∧ l j = tlt x y) → lexv (lenv .Lt xs.length ys.length) e l 0 (min xs.length ys.length) = slt xs ys
  | [], [], e, l, h => rfl
  | [], y :: ys, e, l, h => by show lexv _ e l 0 (min 0 _) = true; rw [Nat.zero_min]; simp [lexv, lenv]
  | x :: xs, [], e, l, h => by show lexv _ e l 0 (min _ 0) = false; rw [Nat.min_zero]; simp [lexv, lenv]
  | x :: xs, y :: ys, e, l, h => by
    have hm : min (x :: xs).length (y :: ys).length = min xs.length ys.length + 1 := by simp only [List.length_cons]; lia
    obtain ⟨h1, h2⟩ := h 0 x y rfl rfl
    rw [hm]
    simp only [lexv, slt]
    rw [h1]
    cases q : x == y with
    | true =>
      simp only [if_true]
      rw [lexv_succ]
      have e1 : lenv .Lt (x :: xs).length (y :: ys).length = lenv .Lt xs.length ys.length := by simp [lenv]
      rw [e1]
      exact lexv_slt xs ys _ _ fun j a b ha hb => h (j + 1) a b (by simpa using ha) (by simpa using hb)
    | false => simp only [Bool.false_eq_true, if_false]; exact h2
theorem lexv_sgt : ∀ (xs ys : List Str) (e l : Nat → Bool), (∀ j x y, xs[j]? = some x → ys[j]? = some y → e j = (x == y) ∧ l j = tlt y x) → lexv (lenv .Gt xs.length ys.length) e l 0 (min xs.length ys.length) = slt ys xs
  | [], [], e, l, h => rfl
  | [], y :: ys, e, l, h => by show lexv _ e l 0 (min 0 _) = false; rw [Nat.zero_min]; simp [lexv, lenv]
  | x :: xs, [], e, l, h => by show lexv _ e l 0 (min _ 0) = true; rw [Nat.min_zero]; simp [lexv, lenv]
  | x :: xs, y :: ys, e, l, h => by
    have hm : min (x :: xs).length (y :: ys).length = min xs.length ys.length + 1 := by simp only [List.length_cons]; lia
    obtain ⟨h1, h2⟩ := h 0 x y rfl rfl
    rw [hm]
    simp only [lexv, slt]
    rw [h1]
    have hc : (y == x) = (x == y) := Bool.eq_iff_iff.mpr ⟨fun q => beq_iff_eq.mpr (beq_iff_eq.mp q).symm, fun q => beq_iff_eq.mpr (beq_iff_eq.mp q).symm⟩
    rw [hc]
    cases q : x == y with
    | true =>
      simp only [if_true]
      rw [lexv_succ]
      have e1 : lenv .Gt (x :: xs).length (y :: ys).length = lenv .Gt xs.length ys.length := by simp [lenv]
      rw [e1]
      exact lexv_sgt xs ys _ _ fun j a b ha hb => h (j + 1) a b (by simpa using ha) (by simpa using hb)
    | false => simp only [Bool.false_eq_true, if_false]; exact h2

section
variable {B : Bs} {sc : Sc} {N : Nat} {ρ : Loc} {σ : Sto} {F : Frm} {A : Around} {s : Shared}
theorem OpAt.lt_str {x y : Str} {t u : Tok} : OpAt .Lt A s (.str x t) (.str y u) (tlt x y) := fun prog w E Q h => PyProof.Rows.lt_str h
theorem OpAt.gt_str {x y : Str} {t u : Tok} : OpAt .Gt A s (.str x t) (.str y u) (tlt y x) := fun prog w E Q h => PySem.P.gt_str h
theorem EqAt.strs {x y : Str} {t u : Tok} : EqAt A s (.str x t) (.str y u) (x == y) := SeqAt.EqAt.str_str x t y u
/-- lists of texts -/
theorem list_cmp {l b : Addr} {xs ys : List (Str × Tok)} (hl : s.heap.IsList l (strValues xs).toArray) (hb : s.heap.IsList b (strValues ys).toArray) (hu : A.units < cLine) :
    OpAt .Lt A s (.ref l) (.ref b) (slt (xs.map (·.1)) (ys.map (·.1))) ∧ OpAt .Gt A s (.ref l) (.ref b) (slt (ys.map (·.1)) (xs.map (·.1))) := by
  obtain ⟨⟨cls, dd, data, sl⟩, ho, hc, n, hd⟩ := id hl
  obtain ⟨⟨cls2, dd2, data2, sl2⟩, ho2, hc2, n2, hd2⟩ := id hb
  simp only at hc hd hc2 hd2
  subst hc hd hc2 hd2
  have sz1 : (strValues xs).toArray.size = (xs.map (·.1)).length := by simp [strValues]
  have sz2 : (strValues ys).toArray.size = (ys.map (·.1)).length := by simp [strValues]
  have g1 : ∀ j (h : j < (strValues xs).toArray.size), ∃ x t, (xs.map (·.1))[j]? = some x ∧ (strValues xs).toArray[j] = .str x t := fun j h => by
    have h' : j < xs.length := by simpa [strValues] using h
    exact ⟨xs[j].1, xs[j].2, by simp [h'], by simp [strValues]⟩
  have g2 : ∀ j (h : j < (strValues ys).toArray.size), ∃ x t, (ys.map (·.1))[j]? = some x ∧ (strValues ys).toArray[j] = .str x t := fun j h => by
    have h' : j < ys.length := by simpa [strValues] using h
    exact ⟨ys[j].1, ys[j].2, by simp [h'], by simp [strValues]⟩
  let e : Nat → Bool := fun j => (xs.map (·.1))[j]?.getD ⟨#[]⟩ == (ys.map (·.1))[j]?.getD ⟨#[]⟩
  let f : Nat → Bool := fun j => tlt ((xs.map (·.1))[j]?.getD ⟨#[]⟩) ((ys.map (·.1))[j]?.getD ⟨#[]⟩)
  let g : Nat → Bool := fun j => tlt ((ys.map (·.1))[j]?.getD ⟨#[]⟩) ((xs.map (·.1))[j]?.getD ⟨#[]⟩)
  have he : ∀ {A : Around} j (h1 : j < (strValues xs).toArray.size) (h2 : j < (strValues ys).toArray.size), EqAt A s (strValues xs).toArray[j] (strValues ys).toArray[j] (e j) := fun j h1 h2 => by
    obtain ⟨x, t, e1, e2⟩ := g1 j h1
    obtain ⟨y, u, e3, e4⟩ := g2 j h2
    rw [e2, e4]
    show EqAt _ s _ _ ((xs.map (·.1))[j]?.getD ⟨#[]⟩ == (ys.map (·.1))[j]?.getD ⟨#[]⟩)
    rw [e1, e3]; exact EqAt.strs
  constructor
  · intro prog w E Q h
    refine richCompare_meets_room (op := .Lt) ⟨_, ho, rfl⟩ ⟨_, ho2, rfl⟩ F.slot_list_lt F.entry_list_lt (F.args_list_lt_2 _ _) (list_ltAt l b _ _ n n2 dd dd2 sl sl2 e f)
      ⟨ho, ho2, he, fun j h1 h2 => ?_, show Value.bool _ ≠ Value.notImplemented ∧ Q (.bool _) s from ⟨(fun x => nomatch x), ?_⟩⟩ hu
    · obtain ⟨x, t, e1, e2⟩ := g1 j h1
      obtain ⟨y, u, e3, e4⟩ := g2 j h2
      rw [e2, e4]
      show OpAt .Lt _ s _ _ (tlt ((xs.map (·.1))[j]?.getD ⟨#[]⟩) ((ys.map (·.1))[j]?.getD ⟨#[]⟩))
      rw [e1, e3]; exact OpAt.lt_str
    · rw [sz1, sz2, lexv_slt (xs.map (·.1)) (ys.map (·.1)) e f (fun j x y hx hy => by
        constructor
        · show ((xs.map (·.1))[j]?.getD ⟨#[]⟩ == (ys.map (·.1))[j]?.getD ⟨#[]⟩) = _; rw [hx, hy]; rfl
        · show tlt ((xs.map (·.1))[j]?.getD ⟨#[]⟩) ((ys.map (·.1))[j]?.getD ⟨#[]⟩) = _; rw [hx, hy]; rfl)]
      exact h
  · intro prog w E Q h
    refine richCompare_meets_room (op := .Gt) ⟨_, ho, rfl⟩ ⟨_, ho2, rfl⟩ F.slot_list_gt F.entry_list_gt (F.args_list_gt_2 _ _) (list_gtAt l b _ _ n n2 dd dd2 sl sl2 e g)
      ⟨ho, ho2, he, fun j h1 h2 => ?_, show Value.bool _ ≠ Value.notImplemented ∧ Q (.bool _) s from ⟨(fun x => nomatch x), ?_⟩⟩ hu
    · obtain ⟨x, t, e1, e2⟩ := g1 j h1
      obtain ⟨y, u, e3, e4⟩ := g2 j h2
      rw [e2, e4]
      show OpAt .Gt _ s _ _ (tlt ((ys.map (·.1))[j]?.getD ⟨#[]⟩) ((xs.map (·.1))[j]?.getD ⟨#[]⟩))
      rw [e1, e3]; exact OpAt.gt_str
    · rw [sz1, sz2, lexv_sgt (xs.map (·.1)) (ys.map (·.1)) e g (fun j x y hx hy => by
        constructor
        · show ((xs.map (·.1))[j]?.getD ⟨#[]⟩ == (ys.map (·.1))[j]?.getD ⟨#[]⟩) = _; rw [hx, hy]; rfl
        · show tlt ((ys.map (·.1))[j]?.getD ⟨#[]⟩) ((xs.map (·.1))[j]?.getD ⟨#[]⟩) = _; rw [hx, hy]; rfl)]
      exact h
/-- a text and a number -/
noncomputable def plt : V → V → Bool
  | .tup [.str x, .int i], .tup [.str y, .int j] => if x == y then decide (i < j) else tlt x y
  | .str x, .str y => tlt x y
  | _, _ => false
theorem OpAt.lt_int {i j : Int} {t u : Tok} : OpAt .Lt A s (.int i t) (.int j u) (decide (i < j)) := fun prog w E Q h => PyProof.Rows.lt_int h
theorem EqAt.ints {i j : Int} {t u : Tok} : EqAt A s (.int i t) (.int j u) (i == j) := fun prog w E Q h => MeetsSeq.EqGives.int i j t u prog w A E s Q h
theorem W2.lt_pair {x y : Str} {i j : Int} {Q : V → Sto → Prop} (h : Q (.bool (plt (.tup [.str x, .int i]) (.tup [.str y, .int j]))) σ) (hN : 1 ≤ N) : W2 B N (compareOp .Lt) (.tup [.str x, .int i]) (.tup [.str y, .int j]) σ Q := fun A s v u R O r₁ r₂ => by
  obtain ⟨a, vs, rfl, ht, v1, q1, rfl, ⟨t1, rfl⟩, v2, q2, rfl, ⟨t2, rfl⟩, g1⟩ := r₁; cases g1
  obtain ⟨b, us, rfl, hb, u1, p1, rfl, ⟨t3, rfl⟩, u2, p2, rfl, ⟨t4, rfl⟩, g2⟩ := r₂; cases g2
  obtain ⟨⟨cls, dd, data, sl⟩, ho, hc, n, hd⟩ := id ht
  obtain ⟨⟨cls2, dd2, data2, sl2⟩, ho2, hc2, n2, hd2⟩ := id hb
  simp only at hc hd hc2 hd2
  subst hc hd hc2 hd2
  show wpAny _ A (richCompare .Lt (.ref a) (.ref b)) _ _ s
  let e : Nat → Bool := fun k => if k = 0 then x == y else i == j
  let f : Nat → Bool := fun k => if k = 0 then tlt x y else decide (i < j)
  refine richCompare_meets_room (op := .Lt) ⟨_, ho, rfl⟩ ⟨_, ho2, rfl⟩ F.slot_tuple_lt F.entry_tuple_lt (F.args_tuple_lt_2 _ _) (tuple_ltAt a b _ _ n n2 dd dd2 sl sl2 e f)
      ⟨ho, ho2, fun k h1 h2 => ?_, fun k h1 h2 => ?_, show Value.bool _ ≠ Value.notImplemented ∧ _ from ⟨(fun x => nomatch x), ?_⟩⟩ R.units
  · have : k < 2 := h1
    match k, this with
    | 0, _ => exact EqAt.strs
    | 1, _ => exact EqAt.ints
  · have : k < 2 := h1
    match k, this with
    | 0, _ => exact OpAt.lt_str
    | 1, _ => exact OpAt.lt_int
  · have e1 : lexv (lenv .Lt 2 2) e f 0 (min 2 2) = plt (.tup [.str x, .int i]) (.tup [.str y, .int j]) := by
      show lexv false e f 0 2 = if x == y then decide (i < j) else tlt x y
      simp only [lexv, e, f]
      cases x == y with
      | true =>
        by_cases q : i = j
        · subst q; simp
        · simp [q]
      | false => simp
    refine ⟨.bool _, σ, .refl O, rfl, ?_⟩
    rw [← e1] at h
    exact h
end
end

section
open PySem.SeqAt
open Builtin.Str
set_option maxRecDepth 100000
theorem sub_rangeiter_reversed : isSubtype (.type "range_iterator") (.type "reversed") = pure false := by rw [isSubtype_type]; kernel_rfl
section
variable {B : Bs} {sc : Sc} {N : Nat} {ρ : Loc} {σ : Sto} {F : Frm} {A : Around} {s : Shared}
theorem asInt_int (i : Int) (t : Tok) : asInt? (.int i t) = pure (some i) := rfl
noncomputable def ritObj (x n c : Int) : Obj := { cls := .type "range_iterator", data := .fields #[rawInt x, rawInt n, rawInt c] }
theorem rangeFields_ {prog : Program} {w : World} {E : Value → Shared → Prop} {r : Addr} {a b c : Int} {t u u' : Tok} {Q : Int × Int × Int → Shared → Prop} (hr : IsRange s.heap r a b c t u u') (h : Q (a, b, c) s) : wpAny (model prog w) A (Builtin.Range.rangeFields (.ref r)) Q E s := by
  unfold Builtin.Range.rangeFields
  refine wpAny_bind (wpAny_field hr rfl (x := .int a t) rfl (wpAny_bind (wpAny_of_eq (asInt_int _ _) ?_)))
  refine wpAny_bind (wpAny_field hr rfl (x := .int b u) rfl (wpAny_bind (wpAny_of_eq (asInt_int _ _) ?_)))
  refine wpAny_bind (wpAny_field hr rfl (x := .int c u') rfl (wpAny_bind (wpAny_of_eq (asInt_int _ _) ?_)))
  exact wpAny_pure h
theorem call_range_reversed {prog : Program} {w : World} {E : Value → Shared → Prop} {r : Addr} {m : Nat} {t u u' : Tok} {Q : Value → Shared → Prop} (hr : IsRange s.heap r 0 (m : Int) 1 t u u') (hm : m ≤ 1000)
    (h : Q (.ref s.heap.objs.size) { s with heap := s.heap.push (ritObj ((m : Int) - 1) m (-1)) }) : wpAny (model prog w) A (call (.builtin "range.__reversed__") [.ref r]) Q E s := by
  have hT : s.TypeIs (.ref r) "range" := ⟨_, hr, rfl⟩
  have hn : Builtin.Range.rangeSize 0 (m : Int) 1 = m := by
    rw [rangeSize_one]; split <;> lia
  refine wpAny_call_entry PySem.F.slot_range_reversed hT PySem.F.entry_range_reversed ?_ (PySem.F.args_range_reversed_1 _)
  unfold Builtin.«range.__reversed__»
  refine wpAny_bind (wpAny_of_eq (a := Value.ref r) rfl ?_)
  show wpAny _ _ (Builtin.Range.rangeFields (.ref r) >>= _) _ _ _
  refine wpAny_bind ?_
  refine rangeFields_ hr ?_
  show wpAny _ _ (if (!(Builtin.Range.rangeFitsLong 0 && Builtin.Range.rangeFitsLong (m : Int) && Builtin.Range.rangeFitsLong 1 && Builtin.Range.rangeFitsLong (-1) && Builtin.Range.rangeFitsLong (0 - 1) && Builtin.Range.rangeFitsLong (Builtin.Range.rangeSize 0 (m : Int) 1))) = true then _ else _) _ _ _
  have hs : (Builtin.Range.rangeFitsLong 0 && Builtin.Range.rangeFitsLong (m : Int) && Builtin.Range.rangeFitsLong 1 && Builtin.Range.rangeFitsLong (-1) && Builtin.Range.rangeFitsLong (0 - 1) && Builtin.Range.rangeFitsLong (Builtin.Range.rangeSize 0 (m : Int) 1)) = true := by
    rw [hn]
    simp only [Builtin.Range.rangeFitsLong, Bool.and_eq_true, decide_eq_true_eq]
    lia
  rw [hs]
  rw [if_neg (by decide)]
  show wpAny _ _ (newFields (if true = true then "range_iterator" else "longrange_iterator") [rawInt (0 + (Builtin.Range.rangeSize 0 (m : Int) 1 - 1) * 1), rawInt (Builtin.Range.rangeSize 0 (m : Int) 1), rawInt (-1)] >>= _) _ _ _
  rw [hn, if_pos rfl]
  have e : (0 : Int) + ((m : Int) - 1) * 1 = (m : Int) - 1 := by lia
  rw [e]
  exact wpAny_bind (m := newFields _ _) (wpAny_newObj_type (wpAny_pure ⟨_, rfl, h⟩))
theorem code_reversed_range {prog : Program} {w : World} {E : Value → Shared → Prop} {r : Addr} {m : Nat} {t u u' : Tok} {Q₁ : Value → Shared → Prop} (hr : IsRange s.heap r 0 (m : Int) 1 t u u') (hm : m ≤ 1000)
    (h : Q₁ (.ref s.heap.objs.size) { s with heap := s.heap.push (ritObj ((m : Int) - 1) m (-1)) }) : codeAny (model prog w) A (.call (.builtin "reversed.__new__") ⟨[.type "reversed", .ref r], []⟩) (wants Q₁ E) s := by
  have hT : s.TypeIs (.ref r) "range" := ⟨_, hr, rfl⟩
  refine codeAny_of_tree ?_
  show wpAny _ A.in1 (do checkBuiltinCall "reversed.__new__" ⟨[.type "reversed", .ref r], []⟩; again (.builtin "reversed.__new__" ⟨[.type "reversed", .ref r], []⟩)) _ _ s
  refine wpAny_bind (wpAny_of_eq (PySem.F.newCall_reversed_1 _) (wpAny_pure ⟨plainId_quiet PySem.F.plain_reversed_new _, codeAny_builtin PySem.F.entry_reversed_new ?_⟩))
  rw [Around.under_plainId PySem.F.plain_reversed_new _]
  unfold Builtin.«reversed.__new__»
  refine wpAny_bind (wpAny_of_eq (newClass_reversed _) ?_)
  try dsimp only
  refine wpAny_bind (wpAny_of_eq (a := ()) (by first | rfl | kernel_rfl) ?_)
  refine wpAny_bind (wpAny_of_eq (a := ()) (by first | rfl | kernel_rfl) ?_)
  try dsimp only
  refine wpAny_bind (wpAny_specialOf hT PySem.F.slot_range_reversed.lookup ?_)
  try dsimp only
  refine wpAny_bind (wpAny_of_eq (PySem.F.slot_range_reversed.bind _) ?_)
  try dsimp only
  first
  | rw [if_neg (show ¬ ((Value.builtin "range.__reversed__" == Value.none) = true) from Bool.false_ne_true)]
  | (show wpAny _ _ (if (Value.builtin "range.__reversed__" == Value.none) = true then _ else _) _ _ _; rw [if_neg (show ¬ ((Value.builtin "range.__reversed__" == Value.none) = true) from Bool.false_ne_true)])
  refine wpAny_bind (wpAny_rule ?_)
  refine wpAny_bind (m := runValue (.call (.builtin "range.__reversed__") ⟨[.ref r], []⟩)) (show wpAny _ _ (call (.builtin "range.__reversed__") [.ref r]) _ _ _ from call_range_reversed hr hm ?_)
  first
  | exact wpAny_pure h
  | exact wpAny_bind (wpAny_pure (wpAny_pure h))
theorem WC.reversed_range {m : Nat} {Q : V → Sto → Prop} (hm : m ≤ 1000) (h : ∀ I, σ I = none → Q (.ref I) (σ.set I (.rit ((m : Int) - 1) m (-1)))) : WC B N (.ty "reversed") [.rng 0 (m : Int) 1] [] σ Q := fun A s vf vs kws R O rf rv rk => by
  cases rf; cases rk
  obtain ⟨v, r, rfl, ⟨a, t, u, u', rfl, hr⟩, h3⟩ := rv; cases h3
  refine callType_other (U := "range_iterator") (Q₁ := fun obj s₁ => obj = .ref s.heap.objs.size ∧ s₁ = { s with heap := s.heap.push (ritObj ((m : Int) - 1) m (-1)) }) (by decide +kernel) PySem.F.create_reversed ⟨_, _, PySem.F.mro_reversed⟩ PySem.F.made_reversed sub_rangeiter_reversed (PySem.F.typeCall_reversed_1 _) (code_reversed_range hr hm ⟨rfl, rfl⟩) ?_
  rintro obj s₁ ⟨rfl, rfl⟩
  exact ⟨⟨_, Heap.get?_push_size _ rfl, rfl⟩, .ref _, _, PostS.new (tk := s.toks) O (c := .rit ((m : Int) - 1) m (-1)) (Heap.get?_push_size _ rfl), rfl, h _ O.free⟩
end
end

section
open PySem.SeqAt
open Builtin.Str
set_option maxRecDepth 100000
section
variable {B : Bs} {sc : Sc} {N : Nat} {ρ : Loc} {σ : Sto} {F : Frm} {A : Around} {s : Shared}

inductive PCI (B : Bs) (tgt : Expr) (s : Shared) (σ : Sto) (K : Src → Sto → Prop) (it : Value) (s' : Shared) : Prop where
  | mk (S : Src) (σ' : Sto) (fp : Addr → Prop) (St : Nat → Heap → Prop) (T : Itr B tgt it S fp St) (P : PostS B s σ s' σ') (hf : ∀ b, fp b → s.heap.get? b = none ∧ σ' b = none) (st : St 0 s'.heap) (q : K S σ')
theorem PCI.k {B : Bs} {tgt : Expr} {s : Shared} {σ : Sto} {K : Src → Sto → Prop} {it : Value} {s' : Shared} {G : Prop} (h : PCI B tgt s σ K it s')
    (f : ∀ S σ' fp St, Itr B tgt it S fp St → PostS B s σ s' σ' → (∀ b, fp b → s.heap.get? b = none ∧ σ' b = none) → St 0 s'.heap → K S σ' → G) : G := PCI.rec (motive := fun _ => G) f h
/-- a call whose result is but iterated over -/
noncomputable def WCI (B : Bs) (N : Nat) (tgt : Expr) (f : V) (args : List V) (σ : Sto) (K : Src → Sto → Prop) : Prop :=
  ∀ (A : Around) (s : Shared) (vf : Value) (vs : List Value), Room A N → OkS B s σ → Rep s.heap f vf → RepL s.heap args vs →
    wpAny (Md B) A (call vf vs) (fun r s₁ => wpAny (Md B) A (pyIter r) (PCI B tgt s σ K) NoE s₁) NoE s
theorem WIt.call {tgt f : Expr} {args : List Expr} {pos : Pos} {K : Src → Sto → Prop}
    (h : WE B sc N f ρ σ fun fd σ₀ => Cal B fd ∧ WL B sc N args ρ σ₀ fun ds σ₁ => WCI B N tgt fd ds σ₁ K)
    (he : ∀ env, eval (.Call f args [] pos) env = (do callWith pos (← eval f env) [] (backTo pos (starEach args env)) (backToKw pos (keywordEach [] env))))
    (hstar : ∀ env, (starEach args env).any (·.1) = false) : WIt B sc N tgt (.Call f args [] pos) ρ σ K := .mk fun A F s R X O => by
  rw [he]
  refine wpAny_bind (wpAny_mono (h.run A F s R X O) (fun vf s₁ hp => hp.k fun fd σ₁ P₁ rf q => u2 q fun hc h₁ => ?_) fun _ _ f => f)
  refine callWith_of (P := fun h' => (∀ b o, B.h₀.get? b = some o → h'.get? b = some o) ∧ Rep h' fd vf) (by rw [noStar_back (hstar _), noNone rfl]; rfl) (fun h' ⟨O', r'⟩ => hc.keeper O' r') ?_
  refine evalArgs_all (noStar_back (hstar _)) rfl (wpAny_mono (h₁.run A F pos s₁ R X P₁.o) (fun vs s₂ hp => hp.k fun ds σ₂ P₂ q₂ h₂ => ?_) fun _ _ f => f)
  refine wpAny_evalAll_nil ?_
  have M₂ := P₂.mono P₁.o
  refine ⟨⟨P₂.o.s.keep, rf.mono M₂⟩, ?_⟩
  refine wpAny_mono (h₂ A s₂ vf vs R P₂.o.s (rf.mono M₂) q₂) (fun v s₃ h₃ => wpAny_mono h₃ (fun it s₄ hp => hp.k fun S σ₄ fp St T P₄ hfp st k => ?_) fun _ _ f => f) fun _ _ f => f
  have P₁₂ := P₁.trans P₂
  exact ⟨S, σ₄, fp, St, T, P₁₂.trans (P₄.frame X P₂.o), fun b hb => ⟨P₁₂.none_back O (hfp b hb).1, (hfp b hb).2⟩, st, k⟩

theorem WCI.enumerate {elts : List Expr} {k : Nat} {p : Pos} {a : Addr} {xs : List V} {K : Src → Sto → Prop} (hx : σ a = some (.list xs))
    (h : K ⟨xs.length, fun k => .tup [.int k, xs.getD k .none], fun _ σ' => σ' a = some (.list xs), fun _ σ => σ, fun σ => σ⟩ σ) : WCI B N (.Tuple elts k p) (.ty "enumerate") [.ref a] σ K := fun A s vf vs R O rf rv => by
  cases rf
  obtain ⟨v, r, rfl, h1, h3⟩ := rv; cases h3; cases h1
  obtain ⟨vs, pl, rl⟩ := O.cell a _ hx
  refine call_enumerate_list pl.isList fun h' he hit hsz hk => ?_
  refine wpAny_pyIter_enum he ?_
  have P : PostS B s σ { s with heap := h' } σ := PostS.keeps (tk := s.toks) O hk id
  have n0 : s.heap.get? s.heap.objs.size = none := new_none _
  have n1 : s.heap.get? (s.heap.objs.size + 1) = none := by
    cases q : s.heap.get? (s.heap.objs.size + 1) with
    | none => rfl
    | some o => exact absurd (Heap.lt_size q) (Nat.not_lt.mpr (Nat.le_succ _))
  have hne : s.heap.objs.size + 1 ≠ s.heap.objs.size := Nat.succ_ne_self _
  refine ⟨_, σ, fun b => b = s.heap.objs.size + 1 ∨ b = s.heap.objs.size, fun k h => (∃ old, IsEnum h (s.heap.objs.size + 1) s.heap.objs.size (k : Int) old) ∧ h.IsListIter s.heap.objs.size a k, ?_, P, ?_, ⟨⟨_, he⟩, hit⟩, h⟩
  · generalize s.heap.objs.size + 1 = e at hne
    generalize s.heap.objs.size = I at hne
    have ntI : ∀ {k : Nat} {h : Heap}, h.IsListIter I a k → ∀ o, h.get? I = some o → NT o := fun ⟨o, ho, hc, _⟩ o' e' => by rw [ho] at e'; cases e'; exact NT.cls hc (by decide) (by decide)
    have ntE : ∀ {k : Int} {old : Value} {h : Heap}, IsEnum h e I k old → ∀ o, h.get? e = some o → NT o := fun he o' e' => by rw [he] at e'; cases e'; exact NT.cls rfl (by decide) (by decide)
    exact {
      frame := fun k h h' ⟨⟨old, he⟩, hit⟩ _ hk => ⟨⟨old, hk e (.inl rfl) _ he⟩, hit.at fun o q => hk I (.inr rfl) o q⟩
      nt := fun k h ⟨⟨old, he⟩, hit⟩ b hb => by
        rcases hb with rfl | rfl
        · exact ⟨_, he, NT.cls rfl (by decide) (by decide)⟩
        · obtain ⟨o, ho, hc, _⟩ := id hit; exact ⟨o, ho, NT.cls hc (by decide) (by decide)⟩
      nxfp := fun _ _ _ _ e => e
      next := fun k A s σ hk R O g hb st => by
        have g : σ a = some (.list xs) := g
        have hk : k < xs.length := hk
        obtain ⟨⟨old, he⟩, hit⟩ := st
        obtain ⟨vs, pl, rl⟩ := O.cell a _ g
        have hd : xs[k]? = some (xs.getD k .none) := by rw [List.getD_eq_getElem?_getD, List.getElem?_eq_getElem hk]; rfl
        obtain ⟨u, hu, ru⟩ := rl.get hd
        refine wpAny_pyNext_enum_item he hit pl.isList (by simpa using hu) hne fun h₁ he₁ hit₁ ht₁ hsz₁ hk₁ => ?_
        refine ⟨_, rfl, wpAny_letOwnedTupleGo_enum he₁ fun h₂ he₂ hs₂ => ?_⟩
        have hx : ∀ b o, b ≠ e → b ≠ I → s.heap.get? b = some o → h₂.get? b = some o := fun b o h1 h2 q => hs₂.extBut b o h1 (hk₁ b o h1 h2 q)
        have x : Ext (fun b => b = e ∨ b = I) s σ { s with heap := h₂, toks := s.toks + 1 } σ := ⟨⟨h₂, s.toks + 1, rfl⟩, fun b o hb hn q => ⟨hn, hx b o (fun q => hb (.inl q)) (fun q => hb (.inr q)) q⟩, fun _ h => h⟩
        have M := x.mono O (fun b hb o q => by rcases hb with rfl | rfl; exact ntE he o q; exact ntI hit o q)
        have hbe := hb e (.inl rfl)
        have hbI := hb I (.inr rfl)
        have O' : OkS B { s with heap := h₂, toks := s.toks + 1 } σ := ⟨fun b o q => hx b o (by rintro rfl; rw [hbe.2] at q; cases q) (by rintro rfl; rw [hbI.2] at q; cases q) (O.keep b o q),
          fun b c q => (O.cell b c q).mono (fun o => hx b o (by rintro rfl; rw [hbe.1] at q; cases q) (by rintro rfl; rw [hbI.1] at q; cases q)) M, O.fresh, Nat.le_succ_of_le O.tk⟩
        have hel : e < s.heap.objs.size := Heap.lt_size he
        refine ⟨x, O', ⟨⟨_, he₂⟩, hit₁.extBut hs₂.extBut (Ne.symm hne)⟩, ?_⟩
        have ht₂ : h₂.get? s.heap.objs.size = some { cls := .type "tuple", data := .seq #[.int k s.toks, u] } := hs₂.extBut _ _ (Nat.ne_of_gt hel) ht₁
        exact ⟨_, [.int k s.toks, u], rfl, ⟨_, ht₂, rfl, _, rfl⟩, ⟨_, _, rfl, ⟨_, rfl⟩, _, _, rfl, ru.mono M, rfl⟩⟩
      done := fun A s σ R O g hb st => by
        have g : σ a = some (.list xs) := g
        obtain ⟨⟨old, he⟩, hit⟩ := st
        obtain ⟨vs, pl, rl⟩ := O.cell a _ g
        refine wpAny_pyNext_enum_end R.1 he hit pl.isList (by simp [rl.length]) fun h₁ hs₁ => ?_
        have x : Ext (fun b => b = e ∨ b = I) s σ { s with heap := h₁ } σ := ⟨⟨h₁, s.toks, rfl⟩, fun b o hb hn q => ⟨hn, hs₁ b o (fun q => hb (.inr q)) q⟩, fun _ h => h⟩
        exact ⟨rfl, x, O.but hs₁ (hb I (.inr rfl)).1 (hb I (.inr rfl)).2 (ntI hit) id⟩
      self := fun k A s σ Q E _ O g ⟨⟨old, he⟩, _⟩ hq => wpAny_pyIter_enum he hq }
  · rintro b (rfl | rfl)
    · exact ⟨n1, O.none_of n1⟩
    · exact ⟨n0, O.none_of n0⟩
end
end

section
open PySem.SeqAt
open Builtin.Str
set_option maxRecDepth 100000
section
variable {prog : Program} {w : World} {A : Around} {E : Value → Shared → Prop} {s : Shared}

/-! ## zip of a range and a list's iterator: its draws -/
theorem nextOf_range_item {it : Addr} {x left step : Int} {Q : Value → Shared → Prop} (hit : IsRangeIter s.heap it x left step) (hleft : 0 < left)
    (hQ : ∀ h', IsRangeIter h' it (x + step) (left - 1) step → Heap.SameBut it s.heap h' → Q (.int x s.toks) { s with heap := h', toks := s.toks + 1 }) : wpAny (model prog w) A (Builtin.SmallTypes.nextOf (.ref it)) Q E s := by
  have hT : s.TypeIs (.ref it) "range_iterator" := ⟨_, hit, rfl⟩
  unfold Builtin.SmallTypes.nextOf
  refine wpAny_bind (wpAny_callSpecial?_slot (name := Str.ofString "__next__") hT PySem.F.slot_range_iterator_next
    (call_meets PySem.F.slot_range_iterator_next hT PySem.F.entry_range_iterator_next (PySem.F.args_range_iterator_next_1 _) (AutoRange.range_iterator___next___range_iterator_1 it x left step (by lia)) ⟨hit, ?_⟩))
  exact wpAny_pure (hQ _ (Heap.get?_update_self _ (Heap.get?_update_self _ hit rfl) rfl) ((Heap.SameBut.update ..).trans (Heap.SameBut.update ..)))
theorem nextOf_range_end {I : Addr} {x left step : Int} {Q : Value → Shared → Prop} (hh : A.handled = none) (hit : IsRangeIter s.heap I x left step) (hleft : left ≤ 0)
    (hE : ∀ h' e, (∀ b o, s.heap.get? b = some o → h'.get? b = some o) → (∃ o, h'.get? e = some o ∧ o.cls = .type "StopIteration") → E (.ref e) { s with heap := h' }) : wpAny (model prog w) A (Builtin.SmallTypes.nextOf (.ref I)) Q E s := by
  have hT : s.TypeIs (.ref I) "range_iterator" := ⟨_, hit, rfl⟩
  unfold Builtin.SmallTypes.nextOf
  refine wpAny_bind (wpAny_callSpecial?_slot (name := Str.ofString "__next__") hT PySem.F.slot_range_iterator_next (wpAny_call_entry PySem.F.slot_range_iterator_next hT PySem.F.entry_range_iterator_next ?_ (PySem.F.args_range_iterator_next_1 _)))
  show wpAny _ _ (field (.ref I) 0 >>= _) _ _ s
  refine wpAny_bind (wpAny_field hit rfl (x := rawInt x) rfl (wpAny_bind (wpAny_field hit rfl (x := rawInt left) rfl (wpAny_bind (wpAny_field hit rfl (x := rawInt step) rfl ?_)))))
  show wpAny _ _ (if left ≤ 0 then _ else _) _ _ s
  rw [if_pos hleft]
  refine wpAny_bind (wpAny_rule (wpAny_bind ?_))
  refine stop_raise hh fun h₉ e₉ k₉ q₉ => ?_
  exact hE _ _ k₉ q₉

structure ZA (z TI TO i1 i2 l2 : Addr) : Prop where
  TIz : TI ≠ z
  TOz : TO ≠ z
  i1z : i1 ≠ z
  i2z : i2 ≠ z
  TITO : TI ≠ TO
  TIi1 : TI ≠ i1
  TIi2 : TI ≠ i2
  TOi1 : TO ≠ i1
  TOi2 : TO ≠ i2
  i12 : i1 ≠ i2
  l2z : l2 ≠ z
  l2TO : l2 ≠ TO
  l2i1 : l2 ≠ i1
  l2i2 : l2 ≠ i2
theorem IsRangeIter.but {h h' : Heap} {a b : Addr} {x l c : Int} (e : IsRangeIter h a x l c) (hs : Heap.ExtBut b h h') (hne : a ≠ b) : IsRangeIter h' a x l c := hs _ _ hne e
theorem zipr_item {z TI TO i1 i2 l2 : Addr} {k2 : Nat} {n left st : Int} {ys : Array Value} {y a b : Value} {Q : Value → Shared → Prop} (D : ZA z TI TO i1 i2 l2)
    (hz : IsZip s.heap z TI TO .none) (hTI : IsPair s.heap TI (.ref i1) (.ref i2)) (hTO : IsPair s.heap TO a b)
    (h1 : IsRangeIter s.heap i1 n left st) (hleft : 0 < left) (h2 : s.heap.IsListIter i2 l2 k2) (hl2 : s.heap.IsList l2 ys) (hy : ys[k2]? = some y)
    (hQ : ∀ h' x, x = Value.int n s.toks → IsZip h' z TI TO (rawInt s.heap.objs.size) → IsPair h' TO x y → IsRangeIter h' i1 (n + st) (left - 1) st → h'.IsListIter i2 l2 (k2 + 1) → IsPair h' s.heap.objs.size x y → h'.objs.size = s.heap.objs.size + 1 →
      (∀ c o, c ≠ z → c ≠ TO → c ≠ i1 → c ≠ i2 → s.heap.get? c = some o → h'.get? c = some o) → Q (.ref s.heap.objs.size) { s with heap := h', toks := s.toks + 1 }) :
    wpAny (model prog w) A (Builtin.«zip.__next__» ⟨[.ref z], []⟩) (fun fin s' => ∃ v, fin = .done (.ret v) ∧ Q v s') E s := by
  show wpAny _ _ (field (.ref z) 2 >>= _) _ _ _
  refine wpAny_bind (wpAny_field hz rfl (x := .bool false) rfl ?_)
  show wpAny _ _ (field (.ref z) 3 >>= _) _ _ _
  refine wpAny_bind (wpAny_field hz rfl (x := .ref TI) rfl ?_)
  refine wpAny_bind (wpAny_seqItems hTI rfl ?_)
  show wpAny _ _ (Builtin.SmallTypes.ownedTupleIsFree (.ref z) >>= _) _ _ _
  refine wpAny_bind ?_
  unfold Builtin.SmallTypes.ownedTupleIsFree
  refine wpAny_bind (wpAny_field hz rfl (x := .none) rfl (wpAny_pure ?_))
  simp only [if_true]
  refine wpAny_bind (wpAny_rule ?_)
  refine wpAny_bind (wpAny_field hz rfl (x := .ref TO) rfl ?_)
  refine wpAny_bind (wpAny_setField_rec hz (by simp) fun h₁ hz₁ hs₁ => ?_)
  replace hz₁ : IsZip h₁ z TI TO .ellipsis := hz₁
  refine wpAny_bind ?_
  simp only [List.zipIdx_cons, List.zipIdx_nil, List.forIn_cons, List.forIn_nil]
  refine wpAny_bind (wpAny_bind (wpAny_onRaise ?_))
  show wpAny _ _ (Builtin.SmallTypes.nextOf (.ref i1) >>= _) _ _ _
  refine wpAny_bind (nextOf_range_item (IsRangeIter.but h1 hs₁.extBut D.i1z) hleft fun h₂ h1₂ hs₂ => wpAny_pure ?_)
  generalize hX : Value.int n s.toks = x at *
  have hTO₂ : IsPair h₂ TO a b := hs₂.extBut _ _ D.TOi1 (hs₁.extBut _ _ D.TOz hTO)
  refine wpAny_bind (wpAny_seqItems hTO₂ rfl ?_)
  refine wpAny_bind (wpAny_updateSeq_pair hTO₂ fun h₃ hTO₃ hs₃ => ?_)
  replace hTO₃ : IsPair h₃ TO x b := hTO₃
  refine wpAny_bind (wpAny_letGo (wpAny_pure ?_))
  refine wpAny_bind (wpAny_bind (wpAny_onRaise ?_))
  show wpAny _ _ (Builtin.SmallTypes.nextOf (.ref i2) >>= _) _ _ _
  refine wpAny_bind (wpAny_nextOf_list_item (((h2.extBut hs₁.extBut D.i2z).extBut hs₂.extBut D.i12.symm).extBut hs₃.extBut D.TOi2.symm)
    (((hl2.extBut hs₁.extBut D.l2z).extBut hs₂.extBut D.l2i1).extBut hs₃.extBut D.l2TO) hy fun h₄ h2₄ hs₄ => wpAny_pure ?_)
  have hTO₄ : IsPair h₄ TO x b := hs₄.extBut _ _ D.TOi2 hTO₃
  refine wpAny_bind (wpAny_seqItems hTO₄ rfl ?_)
  refine wpAny_bind (wpAny_updateSeq_pair hTO₄ fun h₅ hTO₅ hs₅ => ?_)
  replace hTO₅ : IsPair h₅ TO x y := hTO₅
  refine wpAny_bind (wpAny_letGo (wpAny_pure (wpAny_pure ?_)))
  refine wpAny_bind (wpAny_seqItems hTO₅ rfl ?_)
  refine wpAny_bind (wpAny_newTuple ?_)
  have hsz : h₅.objs.size = s.heap.objs.size := by rw [hs₅.1, hs₄.1, hs₃.1, hs₂.1, hs₁.1]
  have hz₅ : IsZip h₅ z TI TO .ellipsis := hs₅.extBut _ _ D.TOz.symm (hs₄.extBut _ _ D.i2z.symm (hs₃.extBut _ _ D.TOz.symm (hs₂.extBut _ _ D.i1z.symm hz₁)))
  have hk₅ : ∀ c o, c ≠ z → c ≠ TO → c ≠ i1 → c ≠ i2 → s.heap.get? c = some o → h₅.get? c = some o := fun c o c1 c2 c3 c4 e =>
    hs₅.extBut _ _ c2 (hs₄.extBut _ _ c4 (hs₃.extBut _ _ c2 (hs₂.extBut _ _ c3 (hs₁.extBut _ _ c1 e))))
  have h1₅ : IsRangeIter h₅ i1 (n + st) (left - 1) st := IsRangeIter.but (IsRangeIter.but (IsRangeIter.but h1₂ hs₃.extBut D.TOi1.symm) hs₄.extBut D.i12) hs₅.extBut D.TOi1.symm
  have h2₅ : h₅.IsListIter i2 l2 (k2 + 1) := h2₄.extBut hs₅.extBut D.TOi2.symm
  have hzlt : z < h₅.objs.size := Heap.lt_size hz₅
  show wpAny _ _ (Builtin.SmallTypes.ownedTupleHandOut (.ref z) (.ref h₅.objs.size) >>= _) _ _ _
  refine wpAny_bind ?_
  unfold Builtin.SmallTypes.ownedTupleHandOut
  have hz₆ : IsZip (h₅.push { cls := .type "tuple", data := .seq #[x, y] }) z TI TO .ellipsis := Heap.get?_push_of_some _ hz₅
  refine wpAny_bind (wpAny_setField_rec hz₆ (by simp) fun h₇ hz₇ hs₇ => ?_)
  replace hz₇ : IsZip h₇ z TI TO (rawInt h₅.objs.size) := hz₇
  refine wpAny_setField_rec hz₇ (by simp) fun h₈ hz₈ hs₈ => ?_
  replace hz₈ : IsZip h₈ z TI TO (rawInt h₅.objs.size) := hz₈
  have up : ∀ c o, c ≠ z → h₅.get? c = some o → h₈.get? c = some o := fun c o c1 e => hs₈.extBut _ _ c1 (hs₇.extBut _ _ c1 (Heap.get?_push_of_some _ e))
  have hT₈ : IsPair h₈ h₅.objs.size x y := hs₈.extBut _ _ (Nat.ne_of_gt hzlt) (hs₇.extBut _ _ (Nat.ne_of_gt hzlt) (Heap.get?_push_size _ rfl))
  have hz8 : h₈.objs.size = h₅.objs.size + 1 := by rw [hs₈.1, hs₇.1, Heap.size_push]
  rw [hsz] at hz₈ hT₈ hz8
  refine wpAny_pure ⟨_, rfl, ?_⟩
  show Q (.ref h₅.objs.size) _
  rw [hsz]
  exact hQ h₈ x rfl hz₈ (up _ _ D.TOz hTO₅) (up _ _ D.i1z h1₅) (h2₅.at fun o e => up _ o D.i2z e) hT₈ hz8 fun c o c1 c2 c3 c4 e => up c o c1 (hk₅ c o c1 c2 c3 c4 e)
theorem zipr_end {z TI TO i1 i2 : Addr} {n left st : Int} {Q : Fin → Shared → Prop} (hh : A.handled = none) (i1z : i1 ≠ z)
    (hz : IsZip s.heap z TI TO .none) (hTI : IsPair s.heap TI (.ref i1) (.ref i2)) (h1 : IsRangeIter s.heap i1 n left st) (hleft : left ≤ 0)
    (hE : ∀ h' e, (∀ c o, c ≠ z → s.heap.get? c = some o → h'.get? c = some o) → (∃ o, h'.get? e = some o ∧ o.cls = .type "StopIteration") → E (.ref e) { s with heap := h' }) :
    wpAny (model prog w) A (Builtin.«zip.__next__» ⟨[.ref z], []⟩) Q E s := by
  show wpAny _ _ (field (.ref z) 2 >>= _) _ _ _
  refine wpAny_bind (wpAny_field hz rfl (x := .bool false) rfl ?_)
  show wpAny _ _ (field (.ref z) 3 >>= _) _ _ _
  refine wpAny_bind (wpAny_field hz rfl (x := .ref TI) rfl ?_)
  refine wpAny_bind (wpAny_seqItems hTI rfl ?_)
  show wpAny _ _ (Builtin.SmallTypes.ownedTupleIsFree (.ref z) >>= _) _ _ _
  refine wpAny_bind ?_
  unfold Builtin.SmallTypes.ownedTupleIsFree
  refine wpAny_bind (wpAny_field hz rfl (x := .none) rfl (wpAny_pure ?_))
  simp only [if_true]
  refine wpAny_bind (wpAny_rule ?_)
  refine wpAny_bind (wpAny_field hz rfl (x := .ref TO) rfl ?_)
  refine wpAny_bind (wpAny_setField_rec hz (by simp) fun h₁ hz₁ hs₁ => ?_)
  replace hz₁ : IsZip h₁ z TI TO .ellipsis := hz₁
  refine wpAny_bind ?_
  simp only [List.zipIdx_cons, List.zipIdx_nil, List.forIn_cons, List.forIn_nil]
  refine wpAny_bind (wpAny_bind (wpAny_onRaise ?_))
  show wpAny _ _ (Builtin.SmallTypes.nextOf (.ref i1) >>= _) _ _ _
  refine wpAny_bind (nextOf_range_end hh (IsRangeIter.but h1 hs₁.extBut i1z) hleft fun h₂ e hs₂ he => ?_)
  obtain ⟨oe, hoe, hce⟩ := he
  have hz₂ : IsZip h₂ z TI TO .ellipsis := hs₂ _ _ hz₁
  have hez : e ≠ z := fun x => by subst x; rw [hz₂] at hoe; cases hoe; simp at hce
  refine wpAny_setField_rec hz₂ (by simp) fun h₃ _ hs₃ => hE h₃ e (fun c o c1 x => hs₃.extBut _ _ c1 (hs₂ _ _ (hs₁.extBut _ _ c1 x))) ⟨oe, hs₃.extBut _ _ hez hoe, hce⟩
theorem pyNext_zipr_item {z TI TO i1 i2 l2 : Addr} {k2 : Nat} {n left st : Int} {ys : Array Value} {y a b : Value} {Q : Option Value → Shared → Prop} (D : ZA z TI TO i1 i2 l2)
    (hz : IsZip s.heap z TI TO .none) (hTI : IsPair s.heap TI (.ref i1) (.ref i2)) (hTO : IsPair s.heap TO a b)
    (h1 : IsRangeIter s.heap i1 n left st) (hleft : 0 < left) (h2 : s.heap.IsListIter i2 l2 k2) (hl2 : s.heap.IsList l2 ys) (hy : ys[k2]? = some y)
    (hQ : ∀ h' x, x = Value.int n s.toks → IsZip h' z TI TO (rawInt s.heap.objs.size) → IsPair h' TO x y → IsRangeIter h' i1 (n + st) (left - 1) st → h'.IsListIter i2 l2 (k2 + 1) → IsPair h' s.heap.objs.size x y → h'.objs.size = s.heap.objs.size + 1 →
      (∀ c o, c ≠ z → c ≠ TO → c ≠ i1 → c ≠ i2 → s.heap.get? c = some o → h'.get? c = some o) → Q (some (.ref s.heap.objs.size)) { s with heap := h', toks := s.toks + 1 }) :
    wpAny (model prog w) A (pyNext (.ref z)) Q E s := by
  have hT : s.TypeIs (.ref z) "zip" := ⟨_, hz, rfl⟩
  unfold pyNext
  exact wpAny_bind (wpAny_attempt (wpAny_callSpecial?_slot (name := Str.ofString "__next__") hT PySem.F.slot_zip_next
    (wpAny_call_entry PySem.F.slot_zip_next hT PySem.F.entry_zip_next
      (zipr_item D hz hTI hTO h1 hleft h2 hl2 hy fun h' x a0 a1 a2 a3 a4 a5 a6 a7 => wpAny_pure (hQ h' x a0 a1 a2 a3 a4 a5 a6 a7)) (PySem.F.args_zip_next_1 _))))
theorem pyNext_zipr_end {z TI TO i1 i2 : Addr} {n left st : Int} {Q : Option Value → Shared → Prop} (hh : A.handled = none) (i1z : i1 ≠ z)
    (hz : IsZip s.heap z TI TO .none) (hTI : IsPair s.heap TI (.ref i1) (.ref i2)) (h1 : IsRangeIter s.heap i1 n left st) (hleft : left ≤ 0)
    (hQ : ∀ h', (∀ c o, c ≠ z → s.heap.get? c = some o → h'.get? c = some o) → Q none { s with heap := h' }) : wpAny (model prog w) A (pyNext (.ref z)) Q E s := by
  have hT : s.TypeIs (.ref z) "zip" := ⟨_, hz, rfl⟩
  unfold pyNext
  refine wpAny_bind (wpAny_attempt (wpAny_callSpecial?_slot (name := Str.ofString "__next__") hT PySem.F.slot_zip_next
    (wpAny_call_entry PySem.F.slot_zip_next hT PySem.F.entry_zip_next (zipr_end hh i1z hz hTI h1 hleft fun h' e hk he => ?_) (PySem.F.args_zip_next_1 _))))
  obtain ⟨o, ho, hc⟩ := he
  refine wpAny_bind (wpAny_isInstance (T := "StopIteration") (b := true) ⟨o, ho, hc⟩ isSubtype_stop ?_)
  exact wpAny_pure (hQ _ hk)

noncomputable abbrev zr1 (h : Heap) (a b c : Int) : Heap := h.push { cls := .type "range_iterator", data := .fields #[rawInt a, rawInt (Builtin.Range.rangeSize a b c), rawInt c] }
noncomputable abbrev zr2 (h : Heap) (it : Addr) (a b c : Int) : Heap := (zr1 h a b c).push { cls := .type "tuple", data := .seq #[.ref h.objs.size, .ref it] }
noncomputable abbrev zr3 (h : Heap) (it : Addr) (a b c : Int) : Heap := (zr2 h it a b c).push { cls := .type "tuple", data := .seq #[.none, .none] }
noncomputable abbrev zr4 (h : Heap) (it : Addr) (a b c : Int) : Heap := (zr3 h it a b c).push { cls := .type "zip", data := .fields #[.none, .bool false, .bool false, .ref (zr1 h a b c).objs.size, .ref (zr2 h it a b c).objs.size] }
theorem zipr_new (r it l : Addr) (a b c : Int) (t u v : Tok) (k : Nat) (hsm : Builtin.Range.small a b c = true) :
    Meets (Builtin.«zip.__new__» ⟨[.type "zip", .ref r, .ref it], []⟩) (fun _ R s => IsRange s.heap r a b c t u v ∧ s.heap.IsListIter it l k ∧
      R (.ok (.ret (.ref (zr3 s.heap it a b c).objs.size))) { s with heap := zr4 s.heap it a b c }) :=
  .of_wp fun prog w A R s h => by
    obtain ⟨hp, g, d, tk, os⟩ := s; obtain ⟨hl1, hl2, h⟩ := h
    have hsub := sub_zip
    have hL1 : IsRange (Shared.heap ⟨hp, g, d, tk, os⟩) r a b c t u v := hl1
    have hL2 : Heap.IsListIter (Shared.heap ⟨hp.push { cls := .type "range_iterator", data := .fields #[rawInt a, rawInt (Builtin.Range.rangeSize a b c), rawInt c] }, g, d, tk, os⟩) it l k := hl2.at fun o e => Heap.get?_push_of_some _ e
    wp_walk using wpAny_pyIter_range hL1 hsm, wpAny_pyIter_listiter hL2
    exact ⟨_, rfl, h⟩
theorem call_zipr {r it l : Addr} {a b c : Int} {t u v : Tok} {k : Nat} {Q : Value → Shared → Prop} (hsm : Builtin.Range.small a b c = true) (hr : IsRange s.heap r a b c t u v) (hit : s.heap.IsListIter it l k)
    (h : ∀ h', IsZip h' (s.heap.objs.size + 3) (s.heap.objs.size + 1) (s.heap.objs.size + 2) .none → IsPair h' (s.heap.objs.size + 1) (.ref s.heap.objs.size) (.ref it) → IsPair h' (s.heap.objs.size + 2) .none .none →
      IsRangeIter h' s.heap.objs.size a (Builtin.Range.rangeSize a b c) c → h'.objs.size = s.heap.objs.size + 4 → (∀ c o, s.heap.get? c = some o → h'.get? c = some o) → Q (.ref (s.heap.objs.size + 3)) { s with heap := h' }) :
    wpAny (model prog w) A (call (.type "zip") [.ref r, .ref it]) Q E s := by
  refine callType_new PySem.F.called_zip (by decide) (PySem.F.typeCall_zip_2 _ _) (PySem.F.newCall_zip_2 _ _) (fun obj => PySem.F.args_object_init_3 obj _ _) PySem.F.entry_zip_new
    (zipr_new r it l a b c t u v k hsm) ⟨hr, hit, ?_⟩
  show _ ∧ _
  unfold zr4 zr3 zr2 zr1
  generalize hh1 : s.heap.push { cls := .type "range_iterator", data := .fields #[rawInt a, rawInt (Builtin.Range.rangeSize a b c), rawInt c] } = h1
  have z1 : h1.objs.size = s.heap.objs.size + 1 := by rw [← hh1]; exact Heap.size_push ..
  have g1 : h1.get? s.heap.objs.size = some { cls := .type "range_iterator", data := .fields #[rawInt a, rawInt (Builtin.Range.rangeSize a b c), rawInt c] } := by rw [← hh1]; exact Heap.get?_push_size _ rfl
  have k1 : ∀ c o, s.heap.get? c = some o → h1.get? c = some o := fun c o e => by rw [← hh1]; exact Heap.get?_push_of_some _ e
  clear hh1
  generalize hh2 : h1.push { cls := .type "tuple", data := .seq #[.ref s.heap.objs.size, .ref it] } = h2
  have z2 : h2.objs.size = s.heap.objs.size + 2 := by rw [← hh2, Heap.size_push, z1]
  have g2 : h2.get? (s.heap.objs.size + 1) = some { cls := .type "tuple", data := .seq #[.ref s.heap.objs.size, .ref it] } := by rw [← hh2, ← z1]; exact Heap.get?_push_size _ rfl
  have k2 : ∀ c o, h1.get? c = some o → h2.get? c = some o := fun c o e => by rw [← hh2]; exact Heap.get?_push_of_some _ e
  clear hh2
  generalize hh3 : h2.push { cls := .type "tuple", data := .seq #[.none, .none] } = h3
  have z3 : h3.objs.size = s.heap.objs.size + 3 := by rw [← hh3, Heap.size_push, z2]
  have g3 : h3.get? (s.heap.objs.size + 2) = some { cls := .type "tuple", data := .seq #[.none, .none] } := by rw [← hh3, ← z2]; exact Heap.get?_push_size _ rfl
  have k3 : ∀ c o, h2.get? c = some o → h3.get? c = some o := fun c o e => by rw [← hh3]; exact Heap.get?_push_of_some _ e
  clear hh3
  have g4 : (h3.push { cls := .type "zip", data := .fields #[.none, .bool false, .bool false, .ref h1.objs.size, .ref h2.objs.size] }).get? h3.objs.size = some _ := Heap.get?_push_size _ rfl
  have z4 : (h3.push { cls := .type "zip", data := .fields #[.none, .bool false, .bool false, .ref h1.objs.size, .ref h2.objs.size] }).objs.size = s.heap.objs.size + 4 := by rw [Heap.size_push, z3]
  have k4 : ∀ c o, h3.get? c = some o → (h3.push { cls := .type "zip", data := .fields #[.none, .bool false, .bool false, .ref h1.objs.size, .ref h2.objs.size] }).get? c = some o := fun c o e => Heap.get?_push_of_some _ e
  refine ⟨⟨_, g4, rfl⟩, ?_⟩
  show Q (.ref h3.objs.size) _
  rw [z3]
  rw [z3] at g4
  rw [z1, z2] at g4 ⊢
  rw [z1, z2] at z4 k4
  exact h _ g4 (k4 _ _ (k3 _ _ g2)) (k4 _ _ g3) (k4 _ _ (k3 _ _ (k2 _ _ g1))) z4 fun c o e => k4 _ _ (k3 _ _ (k2 _ _ (k1 _ _ e)))
end
end

section
open PySem.SeqAt
open Builtin.Str
set_option maxRecDepth 100000
section
variable {B : Bs} {sc : Sc} {N : Nat} {ρ : Loc} {σ : Sto} {F : Frm} {A : Around} {s : Shared}

/-- the rows that are made so far -/
noncomputable def TS (h : Heap) (L : Nat) (vs : List Value) (ts : List Value) (j : Nat) : Prop :=
  ts.length = j ∧ ∀ i, i < j → ∃ (T : Nat) (t : Tok) (v : Value), ts[i]? = some (.ref T) ∧ vs[i]? = some v ∧ L < T ∧ h.get? T = some { cls := .type "tuple", data := .seq #[v, .int (-(i : Int)) t] }
theorem TS.keep {h h' : Heap} {L : Nat} {vs ts : List Value} {j : Nat} (x : TS h L vs ts j) (k : ∀ b o, L < b → h.get? b = some o → h'.get? b = some o) : TS h' L vs ts j :=
  ⟨x.1, fun i hi => x3 (x.2 i hi) fun T t v q => u4 q fun e1 e2 hl g => ⟨T, t, v, e1, e2, hl, k T _ hl g⟩⟩
theorem TS.rep {h : Heap} {L : Nat} {ts : List Value} {x0 x1 : V} {v0 v1 : Value} {r : List Value} (x : TS h L (v0 :: v1 :: r) ts 2) (r0 : Rep h x0 v0) (r1 : Rep h x1 v1) : RepL h [.tup [x0, .int 0], .tup [x1, .int (-1)]] ts := by
  obtain ⟨hl, g⟩ := x
  obtain ⟨T0, t0, w0, a1, a2, _, a4⟩ := g 0 (by lia)
  obtain ⟨T1, t1, w1, b1, b2, _, b4⟩ := g 1 (by lia)
  rcases ts with _ | ⟨p, _ | ⟨q, _ | ⟨z, r'⟩⟩⟩
  · cases hl
  · cases hl
  · cases a1; cases a2; cases b1; cases b2
    refine ⟨_, _, rfl, ⟨T0, [v0, .int (-((0 : Nat) : Int)) t0], rfl, ⟨_, a4, rfl, _, rfl⟩, ⟨_, _, rfl, r0, _, _, rfl, ⟨t0, by rfl⟩, rfl⟩⟩, _, _, rfl, ⟨T1, [v1, .int (-((1 : Nat) : Int)) t1], rfl, ⟨_, b4, rfl, _, rfl⟩, ⟨_, _, rfl, r1, _, _, rfl, ⟨t1, by rfl⟩, rfl⟩⟩, rfl⟩
  · exact absurd hl (by simp)

/-- where all things lie while the pairs are drawn -/
structure ZI (s₁ : Shared) (it l : Nat) (vs : List Value) (n0 : Nat) (j : Nat) (s' : Shared) : Prop where
  same : ∃ h tk, s' = { s₁ with heap := h, toks := tk } ∧ 1 ≤ tk
  keep : ∀ b o, b ≠ it → s₁.heap.get? b = some o → s'.heap.get? b = some o
  itr : s'.heap.IsListIter it l j
  z : IsZip s'.heap (n0 + 3) (n0 + 1) (n0 + 2) .none
  ti : IsPair s'.heap (n0 + 1) (.ref n0) (.ref it)
  to : ∃ a b, IsPair s'.heap (n0 + 2) a b
  ri : IsRangeIter s'.heap n0 (-(j : Int)) (2 - (j : Int)) (-1)
  ns : ∃ m, s'.heap.Ns (n0 + 5) m
  acc : ∃ ts, s'.heap.PlainList (n0 + 4) (List.toArray ts) ∧ TS s'.heap (n0 + 5) vs ts j

theorem zip_turn {s₁ s₃ : Shared} {it l n0 j : Nat} {vs : List Value} {env : Env} {x y : Str} {p1 p2 p3 p4 p5 p6 : Pos} {k1 k2 : Nat} (hh : A.handled = none)
    (hk : env.scope.kind = .function) (hx : env.kindOf x = some .local) (hy : env.kindOf y = some .local) (hxy : (x == y) = false) (bx : (x == ("__debug__" : Str)) = false) (by_ : (y == ("__debug__" : Str)) = false) (hL : env.locals = n0 + 5)
    (hn0 : s₁.heap.objs.size = n0) (hit : it < n0) (hl : l < n0) (hne : l ≠ it) (hj : j < 2) (hlen : 2 ≤ vs.length) (hlist : s₁.heap.IsList l (List.toArray vs)) (I : ZI s₁ it l vs n0 j s₃) :
    wpAny (Md B) A (pyNext (.ref (n0 + 3))) (fun r s₄ => ∃ v, r = some v ∧ wpAny (Md B) A (letOwnedTupleGo (.Tuple [.Name x p1, .Name y p2] k1 p3) (.ref (n0 + 3)) v) (fun _ s₅ => wpAny (Md B) A (assign (.Tuple [.Name x p1, .Name y p2] k1 p3) env v) (fun _ s₆ =>
      wpAny (Md B) A (eval (.Tuple [.Name y p4, .Name x p5] k2 p6) env) (fun u s₇ => wpAny (Md B) A (call (.builtin "list.append") [.ref (n0 + 4), u]) (fun _ s₈ => ZI s₁ it l vs n0 (j + 1) s₈) NoE s₇) NoE s₆) NoE s₅) NoE s₄) NoE s₃ := by
  obtain ⟨⟨h, tk, rfl, htk⟩, kp, itr, hz, hti, ⟨a, b, hto⟩, hri, ⟨m, hns⟩, ts, hacc, hts⟩ := I
  have ne : ∀ {p q : Nat}, p ≠ q → (p : Addr) ≠ q := fun h => h
  have hjv : j < vs.length := Nat.lt_of_lt_of_le hj hlen
  have hv : (List.toArray vs)[j]? = some vs[j] := by simp [hjv]
  have hl3 : h.IsList l (List.toArray vs) := hlist.at fun o e => kp l o hne e
  have D : ZA (n0 + 3) (n0 + 1) (n0 + 2) n0 it l := ⟨ne (by lia), ne (by lia), ne (by lia), ne (by lia), ne (by lia), ne (by lia), ne (by lia), ne (by lia), ne (by lia), ne (by lia), ne (by lia), ne (by lia), ne (by lia), ne (by lia)⟩
  have hLlt : n0 + 5 < h.objs.size := hns.lt
  refine pyNext_zipr_item D hz hti hto hri (by lia) itr hl3 hv fun h₁ u hu hz₁ hto₁ hri₁ itr₁ hT₁ hsz₁ hk₁ => ?_
  refine ⟨_, rfl, wpAny_letOwnedTupleGo_zip hz₁ fun h₂ hz₂ hs₂ => ?_⟩
  generalize hTd : h.objs.size = T at *
  have kT : ∀ b o, b ≠ n0 + 3 → h₁.get? b = some o → h₂.get? b = some o := fun b o hb e => hs₂.extBut b o hb e
  have hT₂ : IsPair h₂ T u vs[j] := kT _ _ (ne (by lia)) hT₁
  have hTup : h₂.IsTuple T #[u, vs[j]] := ⟨_, hT₂, rfl, _, rfl⟩
  refine wpAny_assign_Tuple (s := { s₁ with heap := h₂, toks := tk + 1 }) hh hTup rfl rfl fun h₃ hs₃ => ?_
  have sz₂ : h₂.objs.size = T + 1 := by rw [hs₂.1, hsz₁]
  have k₃ : ∀ b o, h₂.get? b = some o → h₃.get? b = some o := fun b o e => hs₃ b o (fun q => by rw [q] at e; exact absurd (Heap.lt_size e) (Nat.lt_irrefl _)) e
  -- what has been kept so far
  have k03 : ∀ b o, b ≠ n0 + 3 → b ≠ n0 + 2 → b ≠ n0 → b ≠ it → h.get? b = some o → h₃.get? b = some o := fun b o c1 c2 c3 c4 e => k₃ b o (kT b o c1 (hk₁ b o c1 c2 c3 c4 e))
  have ns₃ : h₃.Ns env.locals m := by
    rw [hL]; obtain ⟨o, es, ep, g, r⟩ := hns
    exact ⟨o, es, ep, k03 _ o (ne (by lia)) (ne (by lia)) (ne (by lia)) (ne (by lia)) g, r⟩
  show wpAny (Md B) A (do holding [vs[j]] (assign (.Name x p1) env u); assignInOrder [assign (.Name y p2) env] [vs[j]]) _ _ _
  refine wpAny_bind (wpAny_holding (wpAny_assign_Name (wpAny_storeName_local hx ns₃ (fun h₄ ns₄ hs₄ => ?_) (by rw [hk]; rfl))))
  show wpAny (Md B) A (do holding [] (assign (.Name y p2) env vs[j]); assignInOrder [] []) _ _ _
  refine wpAny_bind (wpAny_holding (wpAny_assign_Name (wpAny_storeName_local hy ns₄ (fun h₅ ns₅ hs₅ => ?_) (by rw [hk]; rfl))))
  refine wpAny_pure ?_
  have k35 : ∀ b o, b ≠ n0 + 5 → h₃.get? b = some o → h₅.get? b = some o := fun b o hb e => hs₅.extBut b o (by rw [hL]; exact hb) (hs₄.extBut b o (by rw [hL]; exact hb) e)
  have hyx : ¬ x = y := fun q => by rw [q, beq_self_eq_true] at hxy; cases hxy
  refine wpAny_Tuple (wpAny_items_cons (wpAny_Name (wpAny_loadName_local hk hy ns₅ (v := vs[j]) (by simp) ?_) by_) rfl)
  refine wpAny_items_cons (wpAny_Name (wpAny_loadName_local hk hx ns₅ (v := u) (by simp [hyx]) ?_) bx) rfl
  refine wpAny_items_nil ⟨by rw [sizeLine_eq]; simp, ?_⟩
  have acc₅ : h₅.PlainList (n0 + 4) (List.toArray ts) := hacc.at fun o e => k35 _ o (ne (by lia)) (k03 _ o (ne (by lia)) (ne (by lia)) (ne (by lia)) (ne (by lia)) e)
  have sz₅ : T + 1 ≤ h₅.objs.size := by
    have e5 : h₅.objs.size = h₄.objs.size := hs₅.1
    have e4 : h₄.objs.size = h₃.objs.size := hs₄.1
    have : T < h₃.objs.size := Heap.lt_size (k₃ _ _ hT₂)
    lia
  refine wpAny_list_append_plain (acc₅.at fun o e => Heap.get?_push_of_some _ e) (fun h₆ acc₆ hs₆ => ?_) (by rw [List.size_toArray, hts.1, sizeLine_eq]; lia)
  have k56 : ∀ b o, b ≠ n0 + 4 → h₅.get? b = some o → h₆.get? b = some o := fun b o hb e => hs₆.extBut b o hb (Heap.get?_push_of_some _ e)
  have kall : ∀ b o, b ≠ n0 + 4 → b ≠ n0 + 5 → h₃.get? b = some o → h₆.get? b = some o := fun b o h1 h2 e => k56 b o h1 (k35 b o h2 e)
  have kz : ∀ b o, b ≠ n0 + 4 → b ≠ n0 + 5 → b ≠ n0 + 3 → h₁.get? b = some o → h₆.get? b = some o := fun b o h1 h2 h3 e => kall b o h1 h2 (k₃ b o (kT b o h3 e))
  have tNew : h₆.get? h₅.objs.size = some { cls := .type "tuple", data := .seq #[vs[j], u] } := hs₆.extBut _ _ (ne (by lia)) (Heap.get?_push_size _ rfl)
  exact {
    same := ⟨h₆, _, rfl, by simp only; lia⟩
    keep := fun b o hb e => by
      have hlt : b < n0 := hn0 ▸ Heap.lt_size e
      have e' := kp b o hb e
      exact kall b o (ne (by lia)) (ne (by lia)) (k03 b o (ne (by lia)) (ne (by lia)) (ne (by lia)) hb e')
    itr := itr₁.at fun o e => kz _ o (ne (by lia)) (ne (by lia)) (ne (by lia)) e
    z := kall _ _ (ne (by lia)) (ne (by lia)) (k₃ _ _ hz₂)
    ti := kz _ _ (ne (by lia)) (ne (by lia)) (ne (by lia)) (hk₁ _ _ (ne (by lia)) (ne (by lia)) (ne (by lia)) (ne (by lia)) hti)
    to := ⟨_, _, kz _ _ (ne (by lia)) (ne (by lia)) (ne (by lia)) hto₁⟩
    ri := by
      have := kz _ _ (ne (by lia)) (ne (by lia)) (ne (by lia)) hri₁
      have e1 : -((j + 1 : Nat) : Int) = -(j : Int) + -1 := by push_cast; lia
      have e2 : (2 : Int) - ((j + 1 : Nat) : Int) = 2 - (j : Int) - 1 := by push_cast; lia
      rw [e1, e2]; exact this
    ns := by
      obtain ⟨o, es, ep, g, r⟩ := ns₅
      rw [hL] at g
      exact ⟨_, o, es, ep, k56 _ o (ne (by lia)) g, r⟩
    acc := ⟨ts ++ [.ref h₅.objs.size], by simpa using acc₆, by simp [hts.1], fun i hi => by
      by_cases q : i < j
      · obtain ⟨T', t, v, e1, e2, hlt, g⟩ := hts.2 i q
        refine ⟨T', t, v, ?_, e2, hlt, kall _ _ (ne (by lia)) (ne (by lia)) (k03 _ _ (ne (by lia)) (ne (by lia)) (ne (by lia)) (ne (by lia)) g)⟩
        rw [List.getElem?_append_left (by rw [hts.1]; exact q)]; exact e1
      · have : i = j := by lia
        subst this
        refine ⟨h₅.objs.size, tk, vs[i], ?_, by simp [hjv], by lia, by rw [← hu]; exact tNew⟩
        rw [List.getElem?_append_right (by rw [hts.1]; exact Nat.le_refl _), hts.1, Nat.sub_self]; rfl⟩ }

/-- the end of a comprehension whose list is stored at once -/
theorem comp_end {y : Str} {py : Pos} {D L : Addr} {s' : Shared} {σ' : Sto} {out : List V} {Q : Loc → Sto → Prop} (X : FrmOk B sc F) (O : Ok B F s ρ σ) (P : Post B F s σ s' ρ σ') (hD : s.heap.get? D = none) (hL : s.heap.get? L = none) (hLD : L ≠ D) (hσL : σ' L = none) (hσD : σ' D = none)
    (hp : ∃ vs, s'.heap.PlainList D (List.toArray vs) ∧ RepL s'.heap out vs) (hm : ∃ m, s'.heap.Ns L m) (w : WN B sc y (.ref D) ρ (σ'.set D (.list out)) Q) :
    compPost (Md B) A NoE (some (assign (.Name y py) F.env)) (fun _ => PA B F s σ Q) (.ref D) L (.ok .next) s' := by
  obtain ⟨vs, pl, rl⟩ := hp
  obtain ⟨m, hm⟩ := hm
  have PC := Post.addCell O P hD hσD (c := .list out) ⟨vs, pl, rl⟩
  have hσL' : (σ'.set D (.list out)) L = none := by rw [Sto.set_ne _ _ hLD]; exact hσL
  have hown : ¬ F.own L := fun q => by obtain ⟨_, o, ho, _⟩ := O.own L q; rw [hL] at ho; cases ho
  show wpAny _ A (assign (.Name y py) F.env (.ref D)) _ _ _
  refine wpAny_assign_Name (wpAny_mono (w.run A F s' (.ref D) X PC.o rfl) (fun _ s₃ hp => hp.k fun ρ₃ σ₃ P₃ q => ?_) fun _ _ f => f)
  obtain ⟨o, es, ep, e, r⟩ := hm
  obtain ⟨k1, k2⟩ := P₃.x.keep L o hown hσL' e
  have hm₃ : s₃.heap.Ns L m := ⟨o, es, ep, k2, r⟩
  refine ⟨m, hm₃, fun h' hsb => ⟨ρ₃, σ₃, ?_, q⟩⟩
  have x : Ext (fun b => b = L) s₃ σ₃ { s₃ with heap := h' } σ₃ := ⟨⟨h', s₃.toks, rfl⟩, fun b o hb hn e' => ⟨hn, hsb.extBut b o hb e'⟩, fun _ h => h⟩
  have hnt : ∀ b, b = L → ∀ o, s₃.heap.get? b = some o → NT o := fun b hb o e' => by rw [hb] at e'; obtain ⟨o', h1, h2⟩ := nt_ns hm₃; rw [e'] at h1; cases h1; exact h2
  have M := x.mono P₃.o.s hnt
  have ap := ApartF.of (fp := fun b => b = L) X O (fun b hb => by cases hb; exact hL)
  have O' : OkS B { s₃ with heap := h' } σ₃ := ⟨fun b o e' => hsb.extBut b o (fun q => by rw [q, (ap L rfl).2.1] at e'; cases e') (P₃.o.s.keep b o e'), fun b c e' => (P₃.o.s.cell b c e').mono (fun o => hsb.extBut b o (fun q => by rw [q, k1] at e'; cases e')) M, P₃.o.s.fresh, P₃.o.s.tk⟩
  exact ⟨Ext.hid (PC.x.trans P₃.x) x fun b hb => by cases hb; exact hL, Ok.hid (s := s₃) (s' := { s₃ with heap := h' }) X P₃.o ap hnt x O'⟩

theorem WX.asgZip {x e y : Str} {f : Expr} {args : List Expr} {csc : Scope} {cpos cp pos py p1 p2 p3 p4 p5 p6 : Pos} {k1 k2 : Nat} {Q : Fl → Loc → Sto → Prop}
    (h : WE B sc N f ρ σ fun fd σ₀ => fd = .ty "zip" ∧ WL B sc N args ρ σ₀ fun ds σ₁ => ∃ it l x0 x1 r, ds = [.rng 0 (-2) (-1), .ref it] ∧ σ₁ it = some (.iter l 0) ∧ σ₁ l = some (.list (x0 :: x1 :: r)) ∧ it ≠ l ∧
      ∀ a, σ₁ a = none → WN B sc y (.ref a) ρ ((σ₁.set it (.iter l 2)).set a (.list [.tup [x0, .int 0], .tup [x1, .int (-1)]])) (Q .next))
    (C : compOkB csc sc.scope = true) (hx : csc.names.lookup x = some .local) (hy : csc.names.lookup e = some .local) (hxy : (x == e) = false) (bx : (x == ("__debug__" : Str)) = false) (by_ : (e == ("__debug__" : Str)) = false)
    (he : ∀ env, eval (.Call f args [] cp) env = (do callWith cp (← eval f env) [] (backTo cp (starEach args env)) (backToKw cp (keywordEach [] env))))
    (hstar : ∀ env, (starEach args env).any (·.1) = false) (hs : ∀ env v, foldedSetIterable (.Call f args [] cp) env v = pure v)
    (hsw : ∀ env, env.scope = sc.scope → swapsWith (.ListComp (.Tuple [.Name e p4, .Name x p5] k2 p6) [⟨.Tuple [.Name x p1, .Name e p2] k1 p3, .Call f args [] cp, [], 0⟩] csc cpos) (some (.Name y py)) pos.line env = pure true) :
    WX B sc N (.Assign [.Name y py] (.ListComp (.Tuple [.Name e p4, .Name x p5] k2 p6) [⟨.Tuple [.Name x p1, .Name e p2] k1 p3, .Call f args [] cp, [], 0⟩] csc cpos) pos) ρ σ Q := .mk fun A F s R X O => by
  have C' := CompOk.of C
  rw [exec_Assign_Name_used _ _ _ _ (hsw _ X.scope)]
  refine wpAny_bind (wpAny_standAt (wpAny_bind ?_))
  show wpAny _ A (do let _ ← comprehension (.ListComp (.Tuple [.Name e p4, .Name x p5] k2 p6) [⟨.Tuple [.Name x p1, .Name e p2] k1 p3, .Call f args [] cp, [], 0⟩] csc cpos) csc F.env _ (newList []) false (eval (.Call f args [] cp) F.env) (some (assign (.Name y py) F.env))) _ _ s
  refine wpAny_bind (wpAny_mono (Q := fun _ => PA B F s σ (Q .next)) ?_ (fun _ s' hp => hp.k fun ρ' σ' P q => wpAny_pure (wpAny_pure ⟨.next, ρ', σ', P, rfl, q⟩)) fun _ _ f => f)
  obtain ⟨cl, hclos, hcl1, hcl2⟩ := closureFor_ok (env := F.env) (csc := csc) fun x hx hf => X.cex _ (C'.free x hx hf)
  refine wpAny_comprehension_free rfl (hs _) hclos C'.fn C'.names ?_
  rw [he]
  refine wpAny_bind (wpAny_mono (h.run A F s R X O) (fun vf s₁ hp => hp.k fun fd σ₁ P₁ rf qa => u2 qa fun hfd h₁ => ?_) fun _ _ f => f)
  clear qa
  subst hfd
  cases rf
  refine callWith_of (P := fun _ => True) (by rw [noStar_back (hstar _), noNone rfl]; rfl) (fun h' _ => ⟨.machine, .inr (.inl rfl), Looks.of_pure rfl⟩) ?_
  refine evalArgs_all (noStar_back (hstar _)) rfl (wpAny_mono (h₁.run A F cp s₁ R X P₁.o) (fun vs' s₂ hp => hp.k fun ds σ₂ P₂ q₂ qa => x5 qa fun it l x0 x1 r qb => u5 qb fun hds hit hl hne h₂ => ?_) fun _ _ f => f)
  clear qa qb
  refine wpAny_evalAll_nil ⟨trivial, ?_⟩
  subst hds
  obtain ⟨vr, q, rfl, ⟨ra, t, u, u', rfl, hr⟩, vi, q', rfl, g1, g2⟩ := q₂; cases g1; cases g2
  have O₂ := P₂.o
  have iit : s₂.heap.IsListIter it l 0 := O₂.s.cell it _ hit
  obtain ⟨ws, pl, rl⟩ := O₂.s.cell l _ hl
  have P₁₂ := P₁.trans P₂
  refine call_zipr (by decide) hr iit fun h₃ hz₃ hti₃ hto₃ hri₃ hsz₃ hk₃ => ?_
  refine wpAny_pyIter_zip hz₃ ?_
  refine wpAny_newObj_type (wpAny_newFunctionEnv C'.nocell (by intro y hy; simp at hy) (fun h₄ hns₄ hsb₄ => ?_) C'.fn)
  dsimp only [Option.isSome_some, if_true] at hns₄ hsb₄ ⊢
  generalize hn0 : s₂.heap.objs.size = n0 at hz₃ hti₃ hto₃ hri₃ hsz₃
  generalize hH : h₃.push { cls := .type "list", dict := none, data := .seq ([] : List Value).toArray } = H at hns₄ hsb₄ ⊢
  have hHs : H.objs.size = n0 + 5 := by rw [← hH, Heap.size_push, hsz₃]
  rw [hsz₃, hHs]
  rw [hHs] at hns₄ hsb₄
  have hH4 : H.get? (n0 + 4) = some { cls := .type "list", dict := none, data := .seq ([] : List Value).toArray } := by rw [← hH, ← hsz₃]; exact Heap.get?_push_size _ rfl
  have kH : ∀ b o, h₃.get? b = some o → H.get? b = some o := fun b o e => by rw [← hH]; exact Heap.get?_push_of_some _ e
  have k4 : ∀ b o, H.get? b = some o → h₄.get? b = some o := fun b o e => hsb₄.extBut b o (fun q => by rw [q, ← hHs] at e; exact absurd (Heap.lt_size e) (Nat.lt_irrefl _)) (Heap.get?_push_of_some _ e)
  have k04 : ∀ b o, s₂.heap.get? b = some o → h₄.get? b = some o := fun b o e => k4 b o (kH b o (hk₃ b o e))
  have k34 : ∀ b o, h₃.get? b = some o → h₄.get? b = some o := fun b o e => k4 b o (kH b o e)
  show codeAny (Md B) A (.compStart (.ListComp (.Tuple [.Name e p4, .Name x p5] k2 p6) [⟨.Tuple [.Name x p1, .Name e p2] k1 p3, .Call f args [] cp, [], 0⟩] csc cpos) 0 (.ref (n0 + 3)) (.ref (n0 + 4)) (compEnvC csc cl (n0 + 5) F.env)) _ { s₂ with heap := h₄, toks := s₂.toks + 0 }
  have hitlt : it < n0 := by obtain ⟨o, ho, _⟩ := iit; rw [← hn0]; exact Heap.lt_size ho
  have hllt : l < n0 := by obtain ⟨n, ho⟩ := pl; rw [← hn0]; exact Heap.lt_size ho
  obtain ⟨v0, ws1, rfl, r0, v1, ws2, rfl, r1, r2⟩ := rl
  have Z0 : ZI s₂ it l (v0 :: v1 :: ws2) n0 0 { s₂ with heap := h₄, toks := s₂.toks + 0 } := {
    same := ⟨h₄, s₂.toks + 0, rfl, O₂.s.tk⟩
    keep := fun b o _ e => k04 b o e
    itr := iit.at fun o e => k04 _ o e
    z := k34 _ _ hz₃
    ti := k34 _ _ hti₃
    to := ⟨_, _, k34 _ _ hto₃⟩
    ri := k34 _ _ hri₃
    ns := ⟨_, hns₄⟩
    acc := ⟨[], ⟨0, k4 _ _ hH4⟩, rfl, fun i hi => absurd hi (Nat.not_lt_zero _)⟩ }
  have ge_none : ∀ b, n0 ≤ b → s₂.heap.get? b = none := fun b hb => by
    cases q : s₂.heap.get? b with
    | none => rfl
    | some o => exact absurd (Heap.lt_size q) (by rw [hn0]; exact Nat.not_lt.mpr hb)
  have scopeE : (compEnvC csc cl (n0 + 5) F.env).scope = relS csc sc.scope := by show relabel csc F.env = _; rw [relabel_eq, X.scope]
  have kx : (compEnvC csc cl (n0 + 5) F.env).kindOf x = some .local := by unfold Env.kindOf; rw [scopeE]; exact lookup_rel hx (by decide)
  have ky : (compEnvC csc cl (n0 + 5) F.env).kindOf e = some .local := by unfold Env.kindOf; rw [scopeE]; exact lookup_rel hy (by decide)
  have run : ∀ s' : Shared, s' = { s₂ with heap := h₄, toks := s₂.toks + 0 } → codeAny (Md B) A (.compLoop (.ListComp (.Tuple [.Name e p4, .Name x p5] k2 p6) [⟨.Tuple [.Name x p1, .Name e p2] k1 p3, .Call f args [] cp, [], 0⟩] csc cpos) 0 (.ref (n0 + 3)) (.ref (n0 + 4)) (compEnvC csc cl (n0 + 5) F.env))
      (compPost (Md B) A NoE (some (assign (.Name y py) F.env)) (fun _ => PA B F s σ (Q .next)) (.ref (n0 + 4)) (n0 + 5)) s' := by
    rintro s' rfl
    refine codeAny_compLoop_go (fun m s' => ∃ j, m = 2 - j ∧ j ≤ 2 ∧ ZI s₂ it l (v0 :: v1 :: ws2) n0 j s') ?_ 2 ⟨0, rfl, by lia, Z0⟩
    rintro m s₃ ⟨j, rfl, hj, I⟩
    by_cases hlt : j < 2
    · refine wpAny_mono (zip_turn (B := B) (env := compEnvC csc cl (n0 + 5) F.env) (p1 := p1) (p2 := p2) (p3 := p3) (p4 := p4) (p5 := p5) (p6 := p6) (k1 := k1) (k2 := k2) R.1 (by rw [scopeE]; exact C'.fn) kx ky hxy bx by_ rfl hn0 hitlt hllt (Ne.symm hne) hlt (by simp) pl.isList I) (fun r s₄ q => q.elim fun v q => u2 q fun hv h₄ => ?_) fun _ _ f => f
      subst hv
      refine wpAny_mono h₄ (fun _ s₅ h₅ => wpAny_mono h₅ (fun _ s₆ h₆ => wpAny_tests_nil ?_) fun _ _ f => f) fun _ _ f => f
      simp only [if_true]
      exact wpAny_mono h₆ (fun u s₇ h₇ => wpAny_mono h₇ (fun _ s₈ I' => ⟨2 - (j + 1), by lia, j + 1, rfl, by lia, I'⟩) fun _ _ f => f) fun _ _ f => f
    · have hj2 : j = 2 := by lia
      subst hj2
      refine pyNext_zipr_end R.1 (by show (n0 : Nat) ≠ n0 + 3; lia) I.z I.ti I.ri (by simp) fun h₅ hk₅ => ?_
      obtain ⟨⟨hh, tk, rfl, htk⟩, kp, itr, _, _, _, _, ⟨m, o, es, ep, g, rr⟩, ts, ⟨nn, acc⟩, hts⟩ := I
      have hb5 : Heap.ExtBut it s₂.heap h₅ := fun b o hb e => hk₅ b o (Nat.ne_of_lt (Nat.lt_of_lt_of_le (hn0 ▸ Heap.lt_size e : b < n0) (Nat.le_add_right _ _))) (kp b o hb e)
      have it5 : h₅.IsListIter it l 2 := itr.at fun o e => hk₅ _ o (Nat.ne_of_lt (Nat.lt_of_lt_of_le hitlt (Nat.le_add_right _ _))) e
      have PS : PostS B s₂ σ₂ { s₂ with heap := h₅, toks := tk } (σ₂.set it (.iter l 2)) := PostS.upd O₂.s hb5 hit it5 fun _ => htk
      have P₅ := P₁₂.trans (PS.frame X O₂)
      have M : Mono s₂.heap h₅ := PS.mono O₂.s
      have gD := ge_none (n0 + 4) (by lia)
      have gL := ge_none (n0 + 5) (by lia)
      have σf : ∀ b, n0 ≤ b → (σ₂.set it (.iter l 2)) b = none := fun b hb => by
        rw [Sto.set_ne _ _ (Nat.ne_of_gt (Nat.lt_of_lt_of_le hitlt hb))]; exact O₂.s.none_of (ge_none b hb)
      refine comp_end X O P₅ (P₁₂.none_back O gD) (P₁₂.none_back O gL) (by show (n0 + 5 : Nat) ≠ n0 + 4; lia) (σf _ (by lia)) (σf _ (by lia)) (out := [.tup [x0, .int 0], .tup [x1, .int (-1)]]) ⟨ts, ⟨nn, hk₅ _ _ (by show (n0 + 4 : Nat) ≠ n0 + 3; lia) acc⟩, ?_⟩ ⟨m, o, es, ep, hk₅ _ o (by show (n0 + 5 : Nat) ≠ n0 + 3; lia) g, rr⟩ (h₂ _ (O₂.s.none_of gD))
      exact (hts.keep fun b o hb e => hk₅ b o (by show (b : Nat) ≠ n0 + 3; lia) e).rep (r0.mono M) (r1.mono M)
  refine codeAny_compStart_list (run _ rfl) (wpAny_pyIter_zip Z0.z (run _ rfl))
end
end

section
open PySem.SeqAt
open Builtin.Str
set_option maxRecDepth 100000
theorem max_loopH {prog : Program} {w : World} {A : Around} {R : Result → Shared → Prop} {I l S : Addr} {vs : Array Value} {h0 : Heap} (hh : A.handled = none) (bt : Nat → Nat → Bool) (hSI : S ≠ I) (hlI : l ≠ I) (hlS : l ≠ S)
    (hcmp : ∀ (s : Shared), (∀ b o, h0.get? b = some o → b ≠ I → b ≠ S → s.heap.get? b = some o) → ∀ i j vi vj, vs[i]? = some vi → vs[j]? = some vj → OpAt .Gt A.in1 s vi vj (bt i j)) (hl0 : h0.IsList l vs) :
    ∀ (k j : Nat) (s : Shared) (vb : Value) (c : Nat), vs.size - (j + 1) = k → j + 1 ≤ vs.size → s.heap.IsListIter I l (j + 1) → vs[argBest bt j]? = some vb →
    s.heap.get? S = some { cls := .type "list", dict := none, data := .seq #[vb, vb] c, slots := #[] } → (∀ b o, h0.get? b = some o → b ≠ I → b ≠ S → s.heap.get? b = some o) →
    (∀ v h' tk, vs[argBest bt (vs.size - 1)]? = some v → (∀ b o, h0.get? b = some o → b ≠ I → b ≠ S → h'.get? b = some o) → R (.ok (.ret v)) { s with heap := h', toks := tk }) →
    codeAny (model prog w) A (.builtin "max.loop" ⟨[.ref I, .none, .ref S], []⟩) R s := by
  have hname : (toString "max" ++ toString ".loop" : String) = "max.loop" := by decide
  intro k
  induction k with
  | zero =>
    intro j s vb c hk hj hst hPb hS hkeep hR
    have hin : j + 1 = vs.size := by omega
    have hl := hl0.at fun o e => hkeep l o e hlI hlS
    refine codeAny_builtin PySem.F.entry_max_loop ?_
    rw [Around.under_plainId PySem.F.plain_max_loop _]
    show wpAny _ A.in1 (seqItems? (.ref S) >>= _) _ _ s
    refine wpAny_bind (wpAny_seqItems hS rfl ?_)
    show wpAny _ A.in1 (tryCatch (pyNext (.ref I)) _ >>= _) _ _ s
    refine wpAny_bind (wpAny_tryCatch (wpAny_pyNext_list_end hh hst hl (by rw [hin]; simp) fun h' hk' => ?_))
    have hS' := hk' S _ hSI hS
    show wpAny _ A.in1 (updateSeq S (fun _ => #[]) >>= _) _ _ _
    refine wpAny_bind ?_
    refine wpAny_updateSeq hS' rfl (wpAny_bind (wpAny_letGo (wpAny_pure ?_)))
    refine hR vb _ s.toks (by rw [← hin]; exact hPb) fun b o e hbI hbS => (Heap.get?_update_other _ _ (Ne.symm hbS)).trans (hk' b o hbI (hkeep b o e hbI hbS))
  | succ k ih =>
    intro j s vb c hk hj hst hPb hS hkeep hR
    have hlt : j + 1 < vs.size := by omega
    have hl := hl0.at fun o e => hkeep l o e hlI hlS
    refine codeAny_builtin PySem.F.entry_max_loop ?_
    rw [Around.under_plainId PySem.F.plain_max_loop _]
    show wpAny _ A.in1 (seqItems? (.ref S) >>= _) _ _ s
    refine wpAny_bind (wpAny_seqItems hS rfl ?_)
    show wpAny _ A.in1 (tryCatch (pyNext (.ref I)) _ >>= _) _ _ s
    have hv : vs[j + 1]? = some vs[j + 1] := Array.getElem?_eq_getElem hlt
    refine wpAny_bind (wpAny_tryCatch (wpAny_pyNext_list_item hst hl hv fun h' hst' hs' => ?_))
    have hk' : ∀ b o, b ≠ I → s.heap.get? b = some o → h'.get? b = some o := fun b o hb e => hs'.extBut b o hb e
    have hS' := hk' S _ hSI hS
    have hkeep' : ∀ b o, h0.get? b = some o → b ≠ I → b ≠ S → h'.get? b = some o := fun b o e h1 h2 => hk' b o h1 (hkeep b o e h1 h2)
    generalize vs[j + 1] = v at hv
    show wpAny _ A.in1 (tryCatch (holding [v, v] (richCompare .Gt v vb >>= _)) _ >>= _) _ _ _
    refine wpAny_bind (wpAny_tryCatch (wpAny_holding (wpAny_bind (hcmp { s with heap := h' } hkeep' (j + 1) (argBest bt j) v vb hv hPb prog w _ _ ?_))))
    refine wpAny_bind (wpAny_holding (wpAny_truthy_bool ?_))
    refine wpAny_bind (wpAny_letGo (wpAny_pure ?_))
    cases hb : bt (j + 1) (argBest bt j) with
    | true =>
      simp only [if_true]
      refine wpAny_bind ?_
      refine wpAny_updateSeq hS' rfl (wpAny_bind (wpAny_letGo ?_))
      rw [hname]
      refine wpAny_pure ⟨plainId_quiet PySem.F.plain_max_loop _, ih (j + 1) _ v _ (by omega) hlt (hst'.at fun o e => (Heap.get?_update_other _ _ hSI).trans e) (by simp only [argBest, hb, if_true]; exact hv) (Heap.get?_update_self _ hS' rfl)
        (fun b o e h1 h2 => (Heap.get?_update_other _ _ (Ne.symm h2)).trans (hkeep' b o e h1 h2)) fun v' h'' tk'' hP' hk'' => ?_⟩
      exact hR v' h'' tk'' hP' hk''
    | false =>
      simp only [Bool.false_eq_true, if_false]
      refine wpAny_bind (wpAny_letGo ?_)
      rw [hname]
      refine wpAny_pure ⟨plainId_quiet PySem.F.plain_max_loop _, ih (j + 1) _ vb c (by omega) hlt hst' (by simp only [argBest, hb, Bool.false_eq_true, if_false]; exact hPb) hS' hkeep' fun v' h'' tk'' hP' hk'' => ?_⟩
      exact hR v' h'' tk'' hP' hk''

theorem call_maxH {prog : Program} {w : World} {A : Around} {E : Value → Shared → Prop} {s : Shared} {l : Addr} {vs : Array Value} {Q : Value → Shared → Prop} (hh : A.handled = none) (bt : Nat → Nat → Bool) (hl : s.heap.IsList l vs) (hn : 0 < vs.size)
    (hcmp : ∀ (s' : Shared), (∀ b o, s.heap.get? b = some o → s'.heap.get? b = some o) → ∀ i j vi vj, vs[i]? = some vi → vs[j]? = some vj → OpAt .Gt A.in1 s' vi vj (bt i j))
    (hQ : ∀ v h' tk, vs[argBest bt (vs.size - 1)]? = some v → (∀ b o, s.heap.get? b = some o → h'.get? b = some o) → Q v { s with heap := h', toks := tk }) : wpAny (model prog w) A (call (.builtin "max") [.ref l]) Q E s := by
  have hname : (toString "max" ++ toString ".loop" : String) = "max.loop" := by decide
  refine call_function_tree PySem.F.kind_max PySem.F.plain_max PySem.F.entry_max (PySem.F.args_max1 _) ?_
  show wpAny _ A.in1 (Builtin.Builtins.bindParams "max" ["key", "default"] 0 ⟨[], []⟩ >>= _) _ _ s
  refine wpAny_bind (wpAny_of_eq (show Builtin.Builtins.bindParams "max" ["key", "default"] 0 ⟨[], []⟩ = pure [none, none] from rfl) ?_)
  refine wpAny_bind (wpAny_pure ?_)
  refine wpAny_bind (wpAny_pyIter_list hl ?_)
  refine wpAny_bind (wpAny_newObj_type ?_)
  rw [hname]
  generalize hI : s.heap.objs.size = I
  generalize hH : s.heap.push { cls := .type "list_iterator", data := .fields #[.ref l, .int 0 0] } = h1
  have e1 : h1.get? I = some { cls := .type "list_iterator", data := .fields #[.ref l, .int 0 0] } := by rw [← hH, ← hI]; exact Heap.get?_push_size _ rfl
  have k1 : ∀ b o, s.heap.get? b = some o → h1.get? b = some o := fun b o e => by rw [← hH]; exact Heap.get?_push_of_some _ e
  have z1 : h1.objs.size = I + 1 := by rw [← hH, Heap.size_push, hI]
  clear hH
  generalize hS : h1.objs.size = S at z1
  generalize hH2 : h1.push { cls := .type "list", dict := none, data := .seq #[], slots := #[] } = h2
  have e2 : h2.get? S = some { cls := .type "list", dict := none, data := .seq #[], slots := #[] } := by rw [← hH2, ← hS]; exact Heap.get?_push_size _ rfl
  have k2 : ∀ b o, h1.get? b = some o → h2.get? b = some o := fun b o e => by rw [← hH2]; exact Heap.get?_push_of_some _ e
  clear hH2
  have lt0 : ∀ b o, s.heap.get? b = some o → b ≠ I ∧ b ≠ S := fun b o e => by
    have := Heap.lt_size e
    rw [hI] at this
    exact ⟨Nat.ne_of_lt this, by rw [z1]; exact Nat.ne_of_lt (Nat.lt_succ_of_lt this)⟩
  have hl' := id hl
  obtain ⟨ol, hol, _⟩ := hl'
  have hSI : S ≠ I := by rw [z1]; exact Nat.succ_ne_self _
  refine wpAny_pure ⟨plainId_quiet PySem.F.plain_max_loop _, codeAny_builtin PySem.F.entry_max_loop ?_⟩
  rw [Around.under_plainId PySem.F.plain_max_loop _]
  show wpAny _ A.in1 (seqItems? (.ref S) >>= _) _ _ _
  refine wpAny_bind (wpAny_seqItems e2 rfl ?_)
  show wpAny _ A.in1 (tryCatch (pyNext (.ref I)) _ >>= _) _ _ _
  have hv : vs[0]? = some vs[0] := Array.getElem?_eq_getElem hn
  refine wpAny_bind (wpAny_tryCatch (wpAny_pyNext_list_item (i := 0) ⟨_, k2 _ _ e1, rfl, rfl⟩ (hl.at fun o e => k2 _ o (k1 _ o e)) hv fun h' hst' hs' => ?_))
  have hS' := hs'.extBut S _ hSI e2
  show wpAny _ A.in1 (updateSeq S (fun _ => #[vs[0], vs[0]]) >>= _) _ _ _
  refine wpAny_bind ?_
  refine wpAny_updateSeq hS' rfl ?_
  rw [hname]
  refine wpAny_pure ⟨plainId_quiet PySem.F.plain_max_loop _, max_loopH (h0 := s.heap) hh bt hSI (lt0 _ _ hol).1 (lt0 _ _ hol).2 (fun s' hk => hcmp s' fun b o e => hk b o e (lt0 b o e).1 (lt0 b o e).2) hl _ 0 _ vs[0] _ rfl hn (hst'.at fun o e => (Heap.get?_update_other _ _ hSI).trans e) hv (Heap.get?_update_self _ hS' rfl)
    (fun b o e h1 h2' => (Heap.get?_update_other _ _ (Ne.symm h2')).trans (hs'.extBut b o h1 (k2 b o (k1 b o e)))) fun v' h'' tk'' hP' hk'' => ?_⟩
  exact hQ v' h'' tk'' hP' fun b o e => hk'' b o e (lt0 b o e).1 (lt0 b o e).2

theorem min_loopH {prog : Program} {w : World} {A : Around} {R : Result → Shared → Prop} {I l S : Addr} {vs : Array Value} {h0 : Heap} (hh : A.handled = none) (bt : Nat → Nat → Bool) (hSI : S ≠ I) (hlI : l ≠ I) (hlS : l ≠ S)
    (hcmp : ∀ (s : Shared), (∀ b o, h0.get? b = some o → b ≠ I → b ≠ S → s.heap.get? b = some o) → ∀ i j vi vj, vs[i]? = some vi → vs[j]? = some vj → OpAt .Lt A.in1 s vi vj (bt i j)) (hl0 : h0.IsList l vs) :
    ∀ (k j : Nat) (s : Shared) (vb : Value) (c : Nat), vs.size - (j + 1) = k → j + 1 ≤ vs.size → s.heap.IsListIter I l (j + 1) → vs[argBest bt j]? = some vb →
    s.heap.get? S = some { cls := .type "list", dict := none, data := .seq #[vb, vb] c, slots := #[] } → (∀ b o, h0.get? b = some o → b ≠ I → b ≠ S → s.heap.get? b = some o) →
    (∀ v h' tk, vs[argBest bt (vs.size - 1)]? = some v → (∀ b o, h0.get? b = some o → b ≠ I → b ≠ S → h'.get? b = some o) → R (.ok (.ret v)) { s with heap := h', toks := tk }) →
    codeAny (model prog w) A (.builtin "min.loop" ⟨[.ref I, .none, .ref S], []⟩) R s := by
  have hname : (toString "min" ++ toString ".loop" : String) = "min.loop" := by decide
  intro k
  induction k with
  | zero =>
    intro j s vb c hk hj hst hPb hS hkeep hR
    have hin : j + 1 = vs.size := by omega
    have hl := hl0.at fun o e => hkeep l o e hlI hlS
    refine codeAny_builtin PySem.F.entry_min_loop ?_
    rw [Around.under_plainId PySem.F.plain_min_loop _]
    show wpAny _ A.in1 (seqItems? (.ref S) >>= _) _ _ s
    refine wpAny_bind (wpAny_seqItems hS rfl ?_)
    show wpAny _ A.in1 (tryCatch (pyNext (.ref I)) _ >>= _) _ _ s
    refine wpAny_bind (wpAny_tryCatch (wpAny_pyNext_list_end hh hst hl (by rw [hin]; simp) fun h' hk' => ?_))
    have hS' := hk' S _ hSI hS
    show wpAny _ A.in1 (updateSeq S (fun _ => #[]) >>= _) _ _ _
    refine wpAny_bind ?_
    refine wpAny_updateSeq hS' rfl (wpAny_bind (wpAny_letGo (wpAny_pure ?_)))
    refine hR vb _ s.toks (by rw [← hin]; exact hPb) fun b o e hbI hbS => (Heap.get?_update_other _ _ (Ne.symm hbS)).trans (hk' b o hbI (hkeep b o e hbI hbS))
  | succ k ih =>
    intro j s vb c hk hj hst hPb hS hkeep hR
    have hlt : j + 1 < vs.size := by omega
    have hl := hl0.at fun o e => hkeep l o e hlI hlS
    refine codeAny_builtin PySem.F.entry_min_loop ?_
    rw [Around.under_plainId PySem.F.plain_min_loop _]
    show wpAny _ A.in1 (seqItems? (.ref S) >>= _) _ _ s
    refine wpAny_bind (wpAny_seqItems hS rfl ?_)
    show wpAny _ A.in1 (tryCatch (pyNext (.ref I)) _ >>= _) _ _ s
    have hv : vs[j + 1]? = some vs[j + 1] := Array.getElem?_eq_getElem hlt
    refine wpAny_bind (wpAny_tryCatch (wpAny_pyNext_list_item hst hl hv fun h' hst' hs' => ?_))
    have hk' : ∀ b o, b ≠ I → s.heap.get? b = some o → h'.get? b = some o := fun b o hb e => hs'.extBut b o hb e
    have hS' := hk' S _ hSI hS
    have hkeep' : ∀ b o, h0.get? b = some o → b ≠ I → b ≠ S → h'.get? b = some o := fun b o e h1 h2 => hk' b o h1 (hkeep b o e h1 h2)
    generalize vs[j + 1] = v at hv
    show wpAny _ A.in1 (tryCatch (holding [v, v] (richCompare .Lt v vb >>= _)) _ >>= _) _ _ _
    refine wpAny_bind (wpAny_tryCatch (wpAny_holding (wpAny_bind (hcmp { s with heap := h' } hkeep' (j + 1) (argBest bt j) v vb hv hPb prog w _ _ ?_))))
    refine wpAny_bind (wpAny_holding (wpAny_truthy_bool ?_))
    refine wpAny_bind (wpAny_letGo (wpAny_pure ?_))
    cases hb : bt (j + 1) (argBest bt j) with
    | true =>
      simp only [if_true]
      refine wpAny_bind ?_
      refine wpAny_updateSeq hS' rfl (wpAny_bind (wpAny_letGo ?_))
      rw [hname]
      refine wpAny_pure ⟨plainId_quiet PySem.F.plain_min_loop _, ih (j + 1) _ v _ (by omega) hlt (hst'.at fun o e => (Heap.get?_update_other _ _ hSI).trans e) (by simp only [argBest, hb, if_true]; exact hv) (Heap.get?_update_self _ hS' rfl)
        (fun b o e h1 h2 => (Heap.get?_update_other _ _ (Ne.symm h2)).trans (hkeep' b o e h1 h2)) fun v' h'' tk'' hP' hk'' => ?_⟩
      exact hR v' h'' tk'' hP' hk''
    | false =>
      simp only [Bool.false_eq_true, if_false]
      refine wpAny_bind (wpAny_letGo ?_)
      rw [hname]
      refine wpAny_pure ⟨plainId_quiet PySem.F.plain_min_loop _, ih (j + 1) _ vb c (by omega) hlt hst' (by simp only [argBest, hb, Bool.false_eq_true, if_false]; exact hPb) hS' hkeep' fun v' h'' tk'' hP' hk'' => ?_⟩
      exact hR v' h'' tk'' hP' hk''

theorem call_minH {prog : Program} {w : World} {A : Around} {E : Value → Shared → Prop} {s : Shared} {l : Addr} {vs : Array Value} {Q : Value → Shared → Prop} (hh : A.handled = none) (bt : Nat → Nat → Bool) (hl : s.heap.IsList l vs) (hn : 0 < vs.size)
    (hcmp : ∀ (s' : Shared), (∀ b o, s.heap.get? b = some o → s'.heap.get? b = some o) → ∀ i j vi vj, vs[i]? = some vi → vs[j]? = some vj → OpAt .Lt A.in1 s' vi vj (bt i j))
    (hQ : ∀ v h' tk, vs[argBest bt (vs.size - 1)]? = some v → (∀ b o, s.heap.get? b = some o → h'.get? b = some o) → Q v { s with heap := h', toks := tk }) : wpAny (model prog w) A (call (.builtin "min") [.ref l]) Q E s := by
  have hname : (toString "min" ++ toString ".loop" : String) = "min.loop" := by decide
  refine call_function_tree PySem.F.kind_min PySem.F.plain_min PySem.F.entry_min (PySem.F.args_min1 _) ?_
  show wpAny _ A.in1 (Builtin.Builtins.bindParams "min" ["key", "default"] 0 ⟨[], []⟩ >>= _) _ _ s
  refine wpAny_bind (wpAny_of_eq (show Builtin.Builtins.bindParams "min" ["key", "default"] 0 ⟨[], []⟩ = pure [none, none] from rfl) ?_)
  refine wpAny_bind (wpAny_pure ?_)
  refine wpAny_bind (wpAny_pyIter_list hl ?_)
  refine wpAny_bind (wpAny_newObj_type ?_)
  rw [hname]
  generalize hI : s.heap.objs.size = I
  generalize hH : s.heap.push { cls := .type "list_iterator", data := .fields #[.ref l, .int 0 0] } = h1
  have e1 : h1.get? I = some { cls := .type "list_iterator", data := .fields #[.ref l, .int 0 0] } := by rw [← hH, ← hI]; exact Heap.get?_push_size _ rfl
  have k1 : ∀ b o, s.heap.get? b = some o → h1.get? b = some o := fun b o e => by rw [← hH]; exact Heap.get?_push_of_some _ e
  have z1 : h1.objs.size = I + 1 := by rw [← hH, Heap.size_push, hI]
  clear hH
  generalize hS : h1.objs.size = S at z1
  generalize hH2 : h1.push { cls := .type "list", dict := none, data := .seq #[], slots := #[] } = h2
  have e2 : h2.get? S = some { cls := .type "list", dict := none, data := .seq #[], slots := #[] } := by rw [← hH2, ← hS]; exact Heap.get?_push_size _ rfl
  have k2 : ∀ b o, h1.get? b = some o → h2.get? b = some o := fun b o e => by rw [← hH2]; exact Heap.get?_push_of_some _ e
  clear hH2
  have lt0 : ∀ b o, s.heap.get? b = some o → b ≠ I ∧ b ≠ S := fun b o e => by
    have := Heap.lt_size e
    rw [hI] at this
    exact ⟨Nat.ne_of_lt this, by rw [z1]; exact Nat.ne_of_lt (Nat.lt_succ_of_lt this)⟩
  have hl' := id hl
  obtain ⟨ol, hol, _⟩ := hl'
  have hSI : S ≠ I := by rw [z1]; exact Nat.succ_ne_self _
  refine wpAny_pure ⟨plainId_quiet PySem.F.plain_min_loop _, codeAny_builtin PySem.F.entry_min_loop ?_⟩
  rw [Around.under_plainId PySem.F.plain_min_loop _]
  show wpAny _ A.in1 (seqItems? (.ref S) >>= _) _ _ _
  refine wpAny_bind (wpAny_seqItems e2 rfl ?_)
  show wpAny _ A.in1 (tryCatch (pyNext (.ref I)) _ >>= _) _ _ _
  have hv : vs[0]? = some vs[0] := Array.getElem?_eq_getElem hn
  refine wpAny_bind (wpAny_tryCatch (wpAny_pyNext_list_item (i := 0) ⟨_, k2 _ _ e1, rfl, rfl⟩ (hl.at fun o e => k2 _ o (k1 _ o e)) hv fun h' hst' hs' => ?_))
  have hS' := hs'.extBut S _ hSI e2
  show wpAny _ A.in1 (updateSeq S (fun _ => #[vs[0], vs[0]]) >>= _) _ _ _
  refine wpAny_bind ?_
  refine wpAny_updateSeq hS' rfl ?_
  rw [hname]
  refine wpAny_pure ⟨plainId_quiet PySem.F.plain_min_loop _, min_loopH (h0 := s.heap) hh bt hSI (lt0 _ _ hol).1 (lt0 _ _ hol).2 (fun s' hk => hcmp s' fun b o e => hk b o e (lt0 b o e).1 (lt0 b o e).2) hl _ 0 _ vs[0] _ rfl hn (hst'.at fun o e => (Heap.get?_update_other _ _ hSI).trans e) hv (Heap.get?_update_self _ hS' rfl)
    (fun b o e h1 h2' => (Heap.get?_update_other _ _ (Ne.symm h2')).trans (hs'.extBut b o h1 (k2 b o (k1 b o e)))) fun v' h'' tk'' hP' hk'' => ?_⟩
  exact hQ v' h'' tk'' hP' fun b o e => hk'' b o e (lt0 b o e).1 (lt0 b o e).2
end

section
open PySem.SeqAt
open Builtin.Str
set_option maxRecDepth 100000
section
variable {B : Bs} {sc : Sc} {N : Nat} {ρ : Loc} {σ : Sto} {F : Frm} {A : Around} {s : Shared}
/-- rows of texts, each in a list of its own -/
noncomputable def RowsAt (σ : Sto) (as : List Addr) (rows : List (List Str)) : Prop := as.length = rows.length ∧ ∀ i a, as[i]? = some a → σ a = some (.list ((rows.getD i []).map V.str))
theorem refs_of {h : Heap} : ∀ {as : List Addr} {vs : List Value}, RepL h (as.map V.ref) vs → vs = as.map Value.ref
  | [], vs, r => by cases r; rfl
  | a :: as, vs, r => by
    obtain ⟨v, r', rfl, h1, h2⟩ := r
    cases h1
    rw [refs_of h2]; rfl
theorem rows_cmp {as : List Addr} {rows : List (List Str)} (O : OkS B s σ) (hr : RowsAt σ as rows) {s' : Shared} (hk : ∀ b o, s.heap.get? b = some o → s'.heap.get? b = some o) (hu : A.units < cLine) (i j : Nat) (vi vj : Value)
    (hi : (List.toArray (as.map Value.ref))[i]? = some vi) (hj : (List.toArray (as.map Value.ref))[j]? = some vj) :
    OpAt .Lt A s' vi vj (slt (rows.getD i []) (rows.getD j [])) ∧ OpAt .Gt A s' vi vj (slt (rows.getD j []) (rows.getD i [])) := by
  have g : ∀ i v, (List.toArray (as.map Value.ref))[i]? = some v → ∃ a l, v = .ref a ∧ s'.heap.IsList a (strValues l).toArray ∧ l.map (·.1) = rows.getD i [] := fun i v hv => by
    rw [List.getElem?_toArray, List.getElem?_map] at hv
    obtain ⟨a, ha, rfl⟩ := Option.map_eq_some_iff.mp hv
    obtain ⟨vs, pl, rl⟩ := O.cell a _ (hr.2 i a ha)
    obtain ⟨l, rfl, e⟩ := strs_of rl
    exact ⟨a, l, rfl, pl.isList.at fun o e => hk _ o e, e⟩
  obtain ⟨a, l, rfl, h1, e1⟩ := g i vi hi
  obtain ⟨b, l', rfl, h2, e2⟩ := g j vj hj
  rw [← e1, ← e2]
  exact list_cmp h1 h2 hu
theorem argBest_lt (bt : Nat → Nat → Bool) : ∀ k, argBest bt k ≤ k
  | 0 => Nat.le_refl _
  | k + 1 => by
    unfold argBest
    split
    · exact Nat.le_refl _
    · exact Nat.le_succ_of_le (argBest_lt bt k)
theorem WC.min_rows {l : Addr} {as : List Addr} {rows : List (List Str)} {Q : V → Sto → Prop} (hl : σ l = some (.list (as.map V.ref))) (hr : RowsAt σ as rows) (hn : 0 < as.length) (hN : 1 ≤ N)
    (h : ∀ k a, k = argBest (fun i j => slt (rows.getD i []) (rows.getD j [])) (as.length - 1) → as[k]? = some a → Q (.ref a) σ) : WC B N (.bi "min") [.ref l] [] σ Q := fun A s vf vs kws R O rf rv rk => by
  cases rf; cases rk
  obtain ⟨v, r, rfl, h1, h3⟩ := rv; cases h3; cases h1
  obtain ⟨ws, pl, rl⟩ := O.cell l _ hl
  have hw := refs_of rl
  subst hw
  have hu : A.in1.units < cLine := by have := R.2.2; show A.units + 1 < _; lia
  refine wpAny_with_toks O.tk (call_minH R.1 (fun i j => slt (rows.getD i []) (rows.getD j [])) pl.isList (by simpa using hn) (fun s' hk i j vi vj hi hj => (rows_cmp O hr hk hu i j vi vj hi hj).1) fun v h' tk hv hk ht => ?_)
  rw [List.getElem?_toArray, List.getElem?_map, List.size_toArray, List.length_map] at hv
  obtain ⟨a, ha, rfl⟩ := Option.map_eq_some_iff.mp hv
  exact ⟨.ref a, σ, PostS.keeps O hk fun _ => ht, rfl, h _ a rfl ha⟩
theorem WC.max_rows {l : Addr} {as : List Addr} {rows : List (List Str)} {Q : V → Sto → Prop} (hl : σ l = some (.list (as.map V.ref))) (hr : RowsAt σ as rows) (hn : 0 < as.length) (hN : 1 ≤ N)
    (h : ∀ k a, k = argBest (fun i j => slt (rows.getD j []) (rows.getD i [])) (as.length - 1) → as[k]? = some a → Q (.ref a) σ) : WC B N (.bi "max") [.ref l] [] σ Q := fun A s vf vs kws R O rf rv rk => by
  cases rf; cases rk
  obtain ⟨v, r, rfl, h1, h3⟩ := rv; cases h3; cases h1
  obtain ⟨ws, pl, rl⟩ := O.cell l _ hl
  have hw := refs_of rl
  subst hw
  have hu : A.in1.units < cLine := by have := R.2.2; show A.units + 1 < _; lia
  refine wpAny_with_toks O.tk (call_maxH R.1 (fun i j => slt (rows.getD j []) (rows.getD i [])) pl.isList (by simpa using hn) (fun s' hk i j vi vj hi hj => (rows_cmp O hr hk hu i j vi vj hi hj).2) fun v h' tk hv hk ht => ?_)
  rw [List.getElem?_toArray, List.getElem?_map, List.size_toArray, List.length_map] at hv
  obtain ⟨a, ha, rfl⟩ := Option.map_eq_some_iff.mp hv
  exact ⟨.ref a, σ, PostS.keeps O hk fun _ => ht, rfl, h _ a rfl ha⟩
end
end

section
open PySem.SeqAt
open Builtin.Str
set_option maxRecDepth 100000
theorem map_owner : Manifest.owners.lookup (String.ofList ['p', 'a', 'm'].reverse) = some Manifest.sig_map := by kernel_rfl
theorem map_mro : mroOf (.type "map") = pure [.type "map", .type "object"] := by rw [mroOf_type]; kernel_rfl
theorem map_lookup_new : typeLookup (.type "map") "__new__" = pure (some (.builtin "map.__new__")) := by rw [typeLookup_type, builtinLookup_eq_fast]; kernel_rfl
theorem map_init : Slot "map" "__init__" "object.__init__" :=
  .of (owner := "object") (n := "__init__") (by rw [typeLookup_type, builtinLookup_eq_fast]; kernel_rfl) (by decide +kernel) (by decide +kernel) (by decide +kernel)
    (by first | exact .inl (by decide +kernel) | exact .inr (by decide +kernel)) (by rw [isSubtype_type]; kernel_rfl)
theorem map_next : Slot "map" "__next__" "map.__next__" :=
  .of (owner := "map") (n := "__next__") (by rw [typeLookup_type, builtinLookup_eq_fast]; kernel_rfl) (by decide +kernel) (by decide +kernel) (by decide +kernel)
    (by first | exact .inl (by decide +kernel) | exact .inr (by decide +kernel)) (by rw [isSubtype_type]; kernel_rfl)
theorem map_iter : Slot "map" "__iter__" "map.__iter__" :=
  .of (owner := "map") (n := "__iter__") (by rw [typeLookup_type, builtinLookup_eq_fast]; kernel_rfl) (by decide +kernel) (by decide +kernel) (by decide +kernel)
    (by first | exact .inl (by decide +kernel) | exact .inr (by decide +kernel)) (by rw [isSubtype_type]; kernel_rfl)
theorem map_entry_next : entryFor table "map.__next__" = some Builtin.«map.__next__» := entryFor_of_tree (by kernel_rfl)
theorem map_entry_new : entryFor table "map.__new__" = some Builtin.«map.__new__» := entryFor_of_tree (by kernel_rfl)
theorem map_entry_iter : entryFor table "map.__iter__" = some Builtin.«dict_keyiterator.__iter__» :=
  entryFor_alias (id' := "dict_keyiterator.__iter__") (by kernel_rfl) (by first | rfl | decide +kernel | (unfold String.splitOn; simp +decide [String.splitOnAux])) (by decide +kernel) (by kernel_rfl)
theorem map_args_next (a : Value) : argsOk "map.__next__" ⟨[a], []⟩ := by
  unfold argsOk; rw [signature?_of (id := "map.__next__") (n := ['_', '_', 't', 'x', 'e', 'n', '_', '_']) (o := ['p', 'a', 'm']) (by kernel_rfl) map_owner]; kernel_rfl
theorem map_args_iter (a : Value) : argsOk "map.__iter__" ⟨[a], []⟩ := by
  unfold argsOk; rw [signature?_of (id := "map.__iter__") (n := ['_', '_', 'r', 'e', 't', 'i', '_', '_']) (o := ['p', 'a', 'm']) (by kernel_rfl) map_owner]; kernel_rfl
theorem map_typeCall (a b : Value) : checkTypeCall "map" ⟨[a, b], []⟩ = pure () := by kernel_rfl
theorem map_newCall (a b : Value) : checkBuiltinCall "map.__new__" ⟨[.type "map", a, b], []⟩ = pure () := by kernel_rfl
theorem map_called : TypeCalled "map" "map.__new__" "object.__init__" :=
  ⟨by decide +kernel, by decide +kernel, ⟨_, _, map_mro⟩, madeBy_type map_mro map_lookup_new (by decide +kernel), by decide +kernel, by rw [isSubtype_type]; kernel_rfl, map_init⟩
theorem map_sub : isSubtype (.type "map") (.type "map") = pure true := by rw [isSubtype_type]; kernel_rfl
theorem map_no_len : typeLookup (.type "map") "__len__" = pure none := by rw [typeLookup_type, builtinLookup_eq_fast]; kernel_rfl
theorem map_no_hint : typeLookup (.type "map") "__length_hint__" = pure none := by rw [typeLookup_type, builtinLookup_eq_fast]; kernel_rfl
theorem map_not_tuple : isSubtype (.type "map") (.type "tuple") = pure false := by rw [isSubtype_type]; kernel_rfl

theorem map_new (f : Value) (l : Addr) (items : Array Value) :
    Meets (Builtin.«map.__new__» ⟨[.type "map", f, .ref l], []⟩) (fun _ R s => s.heap.IsList l items ∧
      ∀ h1 h2 h3, h1 = s.heap.push { cls := .type "list_iterator", data := .fields #[.ref l, .int 0 0] } → h2 = h1.push { cls := .type "tuple", data := .seq #[.ref s.heap.objs.size] } → h3 = h2.push { cls := .type "map", data := .fields #[.ref h1.objs.size, f] } → R (.ok (.ret (.ref h2.objs.size))) { s with heap := h3 }) :=
  .of_wp fun prog w A R s h => by
    obtain ⟨hp, g, d, tk, os⟩ := s; obtain ⟨hl, h⟩ := h
    have hsub := map_sub
    have hL : Heap.IsList (Shared.heap ⟨hp, g, d, tk, os⟩) l items := hl
    wp_walk using wpAny_pyIter_list hL
    exact ⟨_, rfl, h _ _ _ rfl rfl rfl⟩
end

section
open PySem.SeqAt
open Builtin.Str
set_option maxRecDepth 100000
section
variable {B : Bs} {sc : Sc} {N : Nat} {ρ : Loc} {σ : Sto} {F : Frm} {A : Around} {s : Shared}
theorem Room.sub {A A' : Around} {N : Nat} (R : Room A (N + 1)) (h1 : A'.handled = A.handled) (h2 : A'.depth = A.depth) (h3 : A'.units ≤ A.units + 16) : Room A' N :=
  ⟨h1.trans R.1, by rw [h2]; have := R.2.1; lia, by have := R.2.2; lia⟩

/-- a list's end, and what the iterator is afterwards -/
theorem nextOf_end {I l : Addr} {i : Nat} {items : Array Value} {Q : Value → Shared → Prop} {E : Value → Shared → Prop} (hh : A.handled = none) (hit : s.heap.IsListIter I l i) (hl : s.heap.IsList l items) (hx : items[i]? = none)
    (hE : ∀ h' e, Heap.ExtBut I s.heap h' → (∃ o, h'.get? I = some o ∧ Sth o) → (∃ o, h'.get? e = some o ∧ o.cls = .type "StopIteration") → E (.ref e) { s with heap := h' }) : wpAny (Md B) A (Builtin.SmallTypes.nextOf (.ref I)) Q E s := by
  obtain ⟨o, ho, hc, hd⟩ := id hit
  obtain ⟨ol, hol, _, nl, hdl⟩ := hl
  unfold Builtin.SmallTypes.nextOf
  refine wpAny_bind (wpAny_callSpecial?_slot (name := Str.ofString "__next__") hit.typeIs slot_listiter_next (wpAny_call_entry slot_listiter_next hit.typeIs entry_listiter_next ?_ (args_listiter_next _)))
  show wpAny _ _ (field (.ref I) 0 >>= _) _ _ s
  refine wpAny_bind (wpAny_field ho hd (x := .ref l) rfl ?_)
  show wpAny _ _ (if (Value.ref l == Value.none) = true then _ else _) _ _ s
  rw [if_neg (show ¬ ((Value.ref l == Value.none) = true) from Bool.false_ne_true)]
  show wpAny _ _ (field (.ref I) 1 >>= _) _ _ s
  refine wpAny_bind (wpAny_field ho hd (x := .int i 0) rfl ?_)
  show wpAny _ _ (seqItems? (.ref l) >>= _) _ _ s
  refine wpAny_bind (wpAny_seqItems hol hdl ?_)
  simp only [Int.toNat_natCast, hx]
  refine wpAny_bind (wpAny_rule (wpAny_bind (wpAny_setField ho hd (by simp) ?_)))
  refine stop_raise hh fun h₉ e₉ k₉ q₉ => ?_
  refine hE _ _ (fun b o hb e => k₉ b o ((Heap.SameBut.update ..).extBut b o hb e)) ⟨Obj.mapFields (·.setIfInBounds 0 .none) o, k₉ _ _ (Heap.get?_update_self _ ho ?_), ?_, ?_⟩ q₉
  · obtain ⟨oc, od, odat, osl⟩ := o; cases hd; rfl
  · obtain ⟨oc, od, odat, osl⟩ := o; cases hd; exact NT.cls hc (by decide) (by decide)
  · obtain ⟨oc, od, odat, osl⟩ := o; cases hd; exact fun v e => by cases e

structure MapAt (s : Shared) (m TI I : Addr) (f : Value) : Prop where
  o : s.heap.get? m = some { cls := .type "map", data := .fields #[.ref TI, f] }
  t : s.heap.get? TI = some { cls := .type "tuple", data := .seq #[.ref I] }

theorem map_item {m TI I l : Addr} {k : Nat} {xs : List V} {d f : V} {vf : Value} {Q : V → Sto → Prop} (R : Room A N) (O : OkS B s σ) (M : MapAt s m TI I vf) (rf : Rep s.heap f vf) (hI : σ I = some (.iter l k)) (hl : σ l = some (.list xs)) (hd : xs[k]? = some d) (hIl : l ≠ I)
    (hmI : m ≠ I) (hTI : TI ≠ I)
    (w : WC B N f [d] [] (σ.set I (.iter l (k + 1))) Q) :
    wpAny (Md B) A (Builtin.«map.__next__» ⟨[.ref m], []⟩) (fun fin s' => ∃ v, fin = .done (.ret v) ∧ PC B s σ Q v s') NoE s := by
  unfold Builtin.«map.__next__»
  refine wpAny_bind (wpAny_of_eq (a := (Value.ref m, [])) rfl ?_)
  dsimp only
  refine wpAny_bind (wpAny_field M.o rfl (x := .ref TI) rfl ?_)
  refine wpAny_bind (wpAny_seqItems M.t rfl ?_)
  dsimp only
  have iit : s.heap.IsListIter I l k := O.cell I _ hI
  obtain ⟨vs, pl, rl⟩ := O.cell l _ hl
  obtain ⟨u, hu, ru⟩ := rl.get hd
  have e : ∀ (g : Value → Array Value → Sem (ForInStep (Array Value))), (forIn (#[Value.ref I] : Array Value) (#[] : Array Value) g : Sem (Array Value)) = forIn [Value.ref I] #[] g := fun g => by simp
  rw [e]
  refine wpAny_bind ?_
  rw [List.forIn_cons]
  refine wpAny_bind (wpAny_bind (wpAny_holding (wpAny_nextOf_list_item iit pl.isList (by simpa using hu) fun h' hit' hs' => wpAny_pure ?_)))
  dsimp only
  rw [List.forIn_nil]
  refine wpAny_pure ?_
  have P₁ : PostS B s σ { s with heap := h' } (σ.set I (.iter l (k + 1))) := PostS.upd (tk := s.toks) O hs'.extBut hI hit' id
  have Mn := P₁.mono O
  refine wpAny_bind (wpAny_field (hs'.extBut m _ hmI M.o) rfl (x := vf) rfl ?_)
  refine wpAny_bind (wpAny_holding (wpAny_mono (w A { s with heap := h' } vf [u] [] R P₁.o (rf.mono Mn) (RepL.one (ru.mono Mn)) rfl) (fun v s' hp => hp.k fun d' σ' P₂ r₂ q => ?_) fun _ _ f => f))
  refine wpAny_bind (wpAny_letGo (wpAny_pure ⟨v, rfl, d', σ', P₁.trans P₂, r₂, q⟩))
theorem pyNext_map {m TI I l : Addr} {k : Nat} {xs : List V} {d f : V} {vf : Value} {Q : V → Sto → Prop} (R : Room A (N + 1)) (O : OkS B s σ) (M : MapAt s m TI I vf) (rf : Rep s.heap f vf) (hI : σ I = some (.iter l k)) (hl : σ l = some (.list xs)) (hd : xs[k]? = some d) (hIl : l ≠ I)
    (hmI : m ≠ I) (hTI : TI ≠ I) (w : WC B N f [d] [] (σ.set I (.iter l (k + 1))) Q) :
    wpAny (Md B) A (pyNext (.ref m)) (fun r s' => ∃ v, r = some v ∧ PC B s σ Q v s') NoE s := by
  have hT : s.TypeIs (.ref m) "map" := ⟨_, M.o, rfl⟩
  unfold pyNext
  refine wpAny_bind (wpAny_attempt (wpAny_callSpecial?_slot (name := Str.ofString "__next__") hT map_next (wpAny_call_entry map_next hT map_entry_next ?_ (map_args_next _))))
  refine wpAny_mono (map_item R.in1 O M rf hI hl hd hIl hmI hTI w) (fun fin s' ⟨v, hf, h⟩ => ⟨v, hf, wpAny_pure ⟨v, rfl, h⟩⟩) fun _ _ f => f.elim
theorem pyNext_map_end {m TI I l : Addr} {k : Nat} {xs : List V} {vf : Value} {Q : Option Value → Shared → Prop} {E : Value → Shared → Prop} (hh : A.handled = none) (O : OkS B s σ) (M : MapAt s m TI I vf) (hI : σ I = some (.iter l k)) (hl : σ l = some (.list xs)) (hd : xs[k]? = none)
    (h : ∀ s', PostS B s σ s' (σ.set I .junk) → Q none s') : wpAny (Md B) A (pyNext (.ref m)) Q E s := by
  have hT : s.TypeIs (.ref m) "map" := ⟨_, M.o, rfl⟩
  have iit : s.heap.IsListIter I l k := O.cell I _ hI
  obtain ⟨vs, pl, rl⟩ := O.cell l _ hl
  have hd' : (List.toArray vs)[k]? = none := by
    rw [List.getElem?_toArray, List.getElem?_eq_none_iff, rl.length]
    exact List.getElem?_eq_none_iff.mp hd
  unfold pyNext
  refine wpAny_bind (wpAny_attempt (wpAny_callSpecial?_slot (name := Str.ofString "__next__") hT map_next (wpAny_call_entry map_next hT map_entry_next ?_ (map_args_next _))))
  unfold Builtin.«map.__next__»
  refine wpAny_bind (wpAny_of_eq (a := (Value.ref m, [])) rfl ?_)
  dsimp only
  refine wpAny_bind (wpAny_field M.o rfl (x := .ref TI) rfl ?_)
  refine wpAny_bind (wpAny_seqItems M.t rfl ?_)
  dsimp only
  have e : ∀ (g : Value → Array Value → Sem (ForInStep (Array Value))), (forIn (#[Value.ref I] : Array Value) (#[] : Array Value) g : Sem (Array Value)) = forIn [Value.ref I] #[] g := fun g => by simp
  rw [e]
  refine wpAny_bind ?_
  rw [List.forIn_cons]
  refine wpAny_bind (wpAny_bind (wpAny_holding (nextOf_end hh iit pl.isList hd' fun h' x hs' hI' hx => ?_)))
  obtain ⟨o, ho, hc⟩ := hx
  refine wpAny_bind (wpAny_isInstance (T := "StopIteration") (b := true) ⟨o, ho, hc⟩ isSubtype_stop ?_)
  exact wpAny_pure (h _ (PostS.upd (tk := s.toks) O hs' hI hI' id))

theorem MapAt.keep {s' : Shared} {σ' : Sto} {m TI I : Addr} {vf : Value} (M : MapAt s m TI I vf) (P : PostS B s σ s' σ') (h1 : σ m = none) (h2 : σ TI = none) : MapAt s' m TI I vf ∧ σ' m = none ∧ σ' TI = none :=
  ⟨⟨(P.x.keep m _ id h1 M.o).2, (P.x.keep TI _ id h2 M.t).2⟩, (P.x.keep m _ id h1 M.o).1, (P.x.keep TI _ id h2 M.t).1⟩
theorem Sto.set_set (σ : Sto) (a : Addr) (c c' : Cell) : (σ.set a c).set a c' = σ.set a c' := by funext b; unfold Sto.set; split <;> rfl
theorem Sto.set_comm (σ : Sto) {a b : Addr} (c c' : Cell) (h : a ≠ b) : (σ.set a c).set b c' = (σ.set b c').set a c := by
  funext x; unfold Sto.set
  by_cases h1 : x = b
  · subst h1; simp [Ne.symm h]
  · simp [h1]
theorem extend_map {m TI I l S fn : Addr} {xs : List V} {g : V → V} {res : Value} {R : Result → Shared → Prop} (RA : Room A (N + 2)) (hmI : m ≠ I) (hTI : TI ≠ I) (hIl : l ≠ I) (hSI : S ≠ I) (hSl : S ≠ l) (hn : xs.length ≤ 1000)
    (hw : ∀ (i : Nat) (d : V) (σ : Sto), xs[i]? = some d → WC B N (.ref fn) [d] [] σ (fun r σ' => r = g d ∧ σ' = σ)) :
    ∀ (k i : Nat) (s : Shared) (σ : Sto) (out : List V), xs.length - i = k → i ≤ xs.length → out.length = i → OkS B s σ → MapAt s m TI I (.ref fn) → σ m = none → σ TI = none → σ I = some (.iter l i) → σ l = some (.list xs) → σ S = some (.list out) →
      (∀ s', PostS B s σ s' ((σ.set I .junk).set S (.list (out ++ (xs.drop i).map g))) → R (.ok (.ret res)) s') → codeAny (Md B) A (.builtin "list.extend.loop" ⟨[.ref S, .ref m, res], []⟩) R s := by
  intro k
  induction k with
  | zero =>
    intro i s σ out hk hi hlen O M h1 h2 hI hl hS hR
    have hin : i = xs.length := by lia
    subst hin
    refine codeAny_builtin PySem.F.entry_extend_loop ?_
    rw [Around.under_plainId PySem.F.plain_extend_loop _]
    show wpAny _ A.in1 (pyNext (.ref m) >>= _) _ _ s
    refine wpAny_bind (pyNext_map_end RA.1 O M hI hl (List.getElem?_eq_none (Nat.le_refl _)) fun s' P => ?_)
    refine wpAny_pure (hR s' ?_)
    have e : (σ.set I .junk).set S (.list (out ++ (xs.drop xs.length).map g)) = σ.set I .junk := by
      funext b
      by_cases q : b = S
      · subst q; rw [Sto.set_self, Sto.set_ne _ _ hSI, hS]; simp
      · rw [Sto.set_ne _ _ q]
    rw [e]; exact P
  | succ k ih =>
    intro i s σ out hk hi hlen O M h1 h2 hI hl hS hR
    have hlt : i < xs.length := by lia
    have hd : xs[i]? = some xs[i] := List.getElem?_eq_getElem hlt
    refine codeAny_builtin PySem.F.entry_extend_loop ?_
    rw [Around.under_plainId PySem.F.plain_extend_loop _]
    show wpAny _ A.in1 (pyNext (.ref m) >>= _) _ _ s
    refine wpAny_bind (wpAny_mono (pyNext_map (N := N) (RA.in1.mono (by lia)) O M (f := .ref fn) rfl hI hl hd hIl hmI hTI (hw i _ _ hd)) (fun r s₁ ⟨v, hv, d', σ₁, P₁, r₁, hd', hσ⟩ => ?_) fun _ _ f => f.elim)
    subst hv hd' hσ
    have hS₁ : (σ.set I (.iter l (i + 1))) S = some (.list out) := by rw [Sto.set_ne _ _ hSI]; exact hS
    obtain ⟨vs, ⟨nn, ho⟩, rl⟩ := P₁.o.cell S _ hS₁
    have hvl := rl.length
    show wpAny _ A.in1 (updateSeq S (·.push v) >>= _) _ _ _
    refine wpAny_bind ?_
    have := sizeLine_eq
    refine wpAny_updateSeq ho rfl (wpAny_pure ⟨plainId_quiet PySem.F.plain_extend_loop _, ?_⟩) (by rw [List.size_toArray]; lia) (by show ((List.toArray vs).push v).size ≤ sizeLine + 1; rw [Array.size_push, List.size_toArray]; lia)
    have hsb : Heap.ExtBut S s₁.heap (s₁.heap.update S (Obj.mapSeq (·.push v))) := (Heap.SameBut.update ..).extBut
    have M₁ : Mono s₁.heap (s₁.heap.update S (Obj.mapSeq (·.push v))) := fun b o hi' e => hsb b o (by rintro rfl; exact P₁.o.nt hS₁ e hi') e
    have pl' : (s₁.heap.update S (Obj.mapSeq (·.push v))).PlainList S (List.toArray (vs ++ [v])) := by
      refine ⟨nn + 1, ?_⟩
      rw [Heap.get?_update_self _ ho (by rw [Obj.mapSeq_push_plain]; rfl), Obj.mapSeq_push_plain]
      simp
    have P₂ : PostS B s₁ (σ.set I (.iter l (i + 1))) { s₁ with heap := s₁.heap.update S (Obj.mapSeq (·.push v)) } ((σ.set I (.iter l (i + 1))).set S (.list (out ++ [g xs[i]]))) :=
      PostS.upd (tk := s₁.toks) P₁.o hsb hS₁ ⟨vs ++ [v], pl', (rl.mono M₁).append (RepL.one (r₁.mono M₁))⟩ id
    have P₁₂ := P₁.trans P₂
    obtain ⟨M', m1, m2⟩ := M.keep P₁₂ h1 h2
    refine ih (i + 1) _ _ (out ++ [g xs[i]]) (by lia) hlt (by simp [hlen]) P₁₂.o M' m1 m2 (by rw [Sto.set_ne _ _ (Ne.symm hSI), Sto.set_self]) (by rw [Sto.set_ne _ _ (Ne.symm hSl), Sto.set_ne _ _ hIl]; exact hl) (Sto.set_self _ _ _) fun s' P => hR s' ?_
    have e : ((((σ.set I (.iter l (i + 1))).set S (.list (out ++ [g xs[i]]))).set I .junk).set S (.list (out ++ [g xs[i]] ++ (xs.drop (i + 1)).map g))) = (σ.set I .junk).set S (.list (out ++ (xs.drop i).map g)) := by
      have el : out ++ [g xs[i]] ++ (xs.drop (i + 1)).map g = out ++ (xs.drop i).map g := by rw [List.drop_eq_getElem_cons hlt, List.append_assoc]; rfl
      rw [el]
      funext x
      by_cases q : x = S
      · subst q; rw [Sto.set_self, Sto.set_self]
      · rw [Sto.set_ne _ _ q, Sto.set_ne _ _ q]
        by_cases q2 : x = I
        · subst q2; rw [Sto.set_self, Sto.set_self]
        · rw [Sto.set_ne _ _ q2, Sto.set_ne _ _ q2, Sto.set_ne _ _ q, Sto.set_ne _ _ q2]
    rw [← e]
    exact P₁₂.trans P

theorem collect_map {m TI I l fn : Addr} {xs : List V} {g : V → V} {Q : List Value → Shared → Prop} {E : Value → Shared → Prop} (RA : Room A (N + 3)) (O : OkS B s σ) (M : MapAt s m TI I (.ref fn)) (h1 : σ m = none) (h2 : σ TI = none) (hI : σ I = some (.iter l 0)) (hl : σ l = some (.list xs)) (hmI : m ≠ I) (hTI : TI ≠ I) (hIl : l ≠ I) (hn : xs.length ≤ 1000)
    (hw : ∀ (i : Nat) (d : V) (σ : Sto), xs[i]? = some d → WC B N (.ref fn) [d] [] σ (fun r σ' => r = g d ∧ σ' = σ))
    (h : ∀ s' S vs, σ S = none → PostS B s σ s' ((σ.set I .junk).set S (.list (xs.map g))) → RepL s'.heap (xs.map g) vs → vs.length = xs.length → Q vs s') : wpAny (Md B) A (collect (.ref m)) Q E s := by
  have hT : s.TypeIs (.ref m) "map" := ⟨_, M.o, rfl⟩
  unfold collect
  refine wpAny_bind (wpAny_runValue (codeAny_builtin PySem.F.entry_proto_collect ?_))
  rw [Around.under_plainId PySem.F.plain_proto_collect _]
  show wpAny _ A.in1 (newList [] >>= fun l => again (.builtin "list.__iadd__" ⟨[l, .ref m], []⟩)) _ _ s
  refine wpAny_bind (wpAny_newObj_type ?_)
  refine wpAny_pure ⟨plainId_quiet PySem.F.plain_list_iadd _, codeAny_builtin PySem.F.entry_list_iadd ?_⟩
  rw [Around.under_plainId PySem.F.plain_list_iadd _]
  have P₁ : PostS B s σ { s with heap := s.heap.push { cls := .type "list", data := .seq ([] : List Value).toArray } } (σ.set s.heap.objs.size (.list [])) := PostS.new (tk := s.toks) O (cell_list_new (vs := []) rfl) id
  have hSn := new_none s.heap
  have hσS : σ s.heap.objs.size = none := O.free
  have hIS : I ≠ s.heap.objs.size := fun q => by rw [q, hσS] at hI; cases hI
  have hlS : l ≠ s.heap.objs.size := fun q => by rw [q, hσS] at hl; cases hl
  have hmS : m ≠ s.heap.objs.size := fun q => by have := M.o; rw [q, hSn] at this; cases this
  have hTS : TI ≠ s.heap.objs.size := fun q => by have := M.t; rw [q, hSn] at this; cases this
  have hS₁ : (s.heap.push { cls := .type "list", data := .seq ([] : List Value).toArray }).get? s.heap.objs.size = some { cls := .type "list", data := .seq ([] : List Value).toArray } := Heap.get?_push_size _ rfl
  obtain ⟨M₁, _, _⟩ := M.keep P₁ h1 h2
  generalize s.heap.objs.size = S at *
  generalize hs₁ : ({ s with heap := s.heap.push { cls := .type "list", data := .seq ([] : List Value).toArray } } : Shared) = s₁ at *
  have hT₁ : s₁.TypeIs (.ref m) "map" := ⟨_, M₁.o, rfl⟩
  replace hS₁ : s₁.heap.get? S = some { cls := .type "list", data := .seq ([] : List Value).toArray } := by rw [← hs₁]; exact hS₁
  show wpAny _ A.in1 (Builtin.List.listExtendWith (.ref S) (.ref m) (.ref S)) _ _ _
  unfold Builtin.List.listExtendWith
  refine wpAny_bind (wpAny_typeOf hT₁ ?_)
  have q1 : Builtin.List.listSameRef (.ref S) (.ref m) = false := by simp [Builtin.List.listSameRef, Ne.symm hmS]
  have q2 : (Value.type "map" == Value.type "list") = false := by decide
  have q3 : (Value.type "map" == Value.type "tuple") = false := by decide
  simp only [q1, q2, q3, Bool.or_false, Bool.false_eq_true, if_false]
  have hiter : ∀ {Q : Value → Shared → Prop} {E : Value → Shared → Prop}, Q (.ref m) s₁ → wpAny (Md B) A.in1 (pyIter (.ref m)) Q E s₁ := fun hq => by
    refine wpAny_pyIter_slot hT₁ map_iter (wpAny_call_entry map_iter hT₁ map_entry_iter ?_ (map_args_iter _))
    show wpAny _ _ (ret (.ref m)) _ _ s₁
    exact wpAny_pure ⟨_, rfl, "map", _, hT₁, map_next.lookup, hq⟩
  refine wpAny_bind (hiter ?_)
  refine wpAny_bind (wpAny_holding ?_)
  unfold Builtin.List.listLengthHint
  refine wpAny_bind (wpAny_specialOf hT₁ map_no_len ?_)
  show wpAny _ A.in1 (specialOf (Value.ref m) (Str.ofString "__length_hint__") >>= _) _ _ _
  refine wpAny_bind (wpAny_specialOf hT₁ map_no_hint ?_)
  refine wpAny_pure ?_
  show wpAny _ A.in1 (rule "list.extend.makes-room" >>= fun _ => Builtin.List.listTouch (.ref S) >>= fun _ => again (.builtin "list.extend.loop" ⟨[.ref S, .ref m, .ref S], []⟩)) _ _ _
  refine wpAny_bind (wpAny_rule ?_)
  refine wpAny_bind ?_
  show wpAny _ A.in1 (updateSeq S (·.push .none) >>= fun _ => updateSeq S (·.pop)) _ _ _
  refine wpAny_bind (wpAny_updateSeq hS₁ rfl ?_)
  have hS₂ := Heap.get?_update_self (Obj.mapSeq (·.push Value.none)) hS₁ rfl
  refine wpAny_updateSeq hS₂ rfl ?_
  have hS₃ := Heap.get?_update_self (Obj.mapSeq (·.pop)) hS₂ rfl
  have oth : Heap.ExtBut S s₁.heap ((s₁.heap.update S (Obj.mapSeq (·.push Value.none))).update S (Obj.mapSeq (·.pop))) := fun b o hb e => (Heap.get?_update_other _ _ (Ne.symm hb)).trans ((Heap.get?_update_other _ _ (Ne.symm hb)).trans e)
  generalize ((s₁.heap.update S (Obj.mapSeq (·.push Value.none))).update S (Obj.mapSeq (·.pop))) = h₃ at *
  have P₃ : PostS B s₁ (σ.set S (.list [])) { s₁ with heap := h₃ } ((σ.set S (.list [])).set S (.list [])) := PostS.upd (tk := s₁.toks) P₁.o oth (Sto.set_self _ _ _) ⟨[], ⟨_, hS₃⟩, rfl⟩ id
  rw [Sto.set_set] at P₃
  have P₁₃ := P₁.trans P₃
  obtain ⟨M₃, m1, m2⟩ := M.keep P₁₃ h1 h2
  refine wpAny_pure ⟨plainId_quiet PySem.F.plain_extend_loop _, extend_map (N := N) (Room.mono RA (by lia)) hmI hTI hIl (Ne.symm hIS) (Ne.symm hlS) hn hw xs.length 0 _ _ [] (Nat.sub_zero _) (Nat.zero_le _) rfl P₁₃.o M₃ m1 m2 (by rw [Sto.set_ne _ _ hIS]; exact hI) (by rw [Sto.set_ne _ _ hlS]; exact hl) (Sto.set_self _ _ _) fun s' P => ?_⟩
  have e : ((σ.set S (.list [])).set I .junk).set S (.list ([] ++ (xs.drop 0).map g)) = (σ.set I .junk).set S (.list (xs.map g)) := by
    funext x
    by_cases q : x = S
    · subst q; rw [Sto.set_self, Sto.set_self]; simp
    · rw [Sto.set_ne _ _ q, Sto.set_ne _ _ q]
      by_cases q2 : x = I
      · subst q2; rw [Sto.set_self, Sto.set_self]
      · rw [Sto.set_ne _ _ q2, Sto.set_ne _ _ q2, Sto.set_ne _ _ q]
  rw [e] at P
  have PP := P₁₃.trans P
  obtain ⟨vs, ⟨nn, ho⟩, rl⟩ := PP.o.cell S _ (Sto.set_self _ _ _)
  show wpAny _ A (load S >>= _) _ _ s'
  refine wpAny_bind (wpAny_load ho ?_)
  refine wpAny_pure (h s' S vs hσS PP rl (by rw [rl.length, List.length_map]))
/-- tuple(map(f, l)) -/
theorem tuple_map {m TI I l fn : Addr} {xs : List V} {g : V → V} {Q : V → Sto → Prop} (RA : Room A (N + 4)) (O : OkS B s σ) (M : MapAt s m TI I (.ref fn)) (h1 : σ m = none) (h2 : σ TI = none) (hI : σ I = some (.iter l 0)) (hl : σ l = some (.list xs)) (hmI : m ≠ I) (hTI : TI ≠ I) (hIl : l ≠ I) (hn : xs.length ≤ 1000)
    (hw : ∀ (i : Nat) (d : V) (σ : Sto), xs[i]? = some d → WC B N (.ref fn) [d] [] σ (fun r σ' => r = g d ∧ σ' = σ))
    (h : ∀ S, σ S = none → Q (.tup (xs.map g)) ((σ.set I .junk).set S (.list (xs.map g)))) :
    wpAny (Md B) A (call (.type "tuple") [.ref m]) (PC B s σ Q) NoE s := by
  have hT : s.TypeIs (.ref m) "map" := ⟨_, M.o, rfl⟩
  have R3 : Room A.in1.in1 (N + 3) := Room.sub RA rfl rfl (by show A.units + 1 + 1 ≤ _; lia)
  refine callType_codes (Q₁ := fun obj s₁ => s₁.TypeIs obj "tuple" ∧ PC B s σ Q obj s₁) PySem.F.called_tuple (PySem.F.typeCall_tuple_1 _) PySem.F.entry_object_init ?_ fun obj s₁ h₁ => ?_
  · refine codeAny_of_tree ?_
    show wpAny _ A.in1.in1 (do checkBuiltinCall "tuple.__new__" ⟨[.type "tuple", .ref m], []⟩; again (.builtin "tuple.__new__" ⟨[.type "tuple", .ref m], []⟩)) _ _ s
    refine wpAny_bind (wpAny_of_eq (PySem.F.newCall_tuple_1 _) (wpAny_pure ⟨plainId_quiet PySem.F.plain_tuple_new _, codeAny_builtin PySem.F.entry_tuple_new ?_⟩))
    rw [Around.under_plainId PySem.F.plain_tuple_new _]
    have hsub := sub_tuple_self
    have hinit := init_tuple_lookup
    have hmh := madeHere_tuple
    wp_walk using wpAny_typeOf hT, collect_map (N := N) R3 O M h1 h2 hI hl hmI hTI hIl hn hw
    intro s' S vs hS P rl hlen
    show wpAny _ _ (Builtin.Tuple.tupleExact vs.toArray >>= fun v => ret v) _ _ _
    unfold Builtin.Tuple.tupleExact
    refine wpAny_bind (wpAny_newObj_type ?_ (by show vs.toArray.size ≤ sizeLine; rw [List.size_toArray, hlen, sizeLine_eq]; lia))
    refine wpAny_pure ⟨⟨_, Heap.get?_push_size _ rfl, rfl⟩, .tup (xs.map g), _, P.trans (PostS.push (tk := s'.toks) P.o id), rep_tup_new rl, h S hS⟩
  · exact ⟨h₁.1, PySem.F.args_object_init_2 obj _, object_init_meets PySem.F.called_tuple.init.lookup PySem.F.called_tuple.made (by decide) B.prog B.w A.in1 _ s₁ ⟨h₁.1, rfl, h₁.2⟩⟩
end
end

section
open PySem.SeqAt
open Builtin.Str
set_option maxRecDepth 100000
section
variable {B : Bs} {sc : Sc} {N : Nat} {ρ : Loc} {σ : Sto} {F : Frm} {A : Around} {s : Shared}
theorem WE.tupMap {T Mp : Expr} {args : List Expr} {p1 p2 : Pos} {Q : V → Sto → Prop}
    (h : WE B sc (N + 4) T ρ σ fun fd σ₀ => fd = .ty "tuple" ∧ WE B sc (N + 4) Mp ρ σ₀ fun fd' σ₁ => fd' = .ty "map" ∧ WL B sc (N + 4) args ρ σ₁ fun ds σ₂ => ∃ fn l xs g, ds = [.ref fn, .ref l] ∧ σ₂ l = some (.list xs) ∧ xs.length ≤ 1000 ∧
      (∀ (i : Nat) (d : V) (σ : Sto), xs[i]? = some d → WC B N (.ref fn) [d] [] σ (fun r σ' => r = g d ∧ σ' = σ)) ∧ (∀ I S, σ₂ I = Option.none → σ₂ S = Option.none → I ≠ S → Q (.tup (xs.map g)) ((σ₂.set I .junk).set S (.list (xs.map g)))))
    (he : ∀ env, eval (.Call T [.Call Mp args [] p1] [] p2) env = (do callWith p2 (← eval T env) [] (backTo p2 (starEach [.Call Mp args [] p1] env)) (backToKw p2 (keywordEach [] env))))
    (he' : ∀ env, eval (.Call Mp args [] p1) env = (do callWith p1 (← eval Mp env) [] (backTo p1 (starEach args env)) (backToKw p1 (keywordEach [] env))))
    (hst : ∀ env, starEach [.Call Mp args [] p1] env = [(false, eval (.Call Mp args [] p1) env)])
    (hstar : ∀ env, (starEach args env).any (·.1) = false) : WE B sc (N + 4) (.Call T [.Call Mp args [] p1] [] p2) ρ σ Q := .mk fun A F s R X O => by
  rw [he]
  refine wpAny_bind (wpAny_mono (h.run A F s R X O) (fun vf s₁ hp => hp.k fun fd σ₁ P₁ rf qa => u2 qa fun hfd h₁ => ?_) fun _ _ f => f)
  clear qa
  subst hfd
  cases rf
  refine callWith_of (P := fun _ => True) (by rw [hst]; rfl) (fun h' _ => ⟨.machine, .inr (.inl rfl), Looks.of_pure rfl⟩) ?_
  refine evalArgs_all (by rw [hst]; rfl) rfl ?_
  refine wpAny_items_cons ?_ (by rw [hst]; rfl)
  rw [he']
  refine wpAny_bind (wpAny_mono (h₁.run A F s₁ R X P₁.o) (fun vm s₂ hp => hp.k fun fd σ₂ P₂ rm qa => u2 qa fun hfd h₂ => ?_) fun _ _ f => f)
  clear qa
  subst hfd
  cases rm
  refine callWith_of (P := fun _ => True) (by rw [noStar_back (hstar _), noNone rfl]; rfl) (fun h' _ => ⟨.machine, .inr (.inl rfl), Looks.of_pure rfl⟩) ?_
  refine evalArgs_all (noStar_back (hstar _)) rfl (wpAny_mono (h₂.run A F p1 s₂ R X P₂.o) (fun vs s₃ hp => hp.k fun ds σ₃ P₃ r₃ qa => x4 qa fun fn l xs g qb => u5 qb fun hds hl hn hw hQ => ?_) fun _ _ f => f)
  clear qa qb
  refine wpAny_evalAll_nil ⟨trivial, ?_⟩
  subst hds
  obtain ⟨v1, q1, rfl, g1, v2, q2, rfl, g2, g3⟩ := r₃
  cases g1; cases g2; cases g3
  have O₃ := P₃.o.s
  obtain ⟨ws, pl, rl⟩ := O₃.cell l _ hl
  refine callType_new map_called (by decide) (map_typeCall _ _) (map_newCall _ _) (fun obj => PySem.F.args_object_init_3 obj _ _) map_entry_new (map_new (.ref fn) l (List.toArray ws)) ⟨pl.isList, fun h1 h2 h3 e1 e2 e3 => ?_⟩
  generalize hI : s₃.heap.objs.size = I at e1 e2
  have z1 : h1.objs.size = I + 1 := by rw [e1, Heap.size_push, hI]
  have z2 : h2.objs.size = I + 2 := by rw [e2, Heap.size_push, z1]
  have g1 : h1.get? I = some { cls := .type "list_iterator", data := .fields #[.ref l, .int 0 0] } := by rw [e1, ← hI]; exact Heap.get?_push_size _ rfl
  have k1 : ∀ b o, s₃.heap.get? b = some o → h1.get? b = some o := fun b o e => by rw [e1]; exact Heap.get?_push_of_some _ e
  have g2 : h2.get? (I + 1) = some { cls := .type "tuple", data := .seq #[.ref I] } := by rw [e2, ← z1]; exact Heap.get?_push_size _ rfl
  have k2 : ∀ b o, h1.get? b = some o → h2.get? b = some o := fun b o e => by rw [e2]; exact Heap.get?_push_of_some _ e
  have g3 : h3.get? (I + 2) = some { cls := .type "map", data := .fields #[.ref (I + 1), .ref fn] } := by rw [e3, ← z2, z1]; exact Heap.get?_push_size _ rfl
  have k3 : ∀ b o, h2.get? b = some o → h3.get? b = some o := fun b o e => by rw [e3]; exact Heap.get?_push_of_some _ e
  rw [z2]
  clear e1 e2 e3
  refine ⟨⟨_, g3, rfl⟩, ?_⟩
  have nI : ∀ b, I ≤ b → s₃.heap.get? b = Option.none := fun b hb => by
    cases q : s₃.heap.get? b with
    | none => rfl
    | some o => exact absurd (Heap.lt_size q) (by rw [hI]; exact Nat.not_lt.mpr hb)
  have σI := O₃.none_of (nI I (Nat.le_refl _))
  have PS : PostS B s₃ σ₃ { s₃ with heap := h3 } (σ₃.set I (.iter l 0)) :=
    ⟨.new (tk := s₃.toks) (fun b o e => k3 b o (k2 b o (k1 b o e))) (nI I (Nat.le_refl _)), O₃.new (tk := s₃.toks) (fun b o e => k3 b o (k2 b o (k1 b o e))) (nI I (Nat.le_refl _)) (c := .iter l 0) ⟨_, k3 _ _ (k2 _ _ g1), rfl, rfl⟩ id⟩
  have P₄ := (P₁.trans (P₂.trans P₃)).trans (PS.frame X P₃.o)
  refine wpAny_items_nil (wpAny_evalAll_nil ⟨trivial, ?_⟩)
  have lI : l ≠ I := fun q => by rw [q, σI] at hl; cases hl
  have ne1 : I + 2 ≠ I := by lia
  have ne2 : I + 1 ≠ I := by lia
  have s1 : (σ₃.set I (.iter l 0)) (I + 2) = Option.none := by rw [Sto.set_ne _ _ ne1]; exact O₃.none_of (nI _ (Nat.le_add_right _ _))
  have s2 : (σ₃.set I (.iter l 0)) (I + 1) = Option.none := by rw [Sto.set_ne _ _ ne2]; exact O₃.none_of (nI _ (Nat.le_add_right _ _))
  refine wpAny_mono (tuple_map (N := N) (A := A) (s := { s₃ with heap := h3 }) R PS.o ⟨g3, k3 _ _ g2⟩ s1 s2 (Sto.set_self _ _ _) (by rw [Sto.set_ne _ _ lI]; exact hl) ne1 ne2 lI hn hw (Q := Q) fun S hS => ?_) (fun v s₅ hp => hp.k fun d σ₅ P₅ r₅ q => ⟨d, σ₅, P₄.trans (P₅.frame X P₄.o), r₅, q⟩) fun _ _ f => f
  rw [Sto.set_set]
  have hSI : S ≠ I := fun q => by rw [q, Sto.set_self] at hS; cases hS
  exact hQ I S σI (by rw [Sto.set_ne _ _ hSI] at hS; exact hS) (Ne.symm hSI)
end
end

section
open PySem.SeqAt
open Builtin.Str
set_option maxRecDepth 100000
/-! ## the set of True -/
noncomputable def sT1 (led : Bool) : SetTable := { mask := 7, place := #[1], dummies := #[], finger := 0, led := led, moves := 0, plain := true }
noncomputable def setO (led : Bool) : Bool → Obj
  | false => { cls := .type "set", dict := none, data := .set #[] 0 (.fresh 0 0 led), slots := #[] }
  | true => { cls := .type "set", dict := none, data := .set #[(1, .bool true)] 1 (sT1 led), slots := #[] }
theorem setO.nt (led b : Bool) : NT (setO led b) := by cases b <;> exact NT.cls rfl (by decide) (by decide)
theorem lay1 (led : Bool) : layNew (SetTable.fresh 0 0 led) #[] 1 (.bool true) = (#[(1, .bool true)], sT1 led, false, false) := by cases led <;> rfl

section
variable {prog : Program} {w : World} {A : Around} {E : Value → Shared → Prop} {s : Shared}
theorem pyHash_true {Q : Int → Shared → Prop} (h : Q 1 { s with toks := s.toks + 1 }) : wpAny (model prog w) A (pyHash (.bool true)) Q E s := by
  have hT : s.TypeIs (.bool true) "bool" := PySem.typeIs_bool s true
  unfold pyHash
  show wpAny _ _ (pyHashByItsType (.bool true)) _ _ _
  unfold pyHashByItsType
  have hv : [Value.bool true].any Value.onHeap = false := rfl
  refine wpAny_bind ?_
  rw [cRoomFor, if_neg (by rw [hv]; exact Bool.false_ne_true)]; refine wpAny_pure ?_
  refine wpAny_bind (wpAny_specialOf hT PySem.F.slot_bool_hash.lookup ?_)
  show wpAny _ _ (if (some (Value.builtin "int.__hash__") == some Value.none) = true then _ else _) Q E s
  rw [if_neg (by rw [beq_builtin_none]; exact Bool.false_ne_true)]
  refine wpAny_bind (wpAny_specialOf hT PySem.F.slot_bool_hash.lookup ?_)
  show wpAny _ _ (callSpecialIfBoundUnlessNone? (.bool true) "__hash__" _ >>= _) Q E s
  refine wpAny_bind (wpAny_callSpecialIfBoundUnlessNone?_slot hT PySem.F.slot_bool_hash
    (wpAny_call_entry PySem.F.slot_bool_hash hT entry_int_hash
      (show wpAny _ _ (do ret (← mkInt 1)) _ _ s from wpAny_ret_mkInt ?_) (args_int_hash _)))
  exact wpAny_pure h

theorem newSet_ {Q : Value → Shared → Prop} (h : Q (.ref s.heap.objs.size) { s with heap := s.heap.push (setO (!w.params.followText "set-order") false) }) : wpAny (model prog w) A (newSet (.type "set")) Q E s := by
  unfold newSet setsByText
  refine wpAny_bind (wpAny_bind (wpAny_askSetting (wpAny_pure ?_)))
  dsimp only
  simp only [newObj]
  exact wpAny_bind (wpAny_alloc (wpAny_pure h))
theorem add_true {a : Addr} {led b : Bool} {Q : Value → Shared → Prop} (ho : s.heap.get? a = some (setO led b))
    (h : ∀ h', h'.get? a = some (setO led true) → Heap.SameBut a s.heap h' → Q .none { s with heap := h', toks := s.toks + 1 }) : wpAny (model prog w) A (call (.builtin "set.add") [.ref a, .bool true]) Q E s := by
  have hT : s.TypeIs (.ref a) "set" := ⟨_, ho, by cases b <;> rfl⟩
  refine wpAny_call_entry PySem.F.slot_set_add hT PySem.F.entry_set_add ?_ (PySem.F.args_set_add_2 _ _)
  unfold Builtin.«set.add» Builtin.Frozenset.oneOther
  simp only [List.isEmpty_nil, bind_assoc]
  unfold Builtin.Frozenset.addrOf setAdd
  refine wpAny_bind (wpAny_pure ?_)
  try dsimp only
  refine wpAny_bind (wpAny_pure ?_)
  try dsimp only
  refine wpAny_bind ?_
  refine wpAny_holding ?_
  refine wpAny_bind (pyHash_true ?_)
  unfold setAddHashed setAddHashedIn
  refine wpAny_holding ?_
  cases b with
  | false =>
    refine wpAny_bind (wpAny_setState_of (s := { s with toks := s.toks + 1 }) (o := setO led false) ho rfl rfl ?_)
    dsimp only
    have hb : byScan (.bool true) #[] = true := by decide +kernel
    rw [hb]
    simp only [↓reduceIte]
    unfold setAddByScan
    refine wpAny_bind ?_
    refine wpAny_bind (wpAny_rule ?_)
    show wpAny _ _ (setScanFrom a (.bool true) 1 true [] 0 >>= _) _ _ _
    unfold setScanFrom
    refine wpAny_bind (wpAny_pure ?_)
    dsimp only
    rw [lay1]
    dsimp only
    refine wpAny_bind (wpAny_of_eq (a := ()) rfl ?_)
    rw [if_pos (show (sT1 led).plain = true from rfl)]
    refine wpAny_bind (wpAny_of_eq (hashByValue_scannable 8 rfl) ?_)
    rw [if_pos (show plainKind (.bool true) = true from rfl)]
    refine wpAny_bind (wpAny_storeSet_of (s := { s with toks := s.toks + 1 }) (o := setO led false) ho rfl ?_ (by decide +kernel))
    rw [if_neg (by cases led <;> decide +kernel)]
    refine wpAny_pure ?_
    refine wpAny_pure ?_
    show wpAny _ _ (ret Value.none) _ _ _
    refine wpAny_pure ⟨_, rfl, h _ ?_ (Heap.SameBut.update ..)⟩
    have e : Obj.putSet #[(1, Value.bool true)] (sT1 led) (setO led false) = setO led true := rfl
    rw [← e]
    exact Heap.get?_update_self _ ho rfl
  | true =>
    refine wpAny_bind (wpAny_setState_of (s := { s with toks := s.toks + 1 }) (o := setO led true) ho rfl rfl ?_)
    dsimp only
    have hb : byScan (.bool true) #[(1, Value.bool true)] = true := by decide +kernel
    rw [hb]
    simp only [↓reduceIte]
    unfold setAddByScan
    refine wpAny_bind ?_
    refine wpAny_bind (wpAny_rule ?_)
    show wpAny _ _ (setScanFrom a (.bool true) 1 true [(1, .bool true)] 0 >>= _) _ _ _
    unfold setScanFrom
    refine wpAny_bind ?_
    rw [if_pos (by decide)]
    refine wpAny_bind (wpAny_setEpoch_of (s := { s with toks := s.toks + 1 }) (o := setO led true) ho rfl rfl ?_)
    refine wpAny_bind (EqAt.same (.bool true) prog w _ _ ?_)
    simp only [Bool.and_self, ↓reduceIte]
    refine wpAny_pure ?_
    dsimp only
    refine wpAny_pure (wpAny_pure ?_)
    show wpAny _ _ (ret Value.none) _ _ _
    exact wpAny_pure ⟨_, rfl, h s.heap ho (Heap.SameBut.refl a s.heap)⟩

/-! ## its iterator -/
theorem sit_owner : Manifest.owners.lookup (String.ofList ['r', 'o', 't', 'a', 'r', 'e', 't', 'i', '_', 't', 'e', 's'].reverse) = some Manifest.sig_set_iterator := by kernel_rfl
theorem sit_next : Slot "set_iterator" "__next__" "set_iterator.__next__" :=
  .of (owner := "set_iterator") (n := "__next__") (by rw [typeLookup_type, builtinLookup_eq_fast]; kernel_rfl) (by decide +kernel) (by decide +kernel) (by decide +kernel)
    (by first | exact .inl (by decide +kernel) | exact .inr (by decide +kernel)) (by rw [isSubtype_type]; kernel_rfl)
theorem sit_entry_next : entryFor table "set_iterator.__next__" = some Builtin.«set_iterator.__next__» := entryFor_of_tree (by kernel_rfl)
theorem sit_args_next (a : Value) : argsOk "set_iterator.__next__" ⟨[a], []⟩ := by
  unfold argsOk; rw [signature?_of (id := "set_iterator.__next__") (n := ['_', '_', 't', 'x', 'e', 'n', '_', '_']) (o := ['r', 'o', 't', 'a', 'r', 'e', 't', 'i', '_', 't', 'e', 's']) (by kernel_rfl) sit_owner]; kernel_rfl
theorem set_entry_iter : entryFor table "set.__iter__" = some Builtin.«frozenset.__iter__» :=
  entryFor_alias (id' := "frozenset.__iter__") (by kernel_rfl) (by first | rfl | decide +kernel | (unfold String.splitOn; simp +decide [String.splitOnAux])) (by decide +kernel) (by kernel_rfl)
noncomputable def sitObj (a : Addr) (i j : Nat) : Obj := { cls := .type "set_iterator", data := .fields #[rawInt i, rawInt j, .ref a, rawInt 1, rawInt 1] }
theorem setDrawn_ {a : Addr} {led : Bool} {Q : Bool → Shared → Prop} (ho : s.heap.get? a = some (setO led true)) (h : Q false s) : wpAny (model prog w) A (setDrawn a) Q E s := by
  unfold setDrawn
  refine wpAny_bind (wpAny_setState_of ho rfl rfl ?_)
  dsimp only
  unfold setsByText
  refine wpAny_bind (wpAny_bind (wpAny_askSetting (wpAny_pure ?_)))
  refine wpAny_of_eq (a := false) ?_ h
  show (pure (!w.params.followText "set-order" && _) : Sem Bool) = pure false
  cases w.params.followText "set-order" <;> rfl
theorem pyIter_set {a : Addr} {led : Bool} {Q : Value → Shared → Prop} (ho : s.heap.get? a = some (setO led true)) (h : Q (.ref s.heap.objs.size) { s with heap := s.heap.push (sitObj a 0 0) }) : wpAny (model prog w) A (pyIter (.ref a)) Q E s := by
  have hT : s.TypeIs (.ref a) "set" := ⟨_, ho, rfl⟩
  refine wpAny_pyIter_slot hT PySem.F.slot_set_iter (wpAny_call_entry PySem.F.slot_set_iter hT set_entry_iter ?_ (PySem.F.args_set_iter_1 _))
  unfold Builtin.«frozenset.__iter__»
  refine wpAny_bind (wpAny_of_eq (a := a) rfl ?_)
  refine wpAny_bind ?_
  unfold Builtin.Frozenset.sizeOf
  refine wpAny_bind (wpAny_setEntries_of ho rfl rfl (wpAny_pure ?_))
  refine wpAny_bind (setDrawn_ ho ?_)
  dsimp only
  rw [if_neg Bool.false_ne_true]
  refine wpAny_bind (wpAny_pure ?_)
  refine wpAny_bind (wpAny_setEpoch_of ho rfl rfl ?_)
  refine wpAny_bind (m := newFields _ _) (wpAny_newObj_type (wpAny_pure ⟨_, rfl, "set_iterator", _, ⟨_, Heap.get?_push_size _ rfl, rfl⟩, sit_next.lookup, h⟩))
theorem fieldsOf_sit {it a : Addr} {i j : Nat} {Q : Array Value → Shared → Prop} (hi : s.heap.get? it = some (sitObj a i j)) (h : Q #[rawInt i, rawInt j, .ref a, rawInt 1, rawInt 1] s) : wpAny (model prog w) A (fieldsOf (.ref it)) Q E s :=
  wpAny_fieldsOf hi rfl h
theorem setWalk_ {a : Addr} {led : Bool} {Q : Array (Int × Value) → Shared → Prop} (hb : w.params.followText "set-order" = true) (ho : s.heap.get? a = some (setO led true)) (h : Q #[(1, .bool true)] s) : wpAny (model prog w) A (setWalk a) Q E s := by
  unfold setWalk
  refine wpAny_bind (wpAny_setState_of ho rfl rfl ?_)
  dsimp only
  unfold setsByText
  refine wpAny_bind (wpAny_bind (wpAny_askSetting (wpAny_pure ?_)))
  show wpAny _ _ (if w.params.followText "set-order" = true then _ else _) _ _ _
  rw [if_pos hb]
  refine wpAny_bind (wpAny_askSetting (wpAny_pure ?_))
  have e : ∀ f : Nat → Nat, pickOrder f #[((1 : Int), Value.bool true)] = #[(1, .bool true)] := fun f => by
    unfold pickOrder
    show pickOrder.go f 1 0 [((1 : Int), Value.bool true)] #[] = _
    unfold pickOrder.go
    have : f 0 % [((1 : Int), Value.bool true)].length = 0 := by simp [Nat.mod_one]
    rw [this]
    rfl
  rw [e]; exact h
theorem setNext_first {a : Addr} {led : Bool} {Q : Option (Value × Nat) → Shared → Prop} (hled : led = !w.params.followText "set-order") (ho : s.heap.get? a = some (setO led true)) (h : Q (some (.bool true, if w.params.followText "set-order" = true then 0 else 2)) s) : wpAny (model prog w) A (setNext a 0 0 1) Q E s := by
  unfold setNext
  refine wpAny_bind (wpAny_setState_of ho rfl rfl ?_)
  dsimp only
  unfold setsByText
  refine wpAny_bind (wpAny_bind (wpAny_askSetting (wpAny_pure ?_)))
  show wpAny _ _ (if w.params.followText "set-order" = true then _ else _) _ _ _
  by_cases hb : w.params.followText "set-order" = true
  · rw [if_pos hb]
    rw [if_pos hb] at h
    rw [if_neg (by decide)]
    exact wpAny_bind (setWalk_ hb ho (wpAny_pure h))
  · rw [if_neg hb]
    rw [if_neg hb] at h
    have hl : led = true := by rw [hled]; simpa using hb
    subst hl
    rw [if_neg (by decide +kernel)]
    refine wpAny_bind (wpAny_of_eq (a := ()) rfl ?_)
    exact wpAny_of_eq (a := some (.bool true, 2)) rfl h
theorem setNext_end {a : Addr} {led : Bool} {Q : Option (Value × Nat) → Shared → Prop} (hled : led = !w.params.followText "set-order") (ho : s.heap.get? a = some (setO led true)) (h : Q none s) : wpAny (model prog w) A (setNext a (if w.params.followText "set-order" = true then 0 else 2) 1 1) Q E s := by
  unfold setNext
  refine wpAny_bind (wpAny_setState_of ho rfl rfl ?_)
  dsimp only
  unfold setsByText
  refine wpAny_bind (wpAny_bind (wpAny_askSetting (wpAny_pure ?_)))
  show wpAny _ _ (if w.params.followText "set-order" = true then _ else _) _ _ _
  by_cases hb : w.params.followText "set-order" = true
  · rw [if_pos hb, if_pos hb]
    rw [if_neg (by decide)]
    exact wpAny_bind (setWalk_ hb ho (wpAny_pure h))
  · rw [if_neg hb, if_neg hb]
    have hl : led = true := by rw [hled]; simpa using hb
    subst hl
    rw [if_neg (by decide +kernel)]
    refine wpAny_bind (wpAny_of_eq (a := ()) rfl ?_)
    exact wpAny_of_eq (a := none) rfl h
theorem pyNext_set {a it : Addr} {led : Bool} {Q : Option Value → Shared → Prop} (hled : led = !w.params.followText "set-order") (hne : a ≠ it) (ho : s.heap.get? a = some (setO led true)) (hi : s.heap.get? it = some (sitObj a 0 0))
    (h : ∀ h', h'.get? it = some (sitObj a (if w.params.followText "set-order" = true then 0 else 2) 1) → Heap.ExtBut it s.heap h' → Q (some (.bool true)) { s with heap := h' }) : wpAny (model prog w) A (pyNext (.ref it)) Q E s := by
  have hT : s.TypeIs (.ref it) "set_iterator" := ⟨_, hi, rfl⟩
  unfold pyNext
  refine wpAny_bind (wpAny_attempt (wpAny_callSpecial?_slot (name := Str.ofString "__next__") hT sit_next (wpAny_call_entry sit_next hT sit_entry_next ?_ (sit_args_next _))))
  unfold Builtin.«set_iterator.__next__»
  refine wpAny_bind (wpAny_of_eq (a := (Value.ref it, [])) rfl ?_)
  refine wpAny_bind (fieldsOf_sit hi ?_)
  dsimp only
  refine wpAny_bind (wpAny_setEntries_of ho rfl rfl ?_)
  rw [if_neg (by decide +kernel)]
  show wpAny _ _ (setNext a 0 0 1 >>= _) _ _ _
  refine wpAny_bind (setNext_first hled ho ?_)
  dsimp only
  generalize (if w.params.followText "set-order" = true then 0 else 2) = n at h ⊢
  refine wpAny_bind (wpAny_setField_rec (cls := .type "set_iterator") hi (by simp) fun h₁ hi₁ hs₁ => ?_)
  refine wpAny_bind (wpAny_setField_rec (s := { s with heap := h₁ }) (cls := .type "set_iterator") hi₁ (by simp) fun h₂ hi₂ hs₂ => ?_)
  exact wpAny_pure ⟨_, rfl, wpAny_pure (h h₂ hi₂ (fun b o hb e => hs₂.extBut b o hb (hs₁.extBut b o hb e)))⟩
theorem pyNext_set_end {a it : Addr} {led : Bool} {Q : Option Value → Shared → Prop} (hh : A.handled = none) (hled : led = !w.params.followText "set-order") (ho : s.heap.get? a = some (setO led true)) (hi : s.heap.get? it = some (sitObj a (if w.params.followText "set-order" = true then 0 else 2) 1))
    (h : ∀ h', Heap.ExtBut it s.heap h' → Q none { s with heap := h' }) : wpAny (model prog w) A (pyNext (.ref it)) Q E s := by
  have hT : s.TypeIs (.ref it) "set_iterator" := ⟨_, hi, rfl⟩
  unfold pyNext
  refine wpAny_bind (wpAny_attempt (wpAny_callSpecial?_slot (name := Str.ofString "__next__") hT sit_next (wpAny_call_entry sit_next hT sit_entry_next ?_ (sit_args_next _))))
  unfold Builtin.«set_iterator.__next__»
  refine wpAny_bind (wpAny_of_eq (a := (Value.ref it, [])) rfl ?_)
  refine wpAny_bind (fieldsOf_sit hi ?_)
  dsimp only
  refine wpAny_bind (wpAny_setEntries_of ho rfl rfl ?_)
  rw [if_neg (by decide +kernel)]
  show wpAny _ _ (setNext a (Int.toNat ((if w.params.followText "set-order" = true then 0 else 2 : Nat) : Int)) 1 1 >>= _) _ _ _
  rw [Int.toNat_natCast]
  refine wpAny_bind (setNext_end hled ho ?_)
  dsimp only
  refine wpAny_bind (wpAny_setField_rec (cls := .type "set_iterator") hi (by simp) fun h₁ hi₁ hs₁ => ?_)
  refine stop_raise hh fun h₉ e₉ k₉ q₉ => ?_
  refine wpAny_bind (wpAny_isInstance (T := "StopIteration") (b := true) q₉ isSubtype_stop ?_)
  exact wpAny_pure (h _ fun b o hb e => k₉ b o (hs₁.extBut b o hb e))
end
end

section
open PySem.SeqAt
open Builtin.Str
set_option maxRecDepth 100000
theorem codeAny_compStart_set {prog : Program} {w : World} {A : Around} {R : Result → Shared → Prop} {s : Shared} {elt target iter ifs rest scope pos it acc env}
    (h0 : codeAny (model prog w) A (.compLoop (.SetComp elt (⟨target, iter, ifs, 0⟩ :: rest) scope pos) 0 it acc env) R s)
    (h : wpAny (model prog w) A (pyIter it) (fun it' s' => codeAny (model prog w) A (.compLoop (.SetComp elt (⟨target, iter, ifs, 0⟩ :: rest) scope pos) 0 it' acc env) R s')
      (notedBy (model prog w) A env fun x s' => R (.error x) s') s) :
    codeAny (model prog w) A (.compStart (.SetComp elt (⟨target, iter, ifs, 0⟩ :: rest) scope pos) 0 it acc env) R s := by
  refine codeAny_of_tree ?_
  show wpAny _ _ ((compStart (.SetComp elt (⟨target, iter, ifs, 0⟩ :: rest) scope pos) 0 it acc env).onRaise (fun x => do noteFrame x env; standAt theWindowsPlace)) _ _ s
  refine wpAny_notedAt ?_
  unfold compStart
  show wpAny _ _ (ask >>= _) _ _ s
  refine wpAny_bind (wpAny_askSetting (wpAny_ite ?_))
  split
  · first
      | exact wpAny_bind (wpAny_pure (wpAny_pure (And.intro rfl h0)))
      | exact wpAny_pure (And.intro rfl h0)
  · refine wpAny_bind (wpAny_rule ?_)
    show wpAny _ _ (standAt iter.pos >>= fun _ => pyIter it >>= fun it' => again (.compLoop (.SetComp elt (⟨target, iter, ifs, 0⟩ :: rest) scope pos) 0 it' acc env)) _ _ s
    exact wpAny_bind (wpAny_standAt (wpAny_bind (wpAny_mono h (fun _ _ hc => wpAny_pure ⟨rfl, hc⟩) fun _ _ e => e)))
theorem compTurn_set (elt target iter : Expr) (scope : Scope) (pos : Pos) (it acc : Value) (env : Env) :
    compTurn (.SetComp elt [⟨target, iter, [], 0⟩] scope pos) 0 it acc env = (do
      standAt iter.pos
      match ← pyNext it with
      | none => pure (.done .next)
      | some v =>
        letOwnedTupleGo target it v
        assign target env v
        (do let v ← eval elt env; standAt elt.pos; let _ ← call (.builtin "set.add") [acc, v])
        again (.compLoop (.SetComp elt [⟨target, iter, [], 0⟩] scope pos) 0 it acc env)) := by rfl
theorem codeAny_compLoop_set {prog : Program} {w : World} {A : Around} {R : Result → Shared → Prop} {s : Shared} {elt target iter : Expr} {scope : Scope} {pos : Pos} {it acc : Value} {env : Env} (I : Nat → Shared → Prop)
    (turn : ∀ n s, I n s → wpAny (model prog w) A (pyNext it) (fun r s₁ => match r with
      | none => R (.ok .next) s₁
      | some v => wpAny (model prog w) A (letOwnedTupleGo target it v) (fun _ s₁' => wpAny (model prog w) A (assign target env v) (fun _ s₂ =>
          wpAny (model prog w) A (eval elt env) (fun x s₄ =>
              wpAny (model prog w) A (call (.builtin "set.add") [acc, x]) (fun _ s₅ => ∃ m, m < n ∧ I m s₅) NoE s₄) NoE s₂) NoE s₁') NoE s₁) NoE s)
    (n : Nat) (h : I n s) : codeAny (model prog w) A (.compLoop (.SetComp elt [⟨target, iter, [], 0⟩] scope pos) 0 it acc env) R s := by
  refine codeAny_loop rfl I (fun n s hI => ?_) n h
  show wpAny _ A ((compTurn (.SetComp elt [⟨target, iter, [], 0⟩] scope pos) 0 it acc env).onRaise (fun x => do noteFrame x env; theTreesLotGoes x)) _ _ s
  refine wpAny_noted ?_
  rw [compTurn_set]
  refine wpAny_bind (wpAny_standAt (wpAny_bind (wpAny_mono (turn n s hI) (fun r s₁ h₁ => ?_) fun _ _ h' => h'.elim)))
  cases r with
  | none => exact wpAny_pure h₁
  | some v =>
    refine wpAny_bind (wpAny_mono h₁ (fun _ s₁' h₁' => ?_) fun _ _ h' => h'.elim)
    refine wpAny_bind (wpAny_mono h₁' (fun _ s₂ h₂ => ?_) fun _ _ h' => h'.elim)
    exact wpAny_bind (wpAny_bind (wpAny_mono h₂ (fun x s₄ h₄ => wpAny_bind (wpAny_standAt (wpAny_bind (wpAny_mono h₄ (fun _ s₅ h₅ => wpAny_pure (wpAny_pure ⟨rfl, h₅⟩)) fun _ _ h' => h'.elim)))) fun _ _ h' => h'.elim))
section
variable {B : Bs} {sc : Sc} {N : Nat} {ρ : Loc} {σ : Sto} {F : Frm} {A : Around} {s : Shared}
theorem comp_coreS {elt target citer : Expr} {csc : Scope} {cpos : Pos} {cl : List (Str × Addr)} {it : Value} {S : Src} {σ₁ : Sto} {fp : Addr → Prop} {St : Nat → Heap → Prop}
    {s₂ : Shared} {RR : Value → Addr → Result → Shared → Prop} (X : FrmOk B sc F) (R : Room A N) (hN : 1 ≤ N) (O₁ : Ok B F s ρ σ) (T : Itr B target it S fp St) (P₂ : Post B F s σ s₂ ρ σ₁) (hfp' : ∀ b, fp b → s.heap.get? b = none ∧ σ₁ b = none) (st0 : St 0 s₂.heap)
    (C : CompOk csc sc.scope) (hcl1 : ∀ x a, cl.lookup x = some a → F.env.cells.lookup x = some a) (hcl2 : ∀ x ∈ csc.names, x.2 = .free → cl.lookup x.1 = F.env.cells.lookup x.1) (hn : S.n ≤ 1000)
    (I : Nat → Sto → Prop) (i0 : I 0 σ₁) (iG : ∀ k σ', I k σ' → S.G k σ')
    (turn : ∀ k σ', k < S.n → I k σ' → WA B ⟨relS csc sc.scope, false⟩ N target (S.item k) (capt ρ (relS csc sc.scope)) (S.nx k σ') fun ρ₃ σ₃ => WE B ⟨relS csc sc.scope, false⟩ N elt ρ₃ σ₃ fun d σ₅ => d = .bool true ∧ I (k + 1) σ₅)
    (hRR : ∀ D L s' σ', Post B F s σ s' ρ (S.dn σ') → s.heap.get? D = none → s.heap.get? L = none → L ≠ D → S.dn σ' L = none → S.dn σ' D = none → (∃ b, (0 < S.n → b = true) ∧ s'.heap.get? D = some (setO (!B.w.params.followText "set-order") b)) → (∃ m, s'.heap.Ns L m) → I S.n σ' → RR (.ref D) L (.ok .next) s') :
    wpAny (Md B) A (newSet (.type "set")) (fun acc s₃ => wpAny (Md B) A (newFunctionEnv csc F.env.globals cl [] F.env.qual none .none (some F.env)) (fun cenv s₄ =>
      codeAny (Md B) A (.compStart (.SetComp elt [⟨target, citer, [], 0⟩] csc cpos) 0 it acc { cenv with scope := relabel csc F.env }) (RR acc cenv.locals) s₄) NoE s₃) NoE s₂ := by
  have hfp : ∀ b, fp b → s.heap.get? b = none := fun b hb => (hfp' b hb).1
  refine newSet_ (wpAny_newFunctionEnv C.nocell (by intro y hy; simp at hy) (fun h₁ hns₁ hsb₁ => ?_) C.fn)
  dsimp only [Option.isSome_some, if_true] at hns₁ hsb₁ ⊢
  generalize hD : s₂.heap.objs.size = D at hns₁ hsb₁ ⊢
  generalize hH : s₂.heap.push (setO (!B.w.params.followText "set-order") false) = H at hns₁ hsb₁ ⊢
  have hL : H.objs.size = D + 1 := by rw [← hH, Heap.size_push, hD]
  generalize hLL : H.objs.size = L at hL hns₁ hsb₁ ⊢
  subst hL
  show codeAny (Md B) A (.compStart (.SetComp elt [⟨target, citer, [], 0⟩] csc cpos) 0 it (.ref D) (compEnvC csc cl (D + 1) F.env)) (RR (.ref D) (D + 1)) { s₂ with heap := h₁, toks := s₂.toks + 0 }
  generalize hLdef : D + 1 = L at hns₁ hsb₁ hLL ⊢
  have hLD : L ≠ D := by omega
  let fc : Frm := ⟨compEnvC csc cl L F.env, fun b => b = L⟩
  let csc' := relS csc sc.scope
  have ge_none : ∀ b, s₂.heap.objs.size ≤ b → s₂.heap.get? b = none := fun b hb => by
    cases q : s₂.heap.get? b with
    | none => rfl
    | some o => exact absurd (Heap.lt_size q) (Nat.not_lt.mpr hb)
  have gD : s₂.heap.get? D = none := ge_none D (by omega)
  have gL : s₂.heap.get? L = none := ge_none L (by omega)
  have fD : s.heap.get? D = none := P₂.none_back O₁ gD
  have fL : s.heap.get? L = none := P₂.none_back O₁ gL
  let hid : Addr → Prop := fun b => fp b ∨ b = D ∨ b = L
  have hhid : ∀ b, hid b → s.heap.get? b = none := by
    rintro b (h | h | h)
    · exact hfp b h
    · rw [h]; exact fD
    · rw [h]; exact fL
  have ap : ApartF B F hid := ApartF.of X O₁ hhid
  have h0hid : ∀ b, hid b → B.h₀.get? b = none := fun b hb => (ap b hb).2.1
  have hfpD : ¬ fp D := fun q => by
    obtain ⟨o, ho, _⟩ := T.nt 0 _ st0 D q
    rw [gD] at ho; cases ho
  have hfpL : ¬ fp L := fun q => by
    obtain ⟨o, ho, _⟩ := T.nt 0 _ st0 L q
    rw [gL] at ho; cases ho
  have old₁ : ∀ b o, s₂.heap.get? b = some o → h₁.get? b = some o := fun b o e => by
    have hb : b ≠ L := fun q => by rw [q, gL] at e; cases e
    exact hsb₁.extBut b o hb (Heap.get?_push_of_some _ (hH ▸ Heap.get?_push_of_some _ e))
  have hacc : h₁.get? D = some (setO (!B.w.params.followText "set-order") false) := hsb₁.extBut D _ (Ne.symm hLD) (Heap.get?_push_of_some _ (by rw [← hH, ← hD]; exact Heap.get?_push_size _ rfl))
  have XF : FrmOk B ⟨csc', false⟩ fc := {
    scope := by show relabel csc F.env = _; rw [relabel_eq, X.scope]
    fn := C.fn
    globals := X.globals
    builtins := X.builtins
    ownL := rfl
    ownNew := fun b hb => by cases hb; exact h0hid L (.inr (.inr rfl))
    full := fun h => by cases h
    apart := fun x y a hx hy => X.apart x y a (hcl1 _ _ hx) (hcl1 _ _ hy)
    cex := fun x hx => by
      obtain ⟨h1, h2⟩ := lookup_rel_cell C.nocell hx
      obtain ⟨a, ha⟩ := X.cex x h2
      exact ⟨a, (hcl2 _ h1 rfl).trans ha⟩ }
  have mkFc : ∀ (s' : Shared) (σ' : Sto), Post B F s σ s' ρ σ' → (∃ m, s'.heap.Ns L m) → σ' L = none → Ok B fc s' (capt ρ csc') σ' := fun s' σ' P ⟨m, hm⟩ hσ => by
    refine ⟨P.o.s, ⟨m, hm, fun x d hk e => ?_⟩, fun x a hk ha => ?_, fun b hb => ?_⟩
    · rw [XF.kindOf] at hk
      unfold capt at e
      rw [hk] at e; simp at e
    · rw [XF.kindOf] at hk
      obtain ⟨h1, h2⟩ := lookup_rel_cell C.nocell hk
      obtain ⟨v, hc, hr⟩ := P.o.cl x a (by rw [X.kindOf, h2]) (hcl1 _ _ ha)
      refine ⟨v, hc, fun d e => hr d ?_⟩
      unfold capt at e
      rw [if_pos hk] at e; exact e
    · cases hb
      exact ⟨hσ, nt_ns hm⟩
  have P₁₂ : Post B F s σ { s₂ with heap := h₁, toks := s₂.toks + 0 } ρ σ₁ := P₂.trans ((PostS.keeps (tk := s₂.toks + 0) P₂.o.s old₁).frame X P₂.o)
  have free0 : ∀ b, hid b → σ₁ b = none := by
    rintro b (h | h | h)
    · exact (hfp' b h).2
    · rw [h]; exact P₂.o.s.none_of gD
    · rw [h]; exact P₂.o.s.none_of gL
  have run : ∀ s' : Shared, s' = { s₂ with heap := h₁, toks := s₂.toks + 0 } → codeAny (Md B) A (.compLoop (.SetComp elt [⟨target, citer, [], 0⟩] csc cpos) 0 it (.ref D) (compEnvC csc cl L F.env)) (RR (.ref D) L) s' := by
    rintro s' rfl
    refine codeAny_compLoop_set (fun m s' => ∃ k σ', m = S.n - k ∧ k ≤ S.n ∧ Post B F s σ s' ρ σ' ∧ St k s'.heap ∧ (∃ m, s'.heap.Ns L m) ∧ (∃ b, (0 < k → b = true) ∧ s'.heap.get? D = some (setO (!B.w.params.followText "set-order") b)) ∧ (∀ b, hid b → σ' b = none) ∧ I k σ') ?_ S.n
      ⟨0, σ₁, rfl, Nat.zero_le _, P₁₂, T.frame _ _ _ st0 (Mono.of_keeps old₁) (fun b _ o e => old₁ b o e), ⟨_, hns₁⟩, ⟨false, fun h => absurd h (Nat.lt_irrefl _), hacc⟩, free0, i0⟩
    rintro m s₃ ⟨k, σ₃, rfl, hk, P₃, st, ⟨mL, nL⟩, ⟨bb, hbb, pl⟩, hfree, i⟩
    -- a step on hidden things keeps what the turn keeps
    have hsub : ∀ {s' s'' : Shared} {σ' σ'' : Sto} {own : Addr → Prop}, Post B F s σ s' ρ σ' → (∀ b, own b → hid b) → (∀ b, own b → ∀ o, s'.heap.get? b = some o → NT o) → Ext own s' σ' s'' σ'' → OkS B s'' σ'' → Post B F s σ s'' ρ σ'' := fun P h hnt x o => ⟨P.x.hid x fun b hb => hhid b (h b hb), Ok.hid X P.o (fun b hb => ap b (h b hb)) hnt x o⟩
    have hboth : ∀ b, fp b → σ₃ b = none ∧ B.h₀.get? b = none := fun b hb => ⟨hfree b (.inl hb), h0hid b (.inl hb)⟩
    have ntAt : ∀ {j : Nat} {h : Heap}, St j h → ∀ b, fp b → ∀ o, h.get? b = some o → NT o := fun sj b hb o e => by
      obtain ⟨o', e', q⟩ := T.nt _ _ sj b hb
      rw [e] at e'; cases e'; exact q
    by_cases hlt : k < S.n
    · refine wpAny_mono (T.next k A s₃ σ₃ hlt (R.mono hN) P₃.o.s (iG _ _ i) hboth st) (fun r s₄ ⟨v, hv, h₄⟩ => ?_) fun _ _ f => f.elim
      subst hv
      refine wpAny_mono h₄ (fun _ s₅ ⟨x₅, o₅, st₅, r₅⟩ => ?_) fun _ _ f => f.elim
      have P₅ := hsub P₃ (fun b hb => .inl hb) (ntAt st) x₅ o₅
      have M₅ := x₅.mono P₃.o.s (ntAt st)
      have free₅ : ∀ b, hid b → S.nx k σ₃ b = none := by
        rintro b (h | h | h)
        · exact T.nxfp _ _ _ h (hfree b (.inl h))
        · rw [h]; exact (x₅.keep D _ hfpD (hfree D (.inr (.inl rfl))) pl).1
        · rw [h]; obtain ⟨o, es, ep, e, _⟩ := nL; exact (x₅.keep L o hfpL (hfree L (.inr (.inr rfl))) e).1
      have nL₅ : s₅.heap.Ns L mL := nL.at' fun o e => (x₅.keep L o hfpL (hfree L (.inr (.inr rfl))) e).2
      have pl₅ := (x₅.keep D _ hfpD (hfree D (.inr (.inl rfl))) pl).2
      have O₅ := mkFc s₅ _ P₅ ⟨mL, nL₅⟩ (free₅ L (.inr (.inr rfl)))
      refine wpAny_mono ((turn k σ₃ hlt i).run A fc s₅ v R XF O₅ r₅) (fun _ s₆ hp => hp.k fun ρ₆ σ₆ P₆ h₆ => ?_) fun _ _ f => f.elim
      have ntL : ∀ b, b = L → ∀ o, s₅.heap.get? b = some o → NT o := fun b hb o e => by rw [hb] at e; obtain ⟨o', h1, h2⟩ := nt_ns nL₅; rw [e] at h1; cases h1; exact h2
      have kept : ∀ {s' : Shared} {σ' : Sto} {ρ' : Loc}, Post B fc s₅ (S.nx k σ₃) s' ρ' σ' → (∀ b, hid b → σ' b = none) ∧ St (k + 1) s'.heap ∧ (∃ m, s'.heap.Ns L m) ∧ s'.heap.get? D = some (setO (!B.w.params.followText "set-order") bb) := fun P => by
        have hh : ∀ b, (fp b ∨ b = D) → ∀ o, s₅.heap.get? b = some o → _ := fun b hb o e => P.x.keep b o (by intro q; have q : b = L := q; rw [q] at hb; rcases hb with h | h; exact hfpL h; exact hLD h) (free₅ b (by rcases hb with h | h; exact .inl h; exact .inr (.inl h))) e
        refine ⟨?_, T.frame _ _ _ st₅ (P.mono O₅) fun b hb o e => (hh b (.inl hb) o e).2, let ⟨m, hm, _⟩ := P.o.ns; ⟨m, hm⟩, (hh D (.inr rfl) _ pl₅).2⟩
        rintro b (h | h | h)
        · obtain ⟨o, e, _⟩ := T.nt _ _ st₅ b h; exact (hh b (.inl h) o e).1
        · rw [h]; exact (hh D (.inr rfl) _ pl₅).1
        · exact (P.o.own b h).1
      refine wpAny_mono (h₆.run A fc s₆ R XF P₆.o) (fun u s₈ hp => hp.k fun d σ₈ P₈ r₈ q => u2 q fun hd h₈ => ?_) fun _ _ f => f.elim
      subst hd
      cases r₈
      have P₆₈ := P₆.trans P₈
      have P₈S := hsub P₅ (fun b hb => .inr (.inr hb)) ntL P₆₈.x P₈.o.s
      obtain ⟨k1, k2, k3, k4⟩ := kept P₆₈
      refine add_true k4 (fun h' hl' hs' => ?_)
      have x₉ : Ext (fun b => b = D) s₈ σ₈ { s₈ with heap := h', toks := s₈.toks + 1 } σ₈ := ⟨⟨h', s₈.toks + 1, rfl⟩, fun b o hb hn e => ⟨hn, hs'.extBut b o hb e⟩, fun _ h => h⟩
      have ntD : ∀ b, b = D → ∀ o, s₈.heap.get? b = some o → NT o := fun b hb o e => by rw [hb] at e; rw [e] at k4; cases k4; exact setO.nt _ _
      have M₉ := x₉.mono P₈.o.s ntD
      have o₉ : OkS B { s₈ with heap := h', toks := s₈.toks + 1 } σ₈ := ⟨fun b o e => hs'.extBut b o (by rintro rfl; rw [h0hid b (.inr (.inl rfl))] at e; cases e) (P₈.o.s.keep b o e),
        fun b c e => (P₈.o.s.cell b c e).mono (fun o => hs'.extBut b o (by rintro rfl; rw [k1 b (.inr (.inl rfl))] at e; cases e)) M₉, P₈.o.s.fresh, Nat.le_succ_of_le P₈.o.s.tk⟩
      refine ⟨S.n - (k + 1), by omega, k + 1, σ₈, rfl, hlt, hsub P₈S (fun b hb => .inr (.inl hb)) ntD x₉ o₉, T.frame _ _ _ k2 M₉ (fun b hb o e => hs'.extBut b o (by rintro rfl; exact hfpD hb) e), ?_, ⟨true, fun _ => rfl, hl'⟩, k1, h₈⟩
      obtain ⟨m, hm⟩ := k3; exact ⟨m, hm.sameBut hs' hLD⟩
    · have hkn : k = S.n := by omega
      subst hkn
      refine wpAny_mono (T.done A s₃ σ₃ (R.mono hN) P₃.o.s (iG _ _ i) hboth st) (fun r s₄ ⟨hv, x₄, o₄⟩ => ?_) fun _ _ f => f.elim
      subst hv
      have P₄ := hsub P₃ (fun b hb => .inl hb) (ntAt st) x₄ o₄
      have M₄ := x₄.mono P₃.o.s (ntAt st)
      refine hRR D L s₄ σ₃ P₄ fD fL hLD ?_ ?_ ⟨bb, hbb, (x₄.keep D _ hfpD (hfree D (.inr (.inl rfl))) pl).2⟩ ⟨mL, nL.at' fun o e => (x₄.keep L o hfpL (hfree L (.inr (.inr rfl))) e).2⟩ i
      · obtain ⟨o, es, ep, e, _⟩ := nL; exact (x₄.keep L o hfpL (hfree L (.inr (.inr rfl))) e).1
      · exact (x₄.keep D _ hfpD (hfree D (.inr (.inl rfl))) pl).1
  exact codeAny_compStart_set (run _ rfl) (T.self 0 A _ σ₁ _ _ R.1 P₁₂.o.s (iG _ _ i0) (T.frame _ _ _ st0 (Mono.of_keeps old₁) fun b _ o e => old₁ b o e) (run _ rfl))
end
end

section
open PySem.SeqAt
open Builtin.Str
set_option maxRecDepth 100000
section
variable {B : Bs} {sc : Sc} {N : Nat} {ρ : Loc} {σ : Sto} {F : Frm} {A : Around} {s : Shared}
theorem unpack_set {a : Addr} {t : Value → Sem Unit} {Q : Unit → Shared → Prop} {E : Value → Shared → Prop} (hh : A.handled = none) (ho : s.heap.get? a = some (setO (!B.w.params.followText "set-order") true))
    (h : ∀ h', (∀ b o, s.heap.get? b = some o → h'.get? b = some o) → wpAny (Md B) A (assignInOrder [t] [.bool true]) Q E { s with heap := h' }) : wpAny (Md B) A (unpack (.ref a) [(false, t)]) Q E s := by
  have hT : s.TypeIs (.ref a) "set" := ⟨_, ho, rfl⟩
  unfold unpack
  refine wpAny_bind (wpAny_holding ?_)
  show wpAny _ _ (unpackItems (.ref a) 1 none) _ _ _
  unfold unpackItems
  refine wpAny_bind ?_
  unfold notIterableAtAll
  refine wpAny_bind (wpAny_specialOf hT PySem.F.slot_set_iter.lookup ?_)
  simp only [Option.isSome_some, if_true]
  refine wpAny_pure ?_
  rw [if_neg Bool.false_ne_true]
  refine wpAny_bind (wpAny_holding (pyIter_set ho ?_))
  have hi : (s.heap.push (sitObj a 0 0)).get? s.heap.objs.size = some (sitObj a 0 0) := Heap.get?_push_size _ rfl
  have ho' : (s.heap.push (sitObj a 0 0)).get? a = some (setO (!B.w.params.followText "set-order") true) := Heap.get?_push_of_some _ ho
  have hne : a ≠ s.heap.objs.size := fun q => by have := Heap.lt_size ho; rw [q] at this; exact Nat.lt_irrefl _ this
  refine wpAny_bind (wpAny_holding ?_)
  unfold draw
  refine wpAny_bind (pyNext_set (s := { s with heap := s.heap.push (sitObj a 0 0) }) rfl hne ho' hi fun h₁ hi₁ hs₁ => ?_)
  dsimp only
  refine wpAny_bind (wpAny_holding ?_)
  unfold draw
  refine wpAny_pure (wpAny_pure ?_)
  rw [if_neg (by decide)]
  refine wpAny_bind (wpAny_holding (pyNext_set_end (s := { s with heap := h₁ }) hh rfl (hs₁ _ _ hne ho') hi₁ fun h₂ hs₂ => ?_))
  rw [if_neg (by decide)]
  refine wpAny_pure ?_
  exact h h₂ fun b o e => by
    have hb : b ≠ s.heap.objs.size := fun q => by have := Heap.lt_size e; rw [q] at this; exact Nat.lt_irrefl _ this
    exact hs₂ b o hb (hs₁ b o hb (Heap.get?_push_of_some _ e))

theorem WX.asgSet1 {elt target citer : Expr} {csc : Scope} {cpos pos py pt : Pos} {kt : Nat} {y : Str} {Q : Fl → Loc → Sto → Prop}
    (h : WIt B sc N target citer ρ σ fun S σ₁ => 0 < S.n ∧ S.n ≤ 1000 ∧ ∃ I : Nat → Sto → Prop, I 0 σ₁ ∧ (∀ k σ', I k σ' → S.G k σ') ∧
      (∀ k σ', k < S.n → I k σ' → WA B ⟨relS csc sc.scope, false⟩ N target (S.item k) (capt ρ (relS csc sc.scope)) (S.nx k σ') fun ρ₃ σ₃ => WE B ⟨relS csc sc.scope, false⟩ N elt ρ₃ σ₃ fun d σ₅ => d = .bool true ∧ I (k + 1) σ₅) ∧
      (∀ σ', I S.n σ' → WN B sc y (.bool true) ρ (S.dn σ') (Q .next)))
    (C : compOkB csc sc.scope = true) (hs : ∀ env x, foldedSetIterable citer env x = pure x) (hN : 1 ≤ N)
    (hsw : ∀ env, env.scope = sc.scope → swapsWithSole [.Tuple [.Name y py] kt pt] (.SetComp elt [⟨target, citer, [], 0⟩] csc cpos) pos.line env = pure false)
    (hst : ∀ env, env.scope = sc.scope → swappedStores [.Tuple [.Name y py] kt pt] (.SetComp elt [⟨target, citer, [], 0⟩] csc cpos) env = pure none) :
    WX B sc N (.Assign [.Tuple [.Name y py] kt pt] (.SetComp elt [⟨target, citer, [], 0⟩] csc cpos) pos) ρ σ Q := .mk fun A F s R X O => by
  have C' := CompOk.of C
  rw [exec_Assign1 _ _ _ _ (hsw _ X.scope) (hst _ X.scope)]
  refine wpAny_bind (wpAny_standAt (wpAny_bind ?_))
  rw [arm_eval_SetComp]
  obtain ⟨cl, hclos, hcl1, hcl2⟩ := closureFor_ok (env := F.env) (csc := csc) fun x hx hf => X.cex _ (C'.free x hx hf)
  show wpAny _ _ (comprehension (.SetComp elt [⟨target, citer, [], 0⟩] csc cpos) csc F.env _ (newSet (.type "set")) false (eval citer F.env)) _ _ _
  refine wpAny_comprehension_free rfl (hs _) hclos C'.fn C'.names (wpAny_mono (h.run A F s R X O) (fun v s₁ h₁ => wpAny_mono h₁ (fun it s₂ hp => hp.k fun S σ₁ fp St T P₂ hfp st0 q => u3 q fun hn0 hn q => q.elim fun I q => u4 q fun i0 iG turn fin' => ?_) fun _ _ f => f) fun _ _ f => f)
  refine comp_coreS (RR := fun acc L => compPost (Md B) A NoE none _ acc L) X R hN O T P₂ hfp st0 C' hcl1 hcl2 hn I i0 iG turn ?_
  intro D L s' σ' P hD hL hLD hσL hσD q hm i
  refine q.elim fun b q => hm.elim fun m hm => ?_
  have hb := q.1
  have ho := q.2
  have hbt := hb hn0
  subst hbt
  refine ⟨m, hm, fun h' hsb => ?_⟩
  -- the comprehension's own names go
  have hown : ¬ F.own L := fun q => by obtain ⟨_, o, ho, _⟩ := O.own L q; rw [hL] at ho; cases ho
  have x : Ext (fun b => b = L) s' (S.dn σ') { s' with heap := h' } (S.dn σ') := ⟨⟨h', s'.toks, rfl⟩, fun b o hb hn e' => ⟨hn, hsb.extBut b o hb e'⟩, fun _ h => h⟩
  have hnt : ∀ b, b = L → ∀ o, s'.heap.get? b = some o → NT o := fun b hb o e' => by rw [hb] at e'; obtain ⟨o', h1, h2⟩ := nt_ns hm; rw [e'] at h1; cases h1; exact h2
  have M := x.mono P.o.s hnt
  have ap := ApartF.of (fp := fun b => b = L) X O (fun b hb => by cases hb; exact hL)
  have O' : OkS B { s' with heap := h' } (S.dn σ') := ⟨fun b o e' => hsb.extBut b o (fun q => by rw [q, (ap L rfl).2.1] at e'; cases e') (P.o.s.keep b o e'), fun b c e' => (P.o.s.cell b c e').mono (fun o => hsb.extBut b o (fun q => by rw [q, hσL] at e'; cases e')) M, P.o.s.fresh, P.o.s.tk⟩
  have P' : Post B F s σ { s' with heap := h' } ρ (S.dn σ') := ⟨Ext.hid P.x x fun b hb => by cases hb; exact hL, Ok.hid (s := s') (s' := { s' with heap := h' }) X P.o ap hnt x O'⟩
  have hoD : h'.get? D = some (setO (!B.w.params.followText "set-order") true) := hsb.extBut _ _ (Ne.symm hLD) ho
  -- the set is unpacked
  show wpAny _ _ (do assignAll (.ref D) [assign (.Tuple [.Name y py] kt pt) F.env]; pure Flow.next) _ _ _
  refine wpAny_bind ?_
  show wpAny _ _ (assign (.Tuple [.Name y py] kt pt) F.env (.ref D)) _ _ _
  rw [arm_assign_Tuple]
  refine wpAny_bind (wpAny_standAt ?_)
  show wpAny _ _ (unpack (.ref D) [(false, assign (.Name y py) F.env)]) _ _ _
  refine unpack_set (s := { s' with heap := h' }) R.1 hoD fun h₂ hk₂ => ?_
  have P₂' : Post B F s σ { s' with heap := h₂ } ρ (S.dn σ') := P'.trans ((PostS.keeps (s := { s' with heap := h' }) (tk := s'.toks) P'.o.s hk₂ id).frame X P'.o)
  show wpAny (Md B) A (do holding [] (assign (.Name y py) F.env (.bool true)); assignInOrder [] []) _ _ _
  refine wpAny_bind (wpAny_holding (wpAny_assign_Name (wpAny_mono ((fin' σ' i).run A F { s' with heap := h₂ } (.bool true) X P₂'.o rfl) (fun _ s₃ hp => hp.k fun ρ₃ σ₃ P₃ q => ?_) fun _ _ f => f)))
  exact wpAny_pure (wpAny_pure ⟨.next, ρ₃, σ₃, P₂'.trans P₃, rfl, q⟩)
end
end

section
set_option autoImplicit false
set_option maxRecDepth 100000
section
variable {O : KeyOrd} {k : Nat → O.α} {p : Array Nat} {n : Nat}
/-- the key at a place -/
noncomputable def kp (k : Nat → O.α) (p : Array Nat) (x : Nat) : O.α := k (p.getD x 0)
noncomputable def Srt (k : Nat → O.α) (p : Array Nat) (m : Nat) : Prop := ∀ i j, i ≤ j → j < m → O.kle (kp k p i) (kp k p j)
noncomputable def Ninc (k : Nat → O.α) (p : Array Nat) (m : Nat) : Prop := ∀ i j, i ≤ j → j < m → O.kle (kp k p j) (kp k p i)
/-- an order of the first n numbers -/
noncomputable def PermN (n : Nat) (p : Array Nat) : Prop := p.Perm (List.toArray (List.range n))
theorem PermN.size (h : PermN n p) : p.size = n := by have := h.size_eq; simpa using this
theorem PermN.lt (h : PermN n p) {x : Nat} (hx : x < n) : p.getD x 0 < n := by
  have hx' : x < p.size := by rw [h.size]; exact hx
  have e : p.getD x 0 = p[x] := by simp [Array.getD, hx']
  rw [e]
  have hm : p[x] ∈ p.toList := by simp
  have := (Array.perm_iff_toList_perm.mp h).mem_iff.mp hm
  simpa using this
theorem PermN.rev (h : PermN n p) (i j : Nat) : PermN n (kas_rev p i j) := (mirror_perm p i j _).trans h
theorem PermN.bub (h : PermN n p) (a d : Nat) : PermN n (bubble p a d) := (bubble_perm p a d).trans h
theorem kp_congr {q : Array Nat} {i j : Nat} (h : p[i]? = q[j]?) : kp k p i = kp k q j := by
  unfold kp; rw [Array.getD_eq_getD_getElem?, Array.getD_eq_getD_getElem?, h]
theorem kp_rev {i j : Nat} (hj : j ≤ p.size) (x : Nat) : kp k (kas_rev p i j) x = if i ≤ x ∧ x < j then kp k p (i + j - 1 - x) else kp k p x := by
  have e := getElem?_mirror_all (xs := p) (i := i) hj x
  by_cases h1 : i ≤ x ∧ x < j
  · rw [if_pos h1] at e ⊢; exact kp_congr e
  · rw [if_neg h1] at e ⊢; exact kp_congr e
theorem kp_rev_same {i j : Nat} (hj : j ≤ p.size) (heq : ∀ x, i ≤ x → x < j → kp k p x = kp k p (j - 1)) (x : Nat) : kp k (kas_rev p i j) x = kp k p x := by
  rw [kp_rev hj]
  split
  · rw [heq _ (by lia) (by lia), heq x (by lia) (by lia)]
  · rfl
theorem kp_bub {a d : Nat} (ha : a < p.size) (hd : d ≤ a) (x : Nat) :
    kp k (bubble p a d) x = if x = a - d then kp k p a else if a - d < x ∧ x ≤ a then kp k p (x - 1) else kp k p x := by
  have e := getElem?_bubble ha d hd x
  by_cases h1 : x = a - d
  · rw [if_pos h1] at e ⊢; exact kp_congr e
  · rw [if_neg h1] at e ⊢
    by_cases h2 : a - d < x ∧ x ≤ a
    · rw [if_pos h2] at e ⊢; exact kp_congr e
    · rw [if_neg h2] at e ⊢; exact kp_congr e
theorem Srt.succ {m : Nat} (h : Srt k p m) (h1 : 1 ≤ m) (hl : O.kle (kp k p (m - 1)) (kp k p m)) : Srt k p (m + 1) := fun i j hij hj => by
  by_cases hjx : j < m
  · exact h i j hij hjx
  · obtain rfl : j = m := by lia
    by_cases hi : i = j
    · subst hi; exact KeyOrd.kle_refl _
    · exact KeyOrd.kle_trans (h i (j - 1) (by lia) (by lia)) hl
theorem Ninc.succ {m : Nat} (h : Ninc k p m) (h1 : 1 ≤ m) (hl : O.kle (kp k p m) (kp k p (m - 1))) : Ninc k p (m + 1) := fun i j hij hj => by
  by_cases hjx : j < m
  · exact h i j hij hjx
  · obtain rfl : j = m := by lia
    by_cases hi : i = j
    · subst hi; exact KeyOrd.kle_refl _
    · exact KeyOrd.kle_trans hl (h i (j - 1) (by lia) (by lia))
theorem Srt.one : Srt k p 1 := fun i j hij hj => by obtain rfl : i = j := (by lia); exact KeyOrd.kle_refl _
theorem Ninc.same {q : Array Nat} {m : Nat} (h : Ninc k p m) (e : ∀ x, kp k q x = kp k p x) : Ninc k q m := fun i j hij hj => by rw [e, e]; exact h i j hij hj

/-- comparisons that leave the state -/
noncomputable def CmpIs (n : Nat) (k : Nat → O.α) (cmp : Nat → Nat → (Bool → Shared → Prop) → Shared → Prop) (s : Shared) : Prop := ∀ i j, i < n → j < n → ∀ C : Bool → Shared → Prop, C (O.blt (k i) (k j)) s → cmp i j C s
variable {cmp : Nat → Nat → (Bool → Shared → Prop) → Shared → Prop} {s : Shared}
theorem CmpIs.at (H : CmpIs n k cmp s) (hp : PermN n p) {x y : Nat} (hx : x < n) (hy : y < n) {α : Type} {f : Bool → KasT α} {G : α → Shared → Prop}
    (h1 : O.klt (kp k p x) (kp k p y) → (f true).kasWp cmp G s) (h2 : O.kle (kp k p y) (kp k p x) → (f false).kasWp cmp G s) : (KasT.ask (p.getD x 0) (p.getD y 0) f).kasWp cmp G s := by
  refine H _ _ (hp.lt hx) (hp.lt hy) _ ?_
  cases h : O.blt (k (p.getD x 0)) (k (p.getD y 0)) with
  | true => exact h1 h
  | false => exact h2 h

theorem asc_ok (H : CmpIs n k cmp s) (hp : PermN n p) {nrem : Nat} (hn : nrem ≤ n) {G : Nat → Shared → Prop} : ∀ (f m : Nat), m + f = nrem → 1 ≤ m → Srt k p m →
    (∀ m', m ≤ m' → m' ≤ nrem → Srt k p m' → (m' = nrem ∨ O.klt (kp k p m') (kp k p (m' - 1))) → G m' s) → (kas_asc p f m).kasWp cmp G s
  | 0, m, hm, h1, hs, h => h m (Nat.le_refl _) (by lia) hs (.inl (by lia))
  | f + 1, m, hm, h1, hs, h => by
    unfold kas_asc
    refine H.at hp (by lia) (by lia) (fun hl => ?_) (fun hl => ?_)
    · rw [if_pos rfl]; exact h m (Nat.le_refl _) (by lia) hs (.inr hl)
    · rw [if_neg (by simp)]
      exact asc_ok H hp hn f (m + 1) (by lia) (by lia) (hs.succ h1 hl) fun m' a b c d => h m' (by lia) b c d

theorem desc_ok (H : CmpIs n k cmp s) {nrem : Nat} (hn : nrem ≤ n) {G : Array Nat × Nat × Nat → Shared → Prop} : ∀ (f m q : Nat) (p : Array Nat), PermN n p → m + f = nrem → 1 ≤ m → Ninc k p m → q + 1 ≤ m →
    (∀ x, m - (q + 1) ≤ x → x < m → kp k p x = kp k p (m - 1)) →
    (∀ m' q' p', PermN n p' → m ≤ m' → m' ≤ nrem → Ninc k p' m' → q' + 1 ≤ m' → (∀ x, m' - (q' + 1) ≤ x → x < m' → kp k p' x = kp k p' (m' - 1)) → G (p', m', q') s) → (kas_desc f p m q).kasWp cmp G s
  | 0, m, q, p, hp, hm, h1, hs, hq, he, h => h m q p hp (Nat.le_refl _) (by lia) hs hq he
  | f + 1, m, q, p, hp, hm, h1, hs, hq, he, h => by
    unfold kas_desc
    have hz : m ≤ p.size := by rw [hp.size]; lia
    refine H.at hp (by lia) (by lia) (fun hl => ?_) (fun hl => ?_)
    · rw [if_pos rfl]
      by_cases q0 : q > 0
      · rw [if_pos q0]
        have e := kp_rev_same (k := k) hz he
        have hs' : Ninc k (kas_rev p (m - (q + 1)) m) (m + 1) := (hs.succ h1 (KeyOrd.kle_of_klt hl)).same e
        exact desc_ok H hn f (m + 1) 0 _ (hp.rev _ _) (by lia) (by lia) hs' (by lia) (fun x a b => by congr 1; lia) fun m' q' p' a b c d e f => h m' q' p' a (by lia) c d e f
      · rw [if_neg q0]
        exact desc_ok H hn f (m + 1) 0 p hp (by lia) (by lia) (hs.succ h1 (KeyOrd.kle_of_klt hl)) (by lia) (fun x a b => by congr 1; lia) fun m' q' p' a b c d e f => h m' q' p' a (by lia) c d e f
    · rw [if_neg (by simp)]
      refine H.at hp (by lia) (by lia) (fun hl2 => ?_) (fun hl2 => ?_)
      · rw [if_pos rfl]; exact h m q p hp (Nat.le_refl _) (by lia) hs hq he
      · rw [if_neg (by simp)]
        have eq : kp k p m = kp k p (m - 1) := KeyOrd.kle_antisymm hl2 hl
        refine desc_ok H hn f (m + 1) (q + 1) p hp (by lia) (by lia) (hs.succ h1 hl2) (by lia) (fun x a b => ?_) fun m' q' p' a b c d e f => h m' q' p' a (by lia) c d e f
        rw [Nat.add_sub_cancel]
        by_cases hx : x = m
        · subst hx; rfl
        · rw [eq]; exact he x (by lia) (by lia)

theorem tail3_ok (H : CmpIs n k cmp s) (hp : PermN n p) {nrem m : Nat} (hn : nrem ≤ n) {G : Nat × Array Nat → Shared → Prop} (h1 : 1 ≤ m) (hm : m ≤ nrem) (hs : Ninc k p m)
    (h : ∀ m' p', PermN n p' → 1 ≤ m' → m' ≤ nrem → Srt k p' m' → G (m', p') s) : (kas_tail3 m nrem p).kasWp cmp G s := by
  unfold kas_tail3
  rw [KasT.kasWp_bind]
  have hz : m ≤ p.size := by rw [hp.size]; lia
  refine asc_ok H (hp.rev 0 m) hn _ _ (by lia) h1 (fun i j hij hj => ?_) fun m' a b c _ => h m' _ (hp.rev 0 m) (by lia) b c
  rw [kp_rev hz, kp_rev hz, if_pos (by lia), if_pos (by lia)]
  exact hs _ _ (by lia) (by lia)
theorem descPart_ok (H : CmpIs n k cmp s) (hp : PermN n p) {nrem m : Nat} (hn : nrem ≤ n) {G : Nat × Array Nat → Shared → Prop} (hm : m + 1 ≤ nrem) (hs : Ninc k p (m + 1))
    (h : ∀ m' p', PermN n p' → 1 ≤ m' → m' ≤ nrem → Srt k p' m' → G (m', p') s) : (kas_descPart m nrem p).kasWp cmp G s := by
  unfold kas_descPart
  rw [KasT.kasWp_bind]
  refine desc_ok H hn _ _ _ p hp (by lia) (by lia) hs (by lia) (fun x a b => by congr 1; lia) fun m' q' p' hp' a b c d e => ?_
  dsimp only
  have hz : m' ≤ p'.size := by rw [hp'.size]; lia
  by_cases q0 : q' > 0
  · rw [if_pos q0]
    exact tail3_ok H (hp'.rev _ _) hn (by lia) b (c.same (kp_rev_same hz e)) h
  · rw [if_neg q0]
    exact tail3_ok H hp' hn (by lia) b c h
theorem count_ok (H : CmpIs n k cmp s) (hp : PermN n p) (hn : 1 ≤ n) {G : Nat × Array Nat → Shared → Prop}
    (h : ∀ m' p', PermN n p' → 1 ≤ m' → m' ≤ n → Srt k p' m' → G (m', p') s) : (kas_count n p).kasWp cmp G s := by
  unfold kas_count
  rw [KasT.kasWp_bind]
  refine asc_ok H hp (Nat.le_refl n) _ _ (by lia) (Nat.le_refl _) Srt.one fun m a b hs hor => ?_
  by_cases e1 : m = n
  · rw [if_pos (by simpa using e1)]; exact h m p hp a b hs
  · rw [if_neg (by simpa using e1)]
    have hl := hor.resolve_left e1
    by_cases g : m > 1
    · rw [if_pos g]
      refine H.at hp (by lia) (by lia) (fun hr => ?_) (fun hr => ?_)
      · rw [if_pos rfl]; exact h m p hp a b hs
      · rw [if_neg (by simp)]
        have hz : m ≤ p.size := by rw [hp.size]; lia
        have hall : ∀ x, 0 ≤ x → x < m → kp k p x = kp k p (m - 1) := fun x _ hx =>
          KeyOrd.kle_antisymm (hs x (m - 1) (by lia) (by lia)) (KeyOrd.kle_trans hr (hs 0 x (by lia) hx))
        refine descPart_ok H (hp.rev _ _) (Nat.le_refl n) (by lia) (Ninc.same (p := p) (Ninc.succ (fun i j hij hj => ?_) (by lia) (KeyOrd.kle_of_klt hl)) (kp_rev_same hz hall)) h
        rw [hall i (by lia) (by lia), hall j (by lia) hj]; exact KeyOrd.kle_refl _
    · rw [if_neg g]
      obtain rfl : m = 1 := by lia
      refine descPart_ok H hp (Nat.le_refl n) (by lia) (Ninc.succ (fun i j hij hj => ?_) (by lia) (KeyOrd.kle_of_klt hl)) h
      obtain rfl : i = j := by lia
      exact KeyOrd.kle_refl _

theorem place_ok (H : CmpIs n k cmp s) (hp : PermN n p) {a : Nat} (ha : a < n) (hs : Srt k p a) {G : Nat → Shared → Prop} : ∀ (f l r : Nat), l ≤ r → r ≤ a → r - l ≤ f →
    (∀ i, i < l → O.kle (kp k p i) (kp k p a)) → (∀ i, r ≤ i → i < a → O.klt (kp k p a) (kp k p i)) →
    (∀ l', l' ≤ a → (∀ i, i < l' → O.kle (kp k p i) (kp k p a)) → (∀ i, l' ≤ i → i < a → O.klt (kp k p a) (kp k p i)) → G l' s) → (kas_place p a f l r).kasWp cmp G s
  | 0, l, r, hlr, hr, hf, lo, hi, h => by
    obtain rfl : l = r := by lia
    exact h l hr lo hi
  | f + 1, l, r, hlr, hr, hf, lo, hi, h => by
    unfold kas_place
    by_cases g : l ≥ r
    · rw [if_pos g]
      obtain rfl : l = r := by lia
      exact h l hr lo hi
    · rw [if_neg g]
      refine H.at hp ha (by lia) (fun hl => ?_) (fun hl => ?_)
      · rw [if_pos rfl]
        exact place_ok H hp ha hs f l _ (by lia) (by lia) (by lia) lo (fun i x y => KeyOrd.klt_of_klt_of_kle hl (hs _ _ x y)) h
      · rw [if_neg (by simp)]
        exact place_ok H hp ha hs f _ r (by lia) (by lia) (by lia) (fun i x => KeyOrd.kle_trans (hs i ((l + r) / 2) (by lia) (by lia)) hl) hi h
theorem bin_ok (H : CmpIs n k cmp s) {G : Array Nat → Shared → Prop} : ∀ (f a : Nat) (p : Array Nat), PermN n p → a + f = n → 1 ≤ a → Srt k p a →
    (∀ p', PermN n p' → Srt k p' n → G p' s) → (kas_bin f p a).kasWp cmp G s
  | 0, a, p, hp, ha, h1, hs, h => h p hp (by rw [← ha]; exact hs)
  | f + 1, a, p, hp, ha, h1, hs, h => by
    unfold kas_bin
    rw [KasT.kasWp_bind]
    refine place_ok H hp (by lia) hs a 0 a (by lia) (by lia) (by lia) (fun i hi => by lia) (fun i x y => by lia) fun l hl lo hi => ?_
    refine bin_ok H f (a + 1) _ (hp.bub _ _) (by lia) (by lia) (fun i j hij hj => ?_) h
    have hz : a < p.size := by rw [hp.size]; lia
    rw [kp_bub hz (by lia), kp_bub hz (by lia), show a - (a - l) = l by lia]
    repeat' split
    all_goals first
      | (exfalso; lia)
      | exact KeyOrd.kle_refl _
      | exact lo _ (by lia)
      | exact KeyOrd.kle_of_klt (hi _ (by lia) (by lia))
      | exact hs _ _ (by lia) (by lia)
/-- a sort: an order of the places whose keys rise -/
theorem sort_ok (H : CmpIs n k cmp s) (hn : 1 ≤ n) {G : Array Nat → Shared → Prop} (h : ∀ p', PermN n p' → Srt k p' n → G p' s) : (kas_sort n).kasWp cmp G s := by
  unfold kas_sort
  rw [KasT.kasWp_bind]
  refine count_ok H (Array.Perm.refl _) hn fun m p hp a b hs => ?_
  dsimp only
  by_cases e : m < n
  · rw [if_pos e]
    have hm : max m 1 = m := by lia
    rw [hm]
    exact bin_ok H _ _ p hp (by lia) a hs h
  · rw [if_neg e]
    obtain rfl : m = n := by lia
    exact h p hp hs
end
end

section
set_option autoImplicit false
set_option maxRecDepth 100000
noncomputable def srtTree (a : Addr) (b : Bool) : Sem PySem.Fin := do
    let items ← Builtin.List.listItems (.ref a)
    Builtin.List.listUpdate (.ref a) fun _ => #[]
    let before ← seqEpoch a
    let held ← newTuple items.toList
    let keyStore ← newList []
    holding [held, keyStore] do
      if b then rule "list.sort.reverse"
      let kind ← if items.size < 2 then pure general' else keyKind' items
      let ((), s) ← (if items.size < 2 then pure () else sortRuns').run (SortSt.mk' kind (if b then (items.zip items).reverse else items.zip items) #[] 7 none)
      let sorted := (arrOf s).map (·.2)
      let touched := (← seqEpoch a) != before
      Builtin.List.listUpdate (.ref a) fun _ => if b then sorted.reverse else sorted
      if let some e := failedOf s then rule "list.sort.comparison-raised"; throw e
      if touched then rule "list.sort.modified"; raiseError "ValueError" "list modified during sort"
      ret .none
theorem srt_t1 (a : Addr) : Builtin.«list.sort» ⟨[.ref a], []⟩ = srtTree a false := rfl
theorem srt_t2 (a : Addr) (b : Bool) : Builtin.«list.sort» ⟨[.ref a], [(Str.ofString "reverse", .bool b)]⟩ = srtTree a b := list_sort_rev a b
theorem srt_t3 (a : Addr) (b : Bool) : Builtin.«list.sort» ⟨[.ref a], [(Str.ofString "key", .none), (Str.ofString "reverse", .bool b)]⟩ = srtTree a b := by
  first | rfl | (fail "not by rfl")

noncomputable def srtMid (h : Heap) (a : Addr) (vs : List Value) : Heap := ((h.update a (Obj.mapSeq fun _ => (#[] : Array Value))).push (seqObj "tuple" vs.toArray 0)).push (seqObj "list" #[] 0)

theorem range_getD (vs : List Value) : ((List.toArray (List.range vs.length)).toList.map fun i => vs.getD i Value.none) = vs := by
  apply List.ext_getElem
  · simp
  · intro i h1 h2
    simp [h2]
theorem rev_short {vs : List Value} {b : Bool} (h : vs.length < 2) : katRev b vs = vs := by
  unfold katRev
  rcases vs with _ | ⟨x, _ | ⟨y, r⟩⟩
  · simp
  · simp
  · exact absurd h (by simp)

theorem srt_wp {prog : Program} {w : World} {A : Around} {E : Value → Shared → Prop} {s : Shared} {O : KeyOrd} {k : Nat → O.α} {a : Addr} {vs : List Value} {n : Nat} {κ : SortKind} {b : Bool} {P : PySem.Fin → Shared → Prop}
    (ho : s.heap.get? a = some (seqObj "list" vs.toArray n)) (h64 : vs.length < 64)
    (hk : 2 ≤ vs.length → ∀ Q : SortKind → Shared → Prop, Q κ { s with heap := srtMid s.heap a vs } → wpAny (model prog w) A (keyKind' vs.toArray) Q E { s with heap := srtMid s.heap a vs })
    (hc : 2 ≤ vs.length → CmpIs vs.length k (kas_ask prog w A κ (katRev b vs)) { s with heap := srtMid s.heap a vs })
    (h : ∀ p, PermN vs.length p → Srt k p vs.length → P (.done (.ret .none)) { s with heap := sortedHeap s.heap a vs (katRev b (p.toList.map fun i => (katRev b vs).getD i Value.none)).toArray }) :
    wpAny (model prog w) A (srtTree a b) P E s := by
  unfold srtTree
  have ha : a < s.heap.objs.size := Heap.lt_size ho
  refine wpAny_bind (listItems_at ho rfl ?_)
  refine wpAny_bind (listUpdate_at ho rfl ?_ (by rw [List.size_toArray, sizeLine_eq]; lia) (Nat.zero_le _))
  obtain ⟨e1, ho1⟩ : ∃ e1, (s.heap.update a (Obj.mapSeq fun _ => (#[] : Array Value))).get? a = some (seqObj "list" #[] e1) := ⟨_, get?_update_seq ho fun _ => #[]⟩
  refine wpAny_bind (seqEpoch_at ho1 rfl ?_)
  refine wpAny_bind (wpAny_newTuple ?_ (by show vs.length ≤ _; rw [sizeLine_eq]; lia))
  refine wpAny_bind (wpAny_newList ?_ (Nat.zero_le _))
  refine wpAny_holding ?_
  have ho6 : (srtMid s.heap a vs).get? a = some (seqObj "list" #[] e1) := by
    unfold srtMid
    rw [Heap.get?_push_ne _ _ _ (by rw [size_push', Heap.size_update]; exact Nat.ne_of_lt (Nat.lt_succ_of_lt ha)), Heap.get?_push_ne _ _ _ (by rw [Heap.size_update]; exact Nat.ne_of_lt ha)]
    exact ho1
  show wpAny (model prog w) A _ P E { s with heap := srtMid s.heap a vs }
  dsimp only
  have hrev : ∀ xs : List Value, (if b = true then (List.toArray xs).reverse else List.toArray xs) = List.toArray (katRev b xs) := kat_outs b
  have step : ∀ t : Sem PySem.Fin, wpAny (model prog w) A t P E { s with heap := srtMid s.heap a vs } →
      wpAny (model prog w) A (if b = true then (do let _ ← rule "list.sort.reverse"; t) else t) P E { s with heap := srtMid s.heap a vs } := by
    intro t ht
    split
    · exact wpAny_bind (wpAny_rule ht)
    · exact ht
  refine step _ ?_
  by_cases h2 : vs.toArray.size < 2
  · rw [if_pos h2, if_pos h2]
    have h2' : vs.length < 2 := by simpa using h2
    refine wpAny_bind (wpAny_pure ?_)
    rw [StateT.run_pure]
    refine wpAny_bind (wpAny_pure ?_)
    dsimp only
    have hout : (if b = true then ((arrOf (SortSt.mk' general' (if b = true then (vs.toArray.zip vs.toArray).reverse else vs.toArray.zip vs.toArray) #[] 7 none)).map (·.2)).reverse else (arrOf (SortSt.mk' general' (if b = true then (vs.toArray.zip vs.toArray).reverse else vs.toArray.zip vs.toArray) #[] 7 none)).map (·.2)) = vs.toArray := by
      show (if b = true then ((if b = true then (vs.toArray.zip vs.toArray).reverse else vs.toArray.zip vs.toArray).map (·.2)).reverse else (if b = true then (vs.toArray.zip vs.toArray).reverse else vs.toArray.zip vs.toArray).map (·.2)) = _
      clear hk hc h ho h64 hrev step h2 ho6 ho1 ha
      match vs, h2' with
      | [], _ => cases b <;> simp
      | [_], _ => cases b <;> simp
    refine wpAny_bind (seqEpoch_at ho6 rfl ?_)
    refine wpAny_bind (listUpdate_at ho6 rfl ?_ (Nat.zero_le _) (by rw [hout, List.size_toArray, sizeLine_eq]; lia))
    rw [hout]
    simp only [bne_self_eq_false, Bool.false_eq_true, if_false]
    have hp := h (List.toArray (List.range vs.length)) (Array.Perm.refl _) (fun i j hij hj => by obtain rfl : i = j := (by lia); exact KeyOrd.kle_refl _)
    rw [rev_short h2', range_getD, rev_short h2'] at hp
    exact wpAny_pure hp
  · rw [if_neg h2, if_neg h2]
    have h2' : 2 ≤ vs.length := by simpa using h2
    refine wpAny_bind (hk h2' _ ?_)
    have hz := kat_len b vs
    have hpairs : (if b = true then (vs.toArray.zip vs.toArray).reverse else vs.toArray.zip vs.toArray) = (List.toArray (katRev b vs)).zip (List.toArray (katRev b vs)) := kat_pairs b rfl
    rw [hpairs]
    have hs := sort_ok (hc h2') (by lia) (G := fun p s' => s' = { s with heap := srtMid s.heap a vs } ∧ PermN vs.length p ∧ Srt k p vs.length) fun p' hp hs => ⟨rfl, hp, hs⟩
    refine wpAny_bind (wpAny_mono (kat_run (vs := katRev b vs) (ks := katRev b vs) (G := fun p s' => s' = { s with heap := srtMid s.heap a vs } ∧ PermN vs.length p ∧ Srt k p vs.length) (Q := fun st' s' => s' = { s with heap := srtMid s.heap a vs } ∧ ∃ p : Array Nat, PermN vs.length p ∧ Srt k p vs.length ∧ arrOf st' = p.map (kas_item ((katRev b vs).toArray.zip (katRev b vs).toArray)) ∧ failedOf st' = none)
      rfl (by lia) (by lia) (fun p' st' s' a1 a2 a3 a4 => ⟨a4.1, p', a4.2.1, a4.2.2, a2, a3⟩) (by rw [hz]; exact hs)) ?_ fun _ _ e => e)
    rintro ⟨⟨⟩, st'⟩ s' ⟨rfl, p, hp, hsr, har, hf⟩
    dsimp only
    have hout := kat_snds (ks := katRev b vs) (vs := katRev b vs) rfl har
    rw [hout, hrev]
    have hl : (katRev b (p.toList.map fun i => (katRev b vs).getD i Value.none)).length = vs.length := by rw [kat_len, List.length_map, Array.length_toList, hp.size]
    refine wpAny_bind (seqEpoch_at ho6 rfl ?_)
    refine wpAny_bind (listUpdate_at ho6 rfl ?_ (Nat.zero_le _) (by rw [List.size_toArray, hl, sizeLine_eq]; lia))
    rw [hf]
    simp only [bne_self_eq_false, Bool.false_eq_true, if_false]
    exact wpAny_pure (h p hp hsr)
end

section
set_option autoImplicit false
set_option maxRecDepth 100000
/-- comparisons of the items, the kind of the sort -/
noncomputable def Cmps (B : Bs) (N : Nat) (σ : Sto) (κ : SortKind) (O : KeyOrd) (key : V → O.α) (xs : List V) : Prop :=
  ∀ (A : Around) (s : Shared), Room A N → OkS B s σ →
   (∀ vs, RepL s.heap xs vs → 2 ≤ vs.length → ∀ (E : Value → Shared → Prop) (Q : SortKind → Shared → Prop), Q κ s → wpAny (Md B) A (keyKind' vs.toArray) Q E s) ∧
   (∀ x y v u, x ∈ xs → y ∈ xs → Rep s.heap x v → Rep s.heap y u → ∀ C : Bool → Shared → Prop, C (O.blt (key x) (key y)) s → wpAny (Md B) A (keyLt' κ v u) C (fun _ _ => False) s)
noncomputable def SortOut (O : KeyOrd) (key : V → O.α) (b : Bool) (xs ys : List V) : Prop := ys.Perm xs ∧ ys.Pairwise fun x y => if b = true then O.kle (key y) (key x) else O.kle (key x) (key y)

theorem RepL.reverse {h : Heap} : ∀ {ds : List V} {vs : List Value}, RepL h ds vs → RepL h ds.reverse vs.reverse
  | [], _, r => by cases r; exact rfl
  | d :: ds, vs, r => by
    obtain ⟨v, r', rfl, h1, h2⟩ := r
    rw [List.reverse_cons, List.reverse_cons]
    exact (RepL.reverse h2).append (RepL.one h1)
theorem RepL.rev {h : Heap} {ds : List V} {vs : List Value} (b : Bool) (r : RepL h ds vs) : RepL h (katRev b ds) (katRev b vs) := by
  unfold katRev
  split
  · exact r.reverse
  · exact r
theorem RepL.getD {h : Heap} {ds : List V} {vs : List Value} (r : RepL h ds vs) {i : Nat} (hi : i < ds.length) : Rep h (ds.getD i .none) (vs.getD i Value.none) := by
  obtain ⟨v, hv, hr⟩ := r.get (List.getElem?_eq_getElem hi)
  rw [List.getD_eq_getElem?_getD, List.getD_eq_getElem?_getD, List.getElem?_eq_getElem hi, hv]
  exact hr
theorem RepL.picks {h : Heap} {ds : List V} {vs : List Value} (r : RepL h ds vs) : ∀ (p : List Nat), (∀ i ∈ p, i < ds.length) → RepL h (p.map fun i => ds.getD i .none) (p.map fun i => vs.getD i Value.none)
  | [], _ => rfl
  | i :: p, hp => ⟨_, _, rfl, r.getD (hp i (.head _)), RepL.picks r p fun j hj => hp j (.tail _ hj)⟩
theorem rev_mem {α : Type} {b : Bool} {l : List α} {x : α} : x ∈ katRev b l ↔ x ∈ l := by
  unfold katRev; split <;> simp
theorem rev_perm {α : Type} (b : Bool) (l : List α) : (katRev b l).Perm l := by
  unfold katRev
  split
  · exact List.reverse_perm l
  · exact .refl _
theorem picks_all (ds : List V) : ((List.range ds.length).map fun i => ds.getD i .none) = ds := by
  apply List.ext_getElem
  · simp
  · intro i h1 h2
    simp [h2]
theorem getD_mem {ds : List V} {i : Nat} (h : i < ds.length) : ds.getD i .none ∈ ds := by
  rw [List.getD_eq_getElem?_getD, List.getElem?_eq_getElem h]; exact List.getElem_mem h
theorem sortOut_of {O : KeyOrd} {key : V → O.α} {b : Bool} {xs : List V} {p : Array Nat} (hp : PermN xs.length p) (hs : Srt (fun i => key ((katRev b xs).getD i .none)) p xs.length) :
    SortOut O key b xs (katRev b (p.toList.map fun i => (katRev b xs).getD i .none)) := by
  have hz := kat_len b xs
  have hpl : p.toList.Perm (List.range (katRev b xs).length) := by rw [hz]; exact Array.perm_iff_toList_perm.mp hp
  have hperm : (p.toList.map fun i => (katRev b xs).getD i .none).Perm xs := by
    have := hpl.map fun i => (katRev b xs).getD i V.none
    rw [picks_all] at this
    exact this.trans (rev_perm b xs)
  refine ⟨(rev_perm b _).trans hperm, ?_⟩
  have hpw : (p.toList.map fun i => (katRev b xs).getD i .none).Pairwise fun x y => O.kle (key x) (key y) := by
    rw [List.pairwise_map, List.pairwise_iff_getElem]
    intro i j hi hj hij
    have hi' : i < p.size := by simpa using hi
    have hj' : j < p.size := by simpa using hj
    have e := hs i j (Nat.le_of_lt hij) (by rw [← hp.size]; exact hj')
    unfold kp at e
    have e1 : p.getD i 0 = p.toList[i] := by simp [Array.getD, hi']
    have e2 : p.getD j 0 = p.toList[j] := by simp [Array.getD, hj']
    rw [e1, e2] at e
    exact e
  cases b with
  | false => exact hpw
  | true =>
    show (List.map (fun i => (katRev true xs).getD i V.none) p.toList).reverse.Pairwise _
    rw [List.pairwise_reverse]
    exact hpw

section
variable {B : Bs} {N : Nat} {σ : Sto} {A : Around} {s : Shared} {κ : SortKind} {O : KeyOrd} {key : V → O.α} {xs : List V} {a : Addr} {b : Bool}
theorem mid_ext (h : Heap) (a : Addr) (vs : List Value) : Heap.ExtBut a h (srtMid h a vs) := fun b o hb e => by
  unfold srtMid
  refine Heap.get?_push_of_some _ (Heap.get?_push_of_some _ ?_)
  rw [Heap.get?_update_ne _ _ _ _ hb]; exact e
theorem out_ext (h : Heap) (a : Addr) (vs : List Value) (out : Array Value) : Heap.ExtBut a h (sortedHeap h a vs out) := fun b o hb e => by
  unfold sortedHeap
  rw [Heap.get?_update_ne _ _ _ _ hb]; exact mid_ext h a vs b o hb e
theorem sort_core (R : Room A N) (H : OkS B s σ) (hx : σ a = some (.list xs)) (hl : xs.length < 64) (hc : Cmps B N (σ.set a (.list [])) κ O key xs) {E : Value → Shared → Prop} :
    wpAny (Md B) A (srtTree a b) (fun f s' => ∃ ys, f = .done (.ret .none) ∧ SortOut O key b xs ys ∧ PostS B s σ s' (σ.set a (.list ys))) E s := by
  obtain ⟨vs, ⟨n, ho⟩, rl⟩ := H.cell a _ hx
  have hlen := rl.length
  have ho' : s.heap.get? a = some (seqObj "list" vs.toArray n) := ho
  have ha : a < s.heap.objs.size := Heap.lt_size ho'
  obtain ⟨e1, ho1⟩ : ∃ e1, (s.heap.update a (Obj.mapSeq fun _ => (#[] : Array Value))).get? a = some (seqObj "list" #[] e1) := ⟨_, get?_update_seq ho' fun _ => #[]⟩
  have ho6 : (srtMid s.heap a vs).get? a = some (seqObj "list" #[] e1) := by
    unfold srtMid
    exact Heap.get?_push_of_some _ (Heap.get?_push_of_some _ ho1)
  have P₁ : PostS B s σ { s with heap := srtMid s.heap a vs } (σ.set a (.list [])) := PostS.upd (tk := s.toks) H (mid_ext s.heap a vs) hx (c := .list []) ⟨[], ⟨e1, ho6⟩, rfl⟩ id
  have M₁ := P₁.mono H
  obtain ⟨c1, c2⟩ := hc A _ R P₁.o
  refine srt_wp (k := fun i => key ((katRev b xs).getD i .none)) (κ := κ) ho' (by lia) (fun h2 Q hq => c1 vs (rl.mono M₁) h2 E Q hq) (fun h2 i j hi hj C hC => ?_) fun p hp hs => ?_
  · have r := (rl.mono M₁).rev b
    have hz := kat_len b xs
    refine c2 _ _ _ _ (rev_mem (b := b).mp ?_) (rev_mem (b := b).mp ?_) (r.getD (i := i) (by lia)) (r.getD (i := j) (by lia)) C hC
    · exact getD_mem (by lia)
    · exact getD_mem (by lia)
  · rw [hlen] at hp hs
    refine ⟨_, rfl, sortOut_of hp hs, ?_⟩
    obtain ⟨e2, ho7⟩ : ∃ e2, (sortedHeap s.heap a vs (katRev b (p.toList.map fun i => (katRev b vs).getD i Value.none)).toArray).get? a = some (seqObj "list" (katRev b (p.toList.map fun i => (katRev b vs).getD i Value.none)).toArray e2) := ⟨_, get?_update_seq ho6 fun _ => _⟩
    have hpl : ∀ i ∈ p.toList, i < (katRev b xs).length := fun i hi => by
      rw [kat_len]
      have := (Array.perm_iff_toList_perm.mp hp).mem_iff.mp hi
      simpa using this
    have M₂ : Mono s.heap (sortedHeap s.heap a vs (katRev b (p.toList.map fun i => (katRev b vs).getD i Value.none)).toArray) := fun c o hi e => out_ext _ _ _ _ c o (by rintro rfl; exact H.nt hx e hi) e
    exact PostS.upd (tk := s.toks) H (out_ext s.heap a vs _) hx (c := .list _) ⟨_, ⟨e2, ho7⟩, (((rl.mono M₂).rev b).picks p.toList hpl).rev b⟩ id
/-- l.sort(reverse=True) -/
theorem WC.sort_rev {Q : V → Sto → Prop} (hx : σ a = some (.list xs)) (hl : xs.length < 64) (hc : Cmps B N (σ.set a (.list [])) κ O key xs) (h : ∀ ys, SortOut O key true xs ys → Q .none (σ.set a (.list ys))) :
    WC B (N + 1) (.bi "list.sort") [.ref a] [(Str.ofString "reverse", .bool true)] σ Q := fun A s vf vs kws R H rf rv rk => by
  cases rf
  obtain ⟨v, r, rfl, h1, h2⟩ := rv; cases h1; cases h2
  obtain ⟨v, q, rfl, h1, h2⟩ := rk; cases h1; cases h2
  obtain ⟨us, ⟨n, ho⟩, rl⟩ := H.cell a _ hx
  refine wpAny_call_entry_kw slot_list_sort ⟨_, ho, rfl⟩ entry_list_sort ?_ (args_list_sort_rev _ _)
  rw [srt_t2]
  refine wpAny_mono (sort_core R.in1 H hx hl hc) (fun f s' ⟨ys, e, ho, P⟩ => ⟨_, e, .none, _, P, rfl, h ys ho⟩) fun _ _ e => e
end
end

section
set_option autoImplicit false
set_option maxRecDepth 100000
section
variable {B : Bs} {N : Nat} {σ : Sto} {A : Around} {s : Shared} {κ : SortKind} {O : KeyOrd} {key : V → O.α} {xs : List V} {a : Addr} {b : Bool}

theorem sorted_core {Q : V → Sto → Prop} {kws : List (Str × Value)} (R : Room A (N + 2)) (H : OkS B s σ) (hx : σ a = some (.list xs)) (hl : xs.length < 64)
    (ht : ∀ D, Builtin.«list.sort» ⟨[.ref D], kws⟩ = srtTree D b) (ha1 : ∀ D, argsOk "list.sort" ⟨[.ref D], kws⟩) (ha2 : argsOk "sorted" ⟨[.ref a], kws⟩)
    (hc : ∀ D, σ D = none → Cmps B N (σ.set D (.list [])) κ O key xs) (h : ∀ D ys, σ D = none → SortOut O key b xs ys → Q (.ref D) (σ.set D (.list ys))) :
    wpAny (Md B) A (call (.builtin "sorted") [.ref a] kws) (PC B s σ Q) NoE s := by
  obtain ⟨vs, ⟨n, ho⟩, rl⟩ := H.cell a _ hx
  have hlen := rl.length
  refine call_function_entry_kw kind_sorted plain_sorted entry_sorted ha2 ?_
  unfold Builtin.«sorted»
  refine wpAny_bind (m := checkCount "sorted" 1 1 _) (wpAny_pure ?_)
  refine wpAny_bind (collect_list (vs := vs) ⟨_, ho, rfl, n, rfl⟩ ?_ (by rw [sizeLine_eq]; omega))
  refine wpAny_bind (wpAny_newList ?_ (by rw [sizeLine_eq]; omega))
  have k1 : ∀ c o, s.heap.get? c = some o → ((s.heap.push (seqObj "list" #[] 0)).update s.heap.objs.size (Obj.mapSeq (· ++ vs.toArray))).get? c = some o := fun c o q => by
    have hlt : c < s.heap.objs.size := Heap.lt_size q
    rw [Heap.get?_update_ne _ _ _ _ (Nat.ne_of_lt hlt), Heap.get?_push_ne _ _ _ (Nat.ne_of_lt hlt)]
    exact q
  have P₁ : PostS B s σ { s with heap := (s.heap.push (seqObj "list" #[] 0)).update s.heap.objs.size (Obj.mapSeq (· ++ vs.toArray)) } σ := PostS.keeps (tk := s.toks) H k1 id
  have M₁ := P₁.mono H
  have rl₁ := rl.mono M₁
  have M₂ : Mono ((s.heap.push (seqObj "list" #[] 0)).update s.heap.objs.size (Obj.mapSeq (· ++ vs.toArray))) (((s.heap.push (seqObj "list" #[] 0)).update s.heap.objs.size (Obj.mapSeq (· ++ vs.toArray))).push (seqObj "list" vs.toArray 0)) := .of_keeps fun _ _ e => Heap.get?_push_of_some _ e
  have hD := P₁.o.free
  have P₂ := PostS.new (tk := s.toks) P₁.o (o := seqObj "list" vs.toArray 0) (c := .list xs) ⟨vs, ⟨0, Heap.get?_push_size _ rfl⟩, rl₁.mono M₂⟩ id
  have hoD : (((s.heap.push (seqObj "list" #[] 0)).update s.heap.objs.size (Obj.mapSeq (· ++ vs.toArray))).push (seqObj "list" vs.toArray 0)).get? ((s.heap.push (seqObj "list" #[] 0)).update s.heap.objs.size (Obj.mapSeq (· ++ vs.toArray))).objs.size = some (seqObj "list" vs.toArray 0) := Heap.get?_push_size _ rfl
  refine wpAny_bind (wpAny_holding (wpAny_call_entry_kw slot_list_sort ⟨_, hoD, rfl⟩ entry_list_sort ?_ (ha1 _)))
  rw [ht]
  have R2 : Room A.in1.in1 N := R.in1.in1
  refine wpAny_mono (sort_core (b := b) (O := O) (key := key) (κ := κ) R2 P₂.o (Sto.set_self _ _ _) hl (by rw [Sto.set_set]; exact hc _ hD)) (fun f s' ⟨ys, e, hso, P₃⟩ => ⟨_, e, wpAny_pure ⟨_, rfl, ?_⟩⟩) fun _ _ e => e
  rw [Sto.set_set] at P₃
  exact ⟨.ref _, _, P₁.trans (P₂.trans P₃), rfl, h _ ys hD hso⟩
/-- sorted(l) -/
theorem WC.sorted {Q : V → Sto → Prop} (hx : σ a = some (.list xs)) (hl : xs.length < 64)
    (hc : ∀ D, σ D = none → Cmps B N (σ.set D (.list [])) κ O key xs) (h : ∀ D ys, σ D = none → SortOut O key false xs ys → Q (.ref D) (σ.set D (.list ys))) : WC B (N + 2) (.bi "sorted") [.ref a] [] σ Q := fun A s vf vs kws R H rf rv rk => by
  cases rf; cases rk
  obtain ⟨v, r, rfl, h1, h2⟩ := rv; cases h1; cases h2
  exact sorted_core (b := false) R H hx hl srt_t1 (fun D => args_list_sort _) (args_sorted1 _) hc h
theorem args_ls_kr (a v u : Value) : argsOk "list.sort" ⟨[a], [(Str.ofString "key", v), (Str.ofString "reverse", u)]⟩ := ksk_l2 a v u
/-- sorted(l, key=None, reverse=True) -/
theorem WC.sorted_rev {Q : V → Sto → Prop} (hx : σ a = some (.list xs)) (hl : xs.length < 64)
    (hc : ∀ D, σ D = none → Cmps B N (σ.set D (.list [])) κ O key xs) (h : ∀ D ys, σ D = none → SortOut O key true xs ys → Q (.ref D) (σ.set D (.list ys))) :
    WC B (N + 2) (.bi "sorted") [.ref a] [(Str.ofString "key", .none), (Str.ofString "reverse", .bool true)] σ Q := fun A s vf vs kws R H rf rv rk => by
  cases rf
  obtain ⟨v, r, rfl, h1, h2⟩ := rv; cases h1; cases h2
  obtain ⟨v, q, rfl, h1, v', q', rfl, h3, h4⟩ := rk; cases h1; cases h3; cases h4
  exact sorted_core (b := true) R H hx hl (fun D => srt_t3 D true) (fun D => ksk_l2 _ _ _) (ksk_s2 _ _ _) hc h
end
end

section
set_option autoImplicit false
set_option maxRecDepth 100000
/-! ## orders of keys -/
theorem KO.tri (O : KeyOrd) (a b : O.α) : (O.blt a b = true ∧ O.blt b a = false ∧ a ≠ b) ∨ a = b ∨ (O.blt b a = true ∧ O.blt a b = false ∧ a ≠ b) := by
  cases h1 : O.blt a b with
  | true => exact .inl ⟨rfl, KeyOrd.klt_asymm (O := O) h1, by rintro rfl; rw [O.irrefl] at h1; cases h1⟩
  | false =>
    cases h2 : O.blt b a with
    | true => exact .inr (.inr ⟨rfl, rfl, by rintro rfl; rw [O.irrefl] at h2; cases h2⟩)
    | false => exact .inr (.inl (O.total _ _ h1 h2))
/-- an order from three facts -/
noncomputable abbrev KO.mk (α : Type) (blt : α → α → Bool) (irr : ∀ a, blt a a = false) (tr : ∀ a b c, blt a b = true → blt b c = true → blt a c = true) (tot : ∀ a b, blt a b = false → blt b a = false → a = b) : KeyOrd where
  α := α
  blt := blt
  irrefl := irr
  trans := tr
  negTrans a b c h := by
    cases h1 : blt a b with
    | true => exact .inl rfl
    | false =>
      cases h2 : blt b a with
      | true => exact .inr (tr b a c h2 h)
      | false => obtain rfl := tot a b h1 h2; exact .inr h
  total := tot
noncomputable abbrev strO : KeyOrd := KO.mk Str tlt (fun a => by simpa [tlt] using List.lt_irrefl a.cps.toList) (fun a b c h1 h2 => by simp only [tlt, decide_eq_true_eq] at *; exact List.lt_trans h1 h2)
  (fun a b h1 h2 => by
    simp only [tlt, decide_eq_false_iff_not] at *
    have := List.le_antisymm (List.not_lt.mp h2) (List.not_lt.mp h1)
    cases a; cases b; congr 1
    exact Array.toList_inj.mp this)
noncomputable abbrev intO : KeyOrd := KO.mk Int (fun a b => decide (a < b)) (fun a => by simp) (fun a b c h1 h2 => by simp only [decide_eq_true_eq] at *; lia) (fun a b h1 h2 => by simp only [decide_eq_false_iff_not] at *; lia)
noncomputable def pairLt (O P : KeyOrd) (x y : O.α × P.α) : Bool := O.blt x.1 y.1 || (!O.blt y.1 x.1 && P.blt x.2 y.2)
noncomputable abbrev pairO (O P : KeyOrd) : KeyOrd := KO.mk (O.α × P.α) (pairLt O P) (fun a => by simp [pairLt, O.irrefl, P.irrefl])
  (fun a b c h1 h2 => by
    obtain ⟨a1, a2⟩ := a; obtain ⟨b1, b2⟩ := b; obtain ⟨c1, c2⟩ := c
    simp only [pairLt, Bool.or_eq_true, Bool.and_eq_true, Bool.not_eq_true'] at *
    rcases KO.tri O a1 b1 with ⟨p, p', _⟩ | rfl | ⟨p, p', _⟩
    · rcases KO.tri O b1 c1 with ⟨q, q', _⟩ | rfl | ⟨q, q', _⟩
      · exact .inl (O.trans _ _ _ p q)
      · exact .inl p
      · rw [q, q'] at h2; simp at h2
    · rcases h1 with h1 | ⟨h1, h1'⟩
      · rw [O.irrefl] at h1; cases h1
      · rcases h2 with h2 | ⟨h2, h2'⟩
        · exact .inl h2
        · exact .inr ⟨h2, P.trans _ _ _ h1' h2'⟩
    · rw [p, p'] at h1; simp at h1)
  (fun a b h1 h2 => by
    obtain ⟨a1, a2⟩ := a; obtain ⟨b1, b2⟩ := b
    simp only [pairLt, Bool.or_eq_false_iff] at *
    obtain rfl := O.total _ _ h1.1 h2.1
    have e1 := h1.2; have e2 := h2.2
    simp only [O.irrefl, Bool.not_false, Bool.true_and] at e1 e2
    obtain rfl := P.total _ _ e1 e2
    rfl)
noncomputable def listLt (O : KeyOrd) : List O.α → List O.α → Bool
  | [], [] => false
  | [], _ :: _ => true
  | _ :: _, [] => false
  | x :: xs, y :: ys => O.blt x y || (!O.blt y x && listLt O xs ys)
theorem listLt_irr (O : KeyOrd) : ∀ a, listLt O a a = false
  | [] => rfl
  | x :: xs => by simp [listLt, O.irrefl, listLt_irr O xs]
theorem listLt_trans (O : KeyOrd) : ∀ a b c, listLt O a b = true → listLt O b c = true → listLt O a c = true
  | [], [], c, h1, _ => by cases h1
  | [], _ :: _, [], _, h2 => by cases h2
  | [], _ :: _, _ :: _, _, _ => rfl
  | _ :: _, [], _, h1, _ => by cases h1
  | _ :: _, _ :: _, [], _, h2 => by cases h2
  | a1 :: a2, b1 :: b2, c1 :: c2, h1, h2 => by
    simp only [listLt, Bool.or_eq_true, Bool.and_eq_true, Bool.not_eq_true'] at *
    rcases KO.tri O a1 b1 with ⟨p, p', _⟩ | rfl | ⟨p, p', _⟩
    · rcases KO.tri O b1 c1 with ⟨q, q', _⟩ | rfl | ⟨q, q', _⟩
      · exact .inl (O.trans _ _ _ p q)
      · exact .inl p
      · rw [q, q'] at h2; simp at h2
    · rcases h1 with h1 | ⟨h1, h1'⟩
      · rw [O.irrefl] at h1; cases h1
      · rcases h2 with h2 | ⟨h2, h2'⟩
        · exact .inl h2
        · exact .inr ⟨h2, listLt_trans O _ _ _ h1' h2'⟩
    · rw [p, p'] at h1; simp at h1
theorem listLt_total (O : KeyOrd) : ∀ a b, listLt O a b = false → listLt O b a = false → a = b
  | [], [], _, _ => rfl
  | [], _ :: _, h, _ => by cases h
  | _ :: _, [], _, h => by cases h
  | a1 :: a2, b1 :: b2, h1, h2 => by
    simp only [listLt, Bool.or_eq_false_iff] at *
    obtain rfl := O.total _ _ h1.1 h2.1
    have e1 := h1.2; have e2 := h2.2
    simp only [O.irrefl, Bool.not_false, Bool.true_and] at e1 e2
    rw [listLt_total O _ _ e1 e2]
noncomputable abbrev listO (O : KeyOrd) : KeyOrd := KO.mk (List O.α) (listLt O) (listLt_irr O) (listLt_trans O) (listLt_total O)

/-- first equal, then less -/
theorem lex_beq (O : KeyOrd) {eq : O.α → O.α → Bool} (he : ∀ x y, eq x y = true ↔ x = y) (x y : O.α) (r : Bool) : (if eq x y = true then r else O.blt x y) = (O.blt x y || (!O.blt y x && r)) := by
  rcases KO.tri O x y with ⟨p, p', n⟩ | rfl | ⟨p, p', n⟩
  · rw [if_neg (fun q => n ((he _ _).mp q))]; simp [p]
  · rw [if_pos ((he _ _).mpr rfl)]; simp [O.irrefl]
  · rw [if_neg (fun q => n ((he _ _).mp q))]; simp [p, p']
theorem lexv_list (O : KeyOrd) {eq : O.α → O.α → Bool} (he : ∀ x y, eq x y = true ↔ x = y) : ∀ (xs ys : List O.α) (e l : Nat → Bool), (∀ j x y, xs[j]? = some x → ys[j]? = some y → e j = eq x y ∧ l j = O.blt x y) →
    lexv (lenv .Lt xs.length ys.length) e l 0 (min xs.length ys.length) = listLt O xs ys
  | [], [], e, l, h => rfl
  | [], y :: ys, e, l, h => by show lexv _ e l 0 (min 0 _) = true; rw [Nat.zero_min]; simp [lexv, lenv]
  | x :: xs, [], e, l, h => by show lexv _ e l 0 (min _ 0) = false; rw [Nat.min_zero]; simp [lexv, lenv]
  | x :: xs, y :: ys, e, l, h => by
    have hm : min (x :: xs).length (y :: ys).length = min xs.length ys.length + 1 := by simp only [List.length_cons]; lia
    obtain ⟨h1, h2⟩ := h 0 x y rfl rfl
    rw [hm]
    simp only [lexv, listLt]
    rw [← lex_beq O he, h1, h2, lexv_succ]
    have e1 : lenv .Lt (x :: xs).length (y :: ys).length = lenv .Lt xs.length ys.length := by simp [lenv]
    rw [e1, lexv_list O he xs ys _ _ fun j a b ha hb => h (j + 1) a b (by simpa using ha) (by simpa using hb)]
end

section
open PySem.SeqAt
set_option autoImplicit false
set_option maxRecDepth 100000
/-! ## texts, pairs, rows as data -/
noncomputable def pairV (p : Int × Int) : V := .tup [.int p.1, .int p.2]
noncomputable def pairD (p : Int × Int) : PyData := .tuple [.int p.1, .int p.2]
theorem eqv_pair (p q : Int × Int) : PyData.eqv (pairD p) (pairD q) = (p == q) := by
  obtain ⟨a, b⟩ := p; obtain ⟨c, d⟩ := q
  simp [pairD, PyData.eqv, PyData.eqvAll]
  rfl
theorem eqv_pairs : ∀ (xs ys : List (Int × Int)), PyData.eqvAll (xs.map pairD) (ys.map pairD) = (xs == ys)
  | [], [] => rfl
  | [], _ :: _ => rfl
  | _ :: _, [] => rfl
  | x :: xs, y :: ys => by
    simp only [List.map_cons, PyData.eqvAll, eqv_pair, eqv_pairs xs ys]; rfl
theorem lay_pairs : ∀ (xs : List (Int × Int)), PyData.canLayAll0 (xs.map pairD) = true
  | [] => rfl
  | x :: xs => by simp [pairD, PyData.canLayAll0, PyData.canLay0, lay_pairs xs]
theorem dep_pairs : ∀ (xs : List (Int × Int)), PyData.depthAll (xs.map pairD) ≤ 2
  | [] => by simp [PyData.depthAll]
  | x :: xs => by
    have := dep_pairs xs
    simp only [List.map_cons, pairD, PyData.depthAll, PyData.depth] at *
    lia
section
variable {B : Bs} {N : Nat} {σ : Sto} {A : Around} {s : Shared}
theorem RDL.pairs : ∀ (xs : List (Int × Int)), RDL σ (xs.map pairV) (xs.map pairD)
  | [] => .nil
  | x :: xs => .cons (.tup (.cons (.int _) (.cons (.int _) .nil))) (RDL.pairs xs)
theorem eqAt_rows (O : OkS B s σ) {r q : Addr} {xs ys : List (Int × Int)} (hr : σ r = some (.list (xs.map pairV))) (hq : σ q = some (.list (ys.map pairV))) (hu : A.units + 4 < cLine) : EqAt A s (.ref r) (.ref q) (xs == ys) := by
  obtain ⟨as, h1⟩ := RD.reads O (.lst hr (RDL.pairs xs)) rfl
  obtain ⟨bs, h2⟩ := RD.reads O (.lst hq (RDL.pairs ys)) rfl
  have e := eqAt_reads _ _ A s _ _ as bs h1 h2 (by show PyData.canLayAll0 _ = true; exact lay_pairs xs) (by show PyData.canLayAll0 _ = true; exact lay_pairs ys) (by have := dep_pairs xs; simp only [PyData.depth]; lia)
  have e1 : PyData.eqv (.list (xs.map pairD)) (.list (ys.map pairD)) = (xs == ys) := by simp only [PyData.eqv]; exact eqv_pairs xs ys
  rw [e1] at e
  exact e
theorem eqAt_pair (O : OkS B s σ) {v u : Value} {x y : Int × Int} (hv : Rep s.heap (pairV x) v) (hu' : Rep s.heap (pairV y) u) (hu : A.units + 4 < cLine) : EqAt A s v u (x == y) := by
  obtain ⟨as, h1⟩ := RD.reads O (d := pairV x) (.tup (.cons (.int _) (.cons (.int _) .nil))) hv
  obtain ⟨bs, h2⟩ := RD.reads O (d := pairV y) (.tup (.cons (.int _) (.cons (.int _) .nil))) hu'
  have e := eqAt_reads _ _ A s _ _ as bs h1 h2 (by rfl) (by rfl) (by simp only [PyData.depth, PyData.depthAll]; lia)
  have e1 := eqv_pair x y
  unfold pairD at e1
  rw [e1] at e
  exact e
theorem strs_at {h : Heap} : ∀ {xs : List Str} {vs : List Value}, RepL h (xs.map .str) vs → ∀ j (hj : j < vs.length), ∃ x t, xs[j]? = some x ∧ vs[j] = .str x t
  | [], _, r, j, hj => by cases r; simp at hj
  | x :: xs, vs, r, j, hj => by
    obtain ⟨v, r', rfl, ⟨t, rfl⟩, h2⟩ := r
    cases j with
    | zero => exact ⟨x, t, rfl, rfl⟩
    | succ j =>
      obtain ⟨y, u, e1, e2⟩ := strs_at h2 j (by simpa using hj)
      exact ⟨y, u, by simpa using e1, by simpa using e2⟩
theorem strs_inj {h : Heap} : ∀ {xs ys : List Str} {vs : List Value}, RepL h (xs.map .str) vs → RepL h (ys.map .str) vs → xs = ys
  | [], [], _, _, _ => rfl
  | [], y :: ys, _, r, q => by cases r; obtain ⟨_, _, e, _⟩ := q; cases e
  | x :: xs, [], _, r, q => by cases q; obtain ⟨_, _, e, _⟩ := r; cases e
  | x :: xs, y :: ys, vs, r, q => by
    obtain ⟨v, r', rfl, ⟨t, rfl⟩, h2⟩ := r
    obtain ⟨_, _, e, ⟨u, rfl⟩, h3⟩ := q
    cases e
    rw [strs_inj h2 h3]
theorem all_beq : ∀ (xs ys : List Str), ((List.range (min xs.length ys.length)).all (fun j => xs[j]? == ys[j]?) && xs.length == ys.length) = (xs == ys) := fun xs ys => by
  rw [Bool.eq_iff_iff]
  simp only [Bool.and_eq_true, List.all_eq_true, List.mem_range, beq_iff_eq]
  constructor
  · rintro ⟨h1, h2⟩
    apply List.ext_getElem?
    intro i
    by_cases hi : i < xs.length
    · exact h1 i (by lia)
    · rw [List.getElem?_eq_none (by lia), List.getElem?_eq_none (by lia)]
  · rintro rfl
    exact ⟨fun _ _ => rfl, rfl⟩
theorem eqAt_names {v u : Value} {xs ys : List Str} (hv : Rep s.heap (.tup (xs.map .str)) v) (hu' : Rep s.heap (.tup (ys.map .str)) u) (hu : A.units + 4 < cLine) : EqAt A s v u (xs == ys) := by
  obtain ⟨a, vs, rfl, ht, rl⟩ := hv
  obtain ⟨b, us, rfl, hb, ql⟩ := hu'
  by_cases hab : a = b
  · subst hab
    have e : vs = us := by
      obtain ⟨o, ho, _, n, hd⟩ := ht
      obtain ⟨o', ho', _, n', hd'⟩ := hb
      rw [ho] at ho'; cases ho'
      rw [hd] at hd'
      injection hd' with e1
      simpa using e1
    subst e
    obtain rfl := strs_inj rl ql
    rw [beq_self_eq_true]
    exact EqAt.same _
  · refine EqAt.of_refs hab ?_
    have n1 : vs.toArray.size = xs.length := by have := rl.length; simpa using this
    have n2 : us.toArray.size = ys.length := by have := ql.length; simpa using this
    have := RcAt.tuples (A := A) (s := s) (e := fun j => xs[j]? == ys[j]?) ht hb (by lia) (fun j h1 h2 => by
      obtain ⟨x, t, e1, e2⟩ := strs_at rl j (by simpa using h1)
      obtain ⟨y, w, e3, e4⟩ := strs_at ql j (by simpa using h2)
      have q1 : vs.toArray[j] = .str x t := by simpa using e2
      have q2 : us.toArray[j] = .str y w := by simpa using e4
      rw [q1, q2]
      show EqAt _ _ _ _ (xs[j]? == ys[j]?)
      rw [e1, e3]
      exact EqAt.strs)
    rw [n1, n2, all_beq] at this
    exact this
end
end

section
open PySem.SeqAt
open MeetsSeq MeetsSeq2 MeetsSeq3 SeqRoads2
set_option autoImplicit false
set_option maxRecDepth 100000
section
variable {B : Bs} {N : Nat} {σ : Sto} {A : Around} {s : Shared}
theorem opAt_tuple {a b : Addr} {items items2 : Array Value} (ht : s.heap.IsTuple a items) (hb : s.heap.IsTuple b items2) {e lt : Nat → Bool}
    (he : ∀ j (h1 : j < items.size) (h2 : j < items2.size), EqAt A.in1 s items[j] items2[j] (e j)) (hl : ∀ j (h1 : j < items.size) (h2 : j < items2.size), OpAt .Lt A.in1 s items[j] items2[j] (lt j)) (hu : A.units < cLine) :
    OpAt .Lt A s (.ref a) (.ref b) (lexv (lenv .Lt items.size items2.size) e lt 0 (min items.size items2.size)) := fun prog w E Q h => by
  obtain ⟨⟨cls, dd, data, sl⟩, ho, hc, n, hd⟩ := id ht
  obtain ⟨⟨cls2, dd2, data2, sl2⟩, ho2, hc2, n2, hd2⟩ := id hb
  simp only at hc hd hc2 hd2
  subst hc hd hc2 hd2
  exact richCompare_meets_room (op := .Lt) ⟨_, ho, rfl⟩ ⟨_, ho2, rfl⟩ F.slot_tuple_lt F.entry_tuple_lt (F.args_tuple_lt_2 _ _) (tuple_ltAt a b _ _ n n2 dd dd2 sl sl2 e lt)
      ⟨ho, ho2, he, hl, show Value.bool _ ≠ Value.notImplemented ∧ _ from ⟨(fun x => nomatch x), h⟩⟩ hu
theorem oneLt_lists {l b : Addr} {items items2 : Array Value} (ht : s.heap.IsList l items) (hb : s.heap.IsList b items2) {e lt : Nat → Bool}
    (he : ∀ j (h1 : j < items.size) (h2 : j < items2.size), EqAt A.in1 s items[j] items2[j] (e j)) (hl : ∀ j (h1 : j < items.size) (h2 : j < items2.size), OpAt .Lt A.in1 s items[j] items2[j] (lt j)) (hu : A.units < cLine)
    {prog : Program} {w : World} {E : Value → Shared → Prop} {Q : Bool → Shared → Prop} (h : Q (lexv (lenv .Lt items.size items2.size) e lt 0 (min items.size items2.size)) s) : wpAny (model prog w) A (oneLt' true (.ref l) (.ref b)) Q E s := by
  obtain ⟨⟨cls, dd, data, sl⟩, ho, hc, n, hd⟩ := id ht
  obtain ⟨⟨cls2, dd2, data2, sl2⟩, ho2, hc2, n2, hd2⟩ := id hb
  simp only at hc hd hc2 hd2
  subst hc hd hc2 hd2
  rw [oneLt'_eq]
  simp only [if_true]
  refine wpAny_bind (wpAny_cRoomFor hu ?_)
  refine wpAny_bind (wpAny_callSpecialIfBound?_slot (name := (cmpInfo .Lt).2.1) (id := "list.__lt__") ⟨_, ho, rfl⟩ F.slot_list_lt (call_meets F.slot_list_lt ⟨_, ho, rfl⟩ F.entry_list_lt (F.args_list_lt_2 _ _) (list_ltAt l b _ _ n n2 dd dd2 sl sl2 e lt) ⟨ho, ho2, he, hl, ?_⟩))
  exact wpAny_truthy_bool h

theorem opAt_pair {v u : Value} {x y : Int × Int} (hv : Rep s.heap (pairV x) v) (hu' : Rep s.heap (pairV y) u) (hu : A.units < cLine) : OpAt .Lt A s v u ((pairO intO intO).blt x y) := by
  obtain ⟨x1, x2⟩ := x; obtain ⟨y1, y2⟩ := y
  obtain ⟨a, vs, rfl, ht, v1, q1, rfl, ⟨t1, rfl⟩, v2, q2, rfl, ⟨t2, rfl⟩, g1⟩ := hv; cases g1
  obtain ⟨b, us, rfl, hb, u1, p1, rfl, ⟨t3, rfl⟩, u2, p2, rfl, ⟨t4, rfl⟩, g2⟩ := hu'; cases g2
  have := opAt_tuple (A := A) ht hb (e := fun k => if k = 0 then x1 == y1 else x2 == y2) (lt := fun k => if k = 0 then decide (x1 < y1) else decide (x2 < y2)) (fun k h1 h2 => by
    have : k < 2 := h1
    match k, this with
    | 0, _ => exact EqAt.ints
    | 1, _ => exact EqAt.ints) (fun k h1 h2 => by
    have : k < 2 := h1
    match k, this with
    | 0, _ => exact OpAt.lt_int
    | 1, _ => exact OpAt.lt_int) hu
  have e : lexv (lenv .Lt 2 2) (fun k => if k = 0 then x1 == y1 else x2 == y2) (fun k => if k = 0 then decide (x1 < y1) else decide (x2 < y2)) 0 (min 2 2) = (pairO intO intO).blt (x1, x2) (y1, y2) := by
    show lexv false _ _ 0 2 = pairLt intO intO (x1, x2) (y1, y2)
    simp only [lexv, pairLt]
    by_cases q : x1 = y1
    · subst q
      by_cases q2 : x2 = y2
      · subst q2; simp [intO, KO.mk]
      · simp [intO, KO.mk, q2]
    · have : x1 < y1 ∨ y1 < x1 := by lia
      rcases this with h | h
      · simp [intO, KO.mk, q, h]
      · have h' : ¬ x1 < y1 := by lia
        simp [intO, KO.mk, q, h, h']
  rw [← e]
  exact this
theorem pairs_at {h : Heap} : ∀ {xs : List (Int × Int)} {vs : List Value}, RepL h (xs.map pairV) vs → ∀ j (hj : j < vs.length), ∃ x, xs[j]? = some x ∧ Rep h (pairV x) vs[j]
  | [], _, r, j, hj => by cases r; simp at hj
  | x :: xs, vs, r, j, hj => by
    obtain ⟨v, r', rfl, h1, h2⟩ := r
    cases j with
    | zero => exact ⟨x, rfl, h1⟩
    | succ j =>
      obtain ⟨y, e1, e2⟩ := pairs_at h2 j (by simpa using hj)
      exact ⟨y, by simpa using e1, by simpa using e2⟩
noncomputable abbrev rowO : KeyOrd := listO (pairO intO intO)
noncomputable abbrev namesO : KeyOrd := listO strO
theorem oneLt_rows (O : OkS B s σ) {r q : Addr} {xs ys : List (Int × Int)} (hr : σ r = some (.list (xs.map pairV))) (hq : σ q = some (.list (ys.map pairV))) (hu : A.units + 6 < cLine)
    {prog : Program} {w : World} {E : Value → Shared → Prop} {Q : Bool → Shared → Prop} (h : Q (rowO.blt xs ys) s) : wpAny (model prog w) A (oneLt' true (.ref r) (.ref q)) Q E s := by
  obtain ⟨vs, ⟨n, ho⟩, rl⟩ := O.cell r _ hr
  obtain ⟨us, ⟨m, hp⟩, ql⟩ := O.cell q _ hq
  have n1 : vs.toArray.size = xs.length := by have := rl.length; simpa using this
  have n2 : us.toArray.size = ys.length := by have := ql.length; simpa using this
  have hu1 : A.in1.units + 4 < cLine := by show A.units + 1 + 4 < _; lia
  have e := lexv_list (pairO intO intO) (eq := fun x y : Int × Int => x == y) (fun x y => beq_iff_eq) xs ys (fun j => (xs[j]?.getD (0, 0)) == (ys[j]?.getD (0, 0))) (fun j => (pairO intO intO).blt (xs[j]?.getD (0, 0)) (ys[j]?.getD (0, 0))) (fun j x y h1 h2 => by rw [h1, h2]; exact ⟨rfl, rfl⟩)
  refine oneLt_lists (e := fun j => (xs[j]?.getD (0, 0)) == (ys[j]?.getD (0, 0))) (lt := fun j => (pairO intO intO).blt (xs[j]?.getD (0, 0)) (ys[j]?.getD (0, 0))) ⟨_, ho, rfl, n, rfl⟩ ⟨_, hp, rfl, m, rfl⟩ (fun j h1 h2 => ?_) (fun j h1 h2 => ?_) (by lia) ?_
  · obtain ⟨x, e1, e2⟩ := pairs_at rl j (by simpa using h1)
    obtain ⟨y, e3, e4⟩ := pairs_at ql j (by simpa using h2)
    show EqAt _ _ _ _ ((xs[j]?.getD (0, 0)) == (ys[j]?.getD (0, 0)))
    rw [e1, e3]
    exact eqAt_pair O (by simpa using e2) (by simpa using e4) hu1
  · obtain ⟨x, e1, e2⟩ := pairs_at rl j (by simpa using h1)
    obtain ⟨y, e3, e4⟩ := pairs_at ql j (by simpa using h2)
    show OpAt _ _ _ _ _ ((pairO intO intO).blt (xs[j]?.getD (0, 0)) (ys[j]?.getD (0, 0)))
    rw [e1, e3]
    exact opAt_pair (by simpa using e2) (by simpa using e4) (by lia)
  · rw [n1, n2, e]; exact h
theorem opAt_names {v u : Value} {xs ys : List Str} (hv : Rep s.heap (.tup (xs.map .str)) v) (hu' : Rep s.heap (.tup (ys.map .str)) u) (hu : A.units < cLine) : OpAt .Lt A s v u (namesO.blt xs ys) := by
  obtain ⟨a, vs, rfl, ht, rl⟩ := hv
  obtain ⟨b, us, rfl, hb, ql⟩ := hu'
  have n1 : vs.toArray.size = xs.length := by have := rl.length; simpa using this
  have n2 : us.toArray.size = ys.length := by have := ql.length; simpa using this
  have e := lexv_list strO (eq := fun x y : Str => x == y) (fun x y => beq_iff_eq) xs ys (fun j => (xs[j]?.getD ⟨#[]⟩) == (ys[j]?.getD ⟨#[]⟩)) (fun j => tlt (xs[j]?.getD ⟨#[]⟩) (ys[j]?.getD ⟨#[]⟩)) (fun j x y h1 h2 => by rw [h1, h2]; exact ⟨rfl, rfl⟩)
  have := opAt_tuple (A := A) ht hb (e := fun j => (xs[j]?.getD ⟨#[]⟩) == (ys[j]?.getD ⟨#[]⟩)) (lt := fun j => tlt (xs[j]?.getD ⟨#[]⟩) (ys[j]?.getD ⟨#[]⟩)) (fun j h1 h2 => by
      obtain ⟨x, t, e1, e2⟩ := strs_at rl j (by simpa using h1)
      obtain ⟨y, w, e3, e4⟩ := strs_at ql j (by simpa using h2)
      have q1 : vs.toArray[j] = .str x t := by simpa using e2
      have q2 : us.toArray[j] = .str y w := by simpa using e4
      rw [q1, q2]
      show EqAt _ _ _ _ ((xs[j]?.getD ⟨#[]⟩) == (ys[j]?.getD ⟨#[]⟩))
      rw [e1, e3]
      exact EqAt.strs) (fun j h1 h2 => by
      obtain ⟨x, t, e1, e2⟩ := strs_at rl j (by simpa using h1)
      obtain ⟨y, w, e3, e4⟩ := strs_at ql j (by simpa using h2)
      have q1 : vs.toArray[j] = .str x t := by simpa using e2
      have q2 : us.toArray[j] = .str y w := by simpa using e4
      rw [q1, q2]
      show OpAt _ _ _ _ _ (tlt (xs[j]?.getD ⟨#[]⟩) (ys[j]?.getD ⟨#[]⟩))
      rw [e1, e3]
      exact OpAt.lt_str) hu
  rw [n1, n2, e] at this
  exact this
end
end

section
open PySem.SeqAt
set_option autoImplicit false
set_option maxRecDepth 100000
section
variable {B : Bs} {N : Nat} {σ : Sto} {A : Around} {s : Shared}
theorem RepL.mem {h : Heap} : ∀ {ds : List V} {vs : List Value}, RepL h ds vs → ∀ v ∈ vs, ∃ d ∈ ds, Rep h d v
  | [], _, r, v, hv => by cases r; cases hv
  | d :: ds, vs, r, v, hv => by
    obtain ⟨u, r', rfl, h1, h2⟩ := r
    rcases List.mem_cons.mp hv with rfl | hv
    · exact ⟨d, .head _, h1⟩
    · obtain ⟨e, he, hr⟩ := RepL.mem h2 v hv
      exact ⟨e, .tail _ he, hr⟩
noncomputable def strK : V → Str
  | .str x => x
  | _ => ⟨#[]⟩
theorem Cmps.strs {xs : List V} (hx : ∀ x ∈ xs, ∃ t, x = .str t) : Cmps B N σ oneType' strO strK xs := fun A s R O => by
  refine ⟨fun vs rl h2 E Q hq => kas_kind (T := .type "str") h2 (fun v hv => ?_) rfl rfl hq, fun x y v u hx' hy' hv hu C hC => ?_⟩
  · obtain ⟨d, hd, hr⟩ := rl.mem v hv
    obtain ⟨t, rfl⟩ := hx d hd
    obtain ⟨k, rfl⟩ := hr
    exact Looks.of_pure rfl
  · obtain ⟨t, rfl⟩ := hx x hx'
    obtain ⟨t', rfl⟩ := hx y hy'
    obtain ⟨k, rfl⟩ := hv
    obtain ⟨k', rfl⟩ := hu
    exact kas_lt_str hC

theorem katTups_of {h : Heap} {T : V → Prop} : ∀ {ds : List V} {vs : List Value}, RepL h ds vs → (∀ x ∈ ds, ∃ d r, x = .tup (d :: r) ∧ T d) → ∃ fs, KatTups h vs fs ∧ fs.length = vs.length ∧ ∀ f ∈ fs, ∃ d, T d ∧ Rep h d f
  | [], _, r, _ => by cases r; exact ⟨[], trivial, rfl, fun _ h => nomatch h⟩
  | x :: ds, vs, r, hd => by
    obtain ⟨v, r', rfl, h1, h2⟩ := r
    obtain ⟨d, q, rfl, hT⟩ := hd x (.head _)
    obtain ⟨a, us, rfl, ⟨o, ho, hc, n, hdt⟩, f, us', rfl, hf, _⟩ := h1
    obtain ⟨fs, k1, k2, k3⟩ := katTups_of h2 fun y hy => hd y (.tail _ hy)
    refine ⟨f :: fs, KatTups.cons ho hc hdt rfl k1, by simp [k2], fun g hg => ?_⟩
    rcases List.mem_cons.mp hg with rfl | hg
    · exact ⟨d, hT, hf⟩
    · exact k3 g hg

/-- two items, compared one after the other -/
theorem lex2 {prog : Program} {w : World} {p1 q1 p2 q2 : Value} {b1 c1 b2 c2 : Bool} {Q : Bool → Shared → Prop} (e1 : EqAt A s p1 q1 b1) (l1 : ∀ (E : Value → Shared → Prop) (Q : Bool → Shared → Prop), Q c1 s → wpAny (model prog w) A (oneLt' true p1 q1) Q E s)
    (e2 : EqAt A s p2 q2 b2) (l2 : OpAt .Lt A s p2 q2 c2) (h : Q (if b1 = true then (if b2 = true then false else c2) else c1) s) : KatLex prog w A true false Q [(p1, q1), (p2, q2)] 0 s := by
  refine kat_cons (e1 prog w _ _ ?_)
  cases b1 with
  | false => exact kat_no (l1 _ _ h)
  | true =>
    refine kat_yes (kat_cons (e2 prog w _ _ ?_))
    cases b2 with
    | true => exact kat_yes (kat_nil h)
    | false => exact kat_no (kat_one _ _ (l2 prog w _ _ h))

noncomputable def pairK : V → Str × Int
  | .tup [.str x, .int i] => (x, i)
  | _ => (⟨#[]⟩, 0)
theorem Cmps.pairs {xs : List V} (hx : ∀ x ∈ xs, ∃ t i, x = .tup [.str t, .int i]) : Cmps B N σ (tuples' true) (pairO strO intO) pairK xs := fun A s R O => by
  refine ⟨fun vs rl h2 E Q hq => ?_, fun x y v u hx' hy' hv hu C hC => ?_⟩
  · obtain ⟨fs, k1, k2, k3⟩ := katTups_of (T := fun d => ∃ t, d = .str t) rl fun x hx' => by obtain ⟨t, i, rfl⟩ := hx x hx'; exact ⟨_, _, rfl, t, rfl⟩
    refine kat_kind (T := .type "str") k1 (by lia) (fun f hf => ?_) rfl hq
    obtain ⟨d, ⟨t, rfl⟩, k, rfl⟩ := k3 f hf
    exact Looks.of_pure rfl
  · obtain ⟨x1, x2, rfl⟩ := hx x hx'
    obtain ⟨y1, y2, rfl⟩ := hx y hy'
    obtain ⟨a, vs, rfl, ⟨o, ho, _, n, hd⟩, v1, q1, rfl, ⟨t1, rfl⟩, v2, q2, rfl, ⟨t2, rfl⟩, g1⟩ := hv; cases g1
    obtain ⟨b, us, rfl, ⟨o', ho', _, n', hd'⟩, u1, p1, rfl, ⟨t3, rfl⟩, u2, p2, rfl, ⟨t4, rfl⟩, g2⟩ := hu; cases g2
    refine kat_lt ho hd ho' hd' ?_
    refine lex2 EqAt.strs (c1 := tlt x1 y1) (fun E Q h => oneLt_str h) EqAt.ints OpAt.lt_int ?_
    have e : (if (x1 == y1) = true then (if (x2 == y2) = true then false else decide (x2 < y2)) else tlt x1 y1) = (pairO strO intO).blt (x1, x2) (y1, y2) := by
      rw [lex_beq strO (eq := fun x y : Str => x == y) (fun x y => beq_iff_eq)]
      show _ = (tlt x1 y1 || (!tlt y1 x1 && decide (x2 < y2)))
      by_cases q : x2 = y2
      · subst q; simp
      · rw [if_neg (by simpa using q)]
    rw [e]
    exact hC

noncomputable abbrev placeO : KeyOrd := pairO rowO namesO
theorem Cmps.places {xs : List V} {key : V → List (Int × Int) × List Str} (hN : 1 ≤ N) (hx : ∀ x ∈ xs, ∃ r row names, x = .tup [.ref r, .tup (names.map .str)] ∧ σ r = some (.list (row.map pairV)) ∧ key x = (row, names)) : Cmps B N σ (tuples' true) placeO key xs := fun A s R O => by
  have hu : A.units + 6 < cLine := by have := R.2.2; lia
  refine ⟨fun vs rl h2 E Q hq => ?_, fun x y v u hx' hy' hv hu C hC => ?_⟩
  · obtain ⟨fs, k1, k2, k3⟩ := katTups_of (T := fun d => ∃ r row, d = .ref r ∧ σ r = some (.list row)) rl fun x hx' => by obtain ⟨r, row, names, rfl, h1, _⟩ := hx x hx'; exact ⟨_, _, rfl, r, _, rfl, h1⟩
    refine kat_kind (T := .type "list") k1 (by lia) (fun f hf => ?_) rfl hq
    obtain ⟨d, ⟨r, row, rfl, hr⟩, hf'⟩ := k3 f hf
    cases hf'
    obtain ⟨us, ⟨n, ho⟩, _⟩ := O.cell r _ hr
    exact (Looks.ld ho).andThen .now
  · obtain ⟨r, row, names, rfl, h1, h2⟩ := hx x hx'
    obtain ⟨r', row', names', rfl, h1', h2'⟩ := hx y hy'
    obtain ⟨a, vs, rfl, ⟨o, ho, _, n, hd⟩, v1, q1, rfl, g0, v2, q2, rfl, g1, g2⟩ := hv; cases g2; cases g0
    obtain ⟨b, us, rfl, ⟨o', ho', _, n', hd'⟩, u1, p1, rfl, k0, u2, p2, rfl, k1, k2⟩ := hu; cases k2; cases k0
    refine kat_lt ho hd ho' hd' ?_
    refine lex2 (eqAt_rows O h1 h1' (by lia)) (c1 := rowO.blt row row') (fun E Q h => oneLt_rows O h1 h1' (by lia) h) (eqAt_names g1 k1 (by lia)) (opAt_names g1 k1 (by lia)) ?_
    have e : (if (row == row') = true then (if (names == names') = true then false else namesO.blt names names') else rowO.blt row row') = placeO.blt (row, names) (row', names') := by
      rw [lex_beq rowO (eq := fun x y : List (Int × Int) => x == y) (fun x y => beq_iff_eq)]
      show _ = (rowO.blt row row' || (!rowO.blt row' row && namesO.blt names names'))
      by_cases q : names = names'
      · subst q; simp [listLt_irr]
      · rw [if_neg (by simpa using q)]
    rw [e]
    rw [h2, h2'] at hC
    exact hC
end
end

section
set_option autoImplicit false
set_option maxRecDepth 100000
/-! ## the base: what lies in the heap that the law's call starts from -/
/-- the row's statements, the functions that they define -/
noncomputable def pwS (i : Nat) : Stmt := PySem.Challenge.pw_ik0216_01.main.body.getD i (.Pass ⟨0, 0, 0, 0⟩)
noncomputable def fnOf (st : Stmt) (d : Value) : FuncData := match st with
  | .FunctionDef name args body _ _ _ scope _ _ _ => { name := name, qualname := name, params := args, body := .stmts body, scope := scope, globals := mainGlobals, closure := [], defaults := d, kwdefaults := .none, builtins := builtinsNs }
  | _ => default
/-- where the functions lie; which statement defines them -/
noncomputable def fnTab : List (Nat × Nat) := [(35, 3), (42, 4), (49, 5), (56, 6), (63, 7), (136, 16), (150, 20), (157, 21), (164, 22), (169, 23), (176, 25), (183, 26), (190, 27), (197, 28), (204, 29), (210, 30), (217, 32), (224, 33), (231, 34), (238, 35), (243, 36), (250, 37), (255, 38), (262, 39), (267, 40)]
noncomputable def fnAt (n : Nat) : FuncData := fnOf (pwS ((fnTab.lookup n).getD 0)) (if n = 210 then .ref 205 else .none)
noncomputable def bodyAt (n : Nat) : List Stmt := match (fnAt n).body with | .stmts b => b | _ => []
noncomputable def gTab : List (Str × Addr) := [("_escape_cdata", 35), ("_escape_attrib", 42), ("_escape_attrib_html", 49), ("_escape_cdata_c14n", 56), ("_escape_attrib_c14n", 63), ("fspath", 136), ("_get_sep", 150), ("join", 157), ("dirname", 164), ("commonpath", 169), ("heappop", 176), ("heapreplace", 183), ("heapify", 190), ("_siftdown", 197), ("_siftup", 204), ("nlargest", 210),
  ("_law_written", 217), ("_law_table", 224), ("_law_paths", 231), ("_law_laid", 238), ("_law_told", 243), ("_law_place", 250), ("_law_spelled", 255), ("_law_front", 262), ("_law_due", 267)]
noncomputable def bTab : List Str := ["type", "issubclass", "str", "bytes", "isinstance", "tuple", "map", "min", "max", "enumerate", "len", "reversed", "range", "iter", "sorted", "zip", "ord", "sum"]
structure Base (B : Bs) : Prop where
  fn : ∀ p ∈ fnTab, ∃ doc pm an cd ct, B.h₀.get? p.1 = some ⟨.type "function", none, .func { fnAt p.1 with doc := doc, pyModule := pm, annotations := an, code := cd, closureTuple := ct }, #[]⟩ ∧ B.h₀.CodeRec cd (fnAt p.1).qualname
  dflt : ∃ o n, B.h₀.get? 205 = some o ∧ o.data = .seq #[.none] n
  g : ∃ mg, B.h₀.Ns mainGlobals mg ∧ (∀ p ∈ gTab, mg p.1 = some (.ref p.2)) ∧ ∀ x ∈ bTab, mg x = none
  b : ∃ mb, B.h₀.Ns builtinsNs mb ∧ ∀ x : Str, x ≠ "__name__" → mb x = bootBuiltins x
  lim : B.h₀.NoLimit

theorem lookup_in {α β : Type} [BEq α] [LawfulBEq α] {x : α} {b : β} : ∀ {l : List (α × β)}, l.lookup x = some b → (x, b) ∈ l
  | [], h => by cases h
  | (a, c) :: l, h => by
    rw [List.lookup_cons] at h
    cases q : x == a with
    | true => rw [q] at h; cases h; rw [beq_iff_eq.mp q]; simp
    | false => rw [q] at h; exact List.mem_cons_of_mem _ (lookup_in h)

/-- a function of the program lies at f -/
structure FnAt (f : Nat) : Prop where
  at_ : ∃ i, fnTab.lookup f = some i
  body : (fnAt f).body = .stmts (bodyAt f)
  glob : (fnAt f).globals = mainGlobals
  blt : (fnAt f).builtins = builtinsNs
  clo : (fnAt f).closure = []
  co : (fnAt f).scope.isCoroutine = false
  gen : (fnAt f).scope.isGenerator = false
  fn : (fnAt f).scope.kind = .function
theorem Base.def_ {B : Bs} (H : Base B) {f : Nat} (D : FnAt f) : DefOk B f (fnAt f) (bodyAt f) where
  at_ := by
    obtain ⟨i, hi⟩ := D.at_
    obtain ⟨doc, pm, an, cd, ct, h1, h2⟩ := H.fn _ (lookup_in hi)
    exact ⟨_, doc, pm, an, cd, ct, h1, rfl, h2⟩
  lim := H.lim
  body := D.body
  glob := D.glob
  blt := D.blt
  clo := D.clo
  co := D.co
  gen := D.gen
  fn := D.fn
theorem fn35 : FnAt 35 := ⟨⟨_, by rfl⟩, by rfl, by rfl, by rfl, by rfl, by rfl, by rfl, by rfl⟩
theorem fn210 : FnAt 210 := ⟨⟨_, by rfl⟩, by rfl, by rfl, by rfl, by rfl, by rfl, by rfl, by rfl⟩
theorem fn157 : FnAt 157 := ⟨⟨_, by rfl⟩, by rfl, by rfl, by rfl, by rfl, by rfl, by rfl, by rfl⟩

section
variable {B : Bs} {sc : Sc} {N : Nat} {ρ : Loc} {σ : Sto}
/-- a function of the program's own -/
theorem WE.fn (H : Base B) {x : Str} {pos : Pos} {a : Addr} {Q : V → Sto → Prop} (hk : sc.scope.names.lookup x = some .globalImplicit) (e : gTab.lookup x = some a) (hb : (x == ("__debug__" : Str)) = false) (h : Q (.ref a) σ) : WE B sc N (.Name x pos) ρ σ Q := by
  obtain ⟨mg, hg, h1, _⟩ := H.g
  exact WE.glob (d := .ref a) hk hg (h1 _ (lookup_in e)) (fun _ => rfl) h hb
/-- a builtin -/
theorem WE.bl (H : Base B) {x : Str} {pos : Pos} {d : V} {v : Value} {Q : V → Sto → Prop} (hk : sc.scope.names.lookup x = some .globalImplicit) (e : bTab.contains x = true) (he : bootBuiltins x = some v) (hn : x ≠ "__name__") (hr : ∀ h, Rep h d v) (h : Q d σ)
    (hb : (x == ("__debug__" : Str)) = false) : WE B sc N (.Name x pos) ρ σ Q := by
  obtain ⟨mg, hg, _, h2⟩ := H.g
  obtain ⟨mb, hb1, hb2⟩ := H.b
  exact WE.blt hk hg (h2 x (by simpa using e)) hb1 ((hb2 x hn).trans he) hr h hb
theorem WE.bi (H : Base B) {x : Str} {pos : Pos} {n : String} {Q : V → Sto → Prop} (hk : sc.scope.names.lookup x = some .globalImplicit) (e : bTab.contains x = true) (he : bootBuiltins x = some (.builtin n)) (hn : x ≠ "__name__") (hb : (x == ("__debug__" : Str)) = false) (h : Q (.bi n) σ) :
    WE B sc N (.Name x pos) ρ σ Q := WE.bl (d := .bi n) (v := .builtin n) H hk e he hn (fun _ => rfl) h hb
theorem WE.ty (H : Base B) {x : Str} {pos : Pos} {n : String} {Q : V → Sto → Prop} (hk : sc.scope.names.lookup x = some .globalImplicit) (e : bTab.contains x = true) (he : bootBuiltins x = some (.type n)) (hn : x ≠ "__name__") (hb : (x == ("__debug__" : Str)) = false) (h : Q (.ty n) σ) :
    WE B sc N (.Name x pos) ρ σ Q := WE.bl (d := .ty n) (v := .type n) H hk e he hn (fun _ => rfl) h hb
theorem Base.cal {B : Bs} (H : Base B) {f : Nat} (D : FnAt f) : Cal B (.ref f) := (H.def_ D).cal
end
/-! ## the same rules, what is owed at a turn's end a variable -/
section
variable {B : Bs} {sc : Sc} {N : Nat} {ρ : Loc} {σ : Sto}
theorem oneN (n : Nat) : 1 ≤ n + 1 := Nat.le_add_left 1 n
theorem roomN {a b : Nat} (N : Nat) (h : Nat.ble a b = true) : N + a ≤ N + b := Nat.add_le_add_left (Nat.le_of_ble_eq_true h) N
theorem szl {n : Nat} (h : n ≤ 1000) : n ≤ sizeLine := by rw [sizeLine_eq]; lia
theorem szm {α β : Type} {xs : List α} {f : α → β} (h : xs.length ≤ 1000) : (xs.map f).length ≤ sizeLine := by rw [List.length_map]; exact szl h
theorem szm' {α β : Type} {xs : List α} {f : α → β} (h : xs.length ≤ 1000) : (xs.map f).length ≤ 1000 := by rw [List.length_map]; exact h
theorem le63 {n : Nat} (h : n < 64) : n ≤ 1000 := by lia
theorem WX.monoT {st : Stmt} {P Q : Fl → Loc → Sto → Prop} (h : ∀ Pt : Fl → Loc → Sto → Prop, (∀ f ρ' σ', P f ρ' σ' → Pt f ρ' σ') → WX B sc N st ρ σ Pt) (k : ∀ f ρ' σ', P f ρ' σ' → Q f ρ' σ') : WX B sc N st ρ σ Q := h Q k
theorem WS.op {st : List Stmt} {Q : Fl → Loc → Sto → Prop} (h : ∀ Pt : Fl → Loc → Sto → Prop, (∀ f ρ' σ', Q f ρ' σ' → Pt f ρ' σ') → WS B sc N st ρ σ Pt) : WS B sc N st ρ σ Q := h Q fun _ _ _ q => q
theorem WE.op {e : Expr} {Q : V → Sto → Prop} (h : ∀ Pt : V → Sto → Prop, (∀ d σ', Q d σ' → Pt d σ') → WE B sc N e ρ σ Pt) : WE B sc N e ρ σ Q := h Q fun _ _ q => q
theorem WL.op {es : List Expr} {Q : List V → Sto → Prop} (h : ∀ Pt : List V → Sto → Prop, (∀ d σ', Q d σ' → Pt d σ') → WL B sc N es ρ σ Pt) : WL B sc N es ρ σ Q := h Q fun _ _ q => q
theorem WIt.mono {tgt iter : Expr} {K K' : Src → Sto → Prop} (h : WIt B sc N tgt iter ρ σ K) (k : ∀ S σ', K S σ' → K' S σ') : WIt B sc N tgt iter ρ σ K' := .mk fun A F s R X O =>
  wpAny_mono (h.run A F s R X O) (fun v s₁ h₁ => wpAny_mono h₁ (fun it s₂ hp => hp.k fun S σ₁ fp St T P hf st q => ⟨S, σ₁, fp, St, T, P, hf, st, k _ _ q⟩) fun _ _ f => f) fun _ _ f => f
theorem WX.forT {target iter : Expr} {body : List Stmt} {pos : Pos} {Q : Fl → Loc → Sto → Prop}
    (h : WIt B sc N target iter ρ σ fun S σ₁ => ∃ I : Nat → Loc → Sto → Prop, I 0 ρ σ₁ ∧ (∀ k ρ' σ', I k ρ' σ' → S.G k σ') ∧
      (∀ k ρ' σ' (Qt : Fl → Loc → Sto → Prop), k < S.n → I k ρ' σ' → (∀ ρ₃ σ₃, I (k + 1) ρ₃ σ₃ → Qt .next ρ₃ σ₃ ∧ Qt .cont ρ₃ σ₃) → (∀ ρ₃ σ₃, Q .next ρ₃ σ₃ → Qt .brk ρ₃ σ₃) → (∀ d ρ₃ σ₃, Q (.ret d) ρ₃ σ₃ → Qt (.ret d) ρ₃ σ₃) →
        WA B sc N target (S.item k) ρ' (S.nx k σ') fun ρ₂ σ₂ => WS B sc N body ρ₂ σ₂ Qt) ∧ (∀ ρ' σ', I S.n ρ' σ' → Q .next ρ' (S.dn σ')))
    (hN : 1 ≤ N) (hs : ∀ env x, foldedSetIterable iter env x = pure x) : WX B sc N (.For target iter body [] pos) ρ σ Q :=
  WX.for_ (h.mono fun S σ₁ q => q.elim fun I q => u4 q fun i0 iG turn fin => ⟨I, i0, iG, fun k ρ' σ' hk i => turn k ρ' σ' _ hk i (fun _ _ q => ⟨q, q⟩) (fun _ _ q => q) (fun _ _ _ q => q), fin⟩) hN hs
theorem WX.whileT {t : Expr} {body : List Stmt} {pos : Pos} {Q : Fl → Loc → Sto → Prop} (I : Nat → Loc → Sto → Prop) (n : Nat) (h0 : I n ρ σ)
    (turn : ∀ n ρ σ (Qt : Fl → Loc → Sto → Prop), I n ρ σ → (∀ m ρ' σ', m < n → I m ρ' σ' → Qt .next ρ' σ' ∧ Qt .cont ρ' σ') → (∀ ρ' σ', Q .next ρ' σ' → Qt .brk ρ' σ') → (∀ d ρ' σ', Q (.ret d) ρ' σ' → Qt (.ret d) ρ' σ') →
      WI B sc N t ρ σ fun b σ₁ => (b = true → WS B sc N body ρ σ₁ Qt) ∧ (b = false → Q .next ρ σ₁)) : WX B sc N (.While t body [] pos) ρ σ Q :=
  WX.while_ I n h0 fun n ρ σ i => turn n ρ σ _ i (fun m _ _ hm q => ⟨⟨m, hm, q⟩, ⟨m, hm, q⟩⟩) (fun _ _ q => q) (fun _ _ _ q => q)
noncomputable def CompTurnsT (B : Bs) (sc : Sc) (N : Nat) (target elt : Expr) (ifs : List Expr) (csc : Scope) (ρ : Loc) (S : Src) (σ₁ : Sto) (K : List V → Sto → Prop) : Prop :=
  S.n ≤ 1000 ∧ ∃ I : Nat → List V → Sto → Prop, I 0 [] σ₁ ∧ (∀ k out σ', I k out σ' → S.G k σ') ∧
    (∀ k out σ' (Kt : V → Sto → Prop) (Kf : Sto → Prop), k < S.n → I k out σ' → (∀ d σ₅, I (k + 1) (out ++ [d]) σ₅ → Kt d σ₅) → (∀ σ₄, I (k + 1) out σ₄ → Kf σ₄) →
      WA B ⟨relS csc sc.scope, false⟩ N target (S.item k) (capt ρ (relS csc sc.scope)) (S.nx k σ') fun ρ₃ σ₃ => WIf B ⟨relS csc sc.scope, false⟩ N ifs ρ₃ σ₃ fun b σ₄ =>
      (b = true → WE B ⟨relS csc sc.scope, false⟩ N elt ρ₃ σ₄ Kt) ∧ (b = false → Kf σ₄)) ∧
    (∀ out σ', I S.n out σ' → K out (S.dn σ'))
theorem CompTurns.of {target elt : Expr} {ifs : List Expr} {csc : Scope} {S : Src} {σ₁ : Sto} {K : List V → Sto → Prop} (h : CompTurnsT B sc N target elt ifs csc ρ S σ₁ K) : CompTurns B sc N target elt ifs csc ρ S σ₁ K :=
  u2 h fun hn q => q.elim fun I q => u4 q fun i0 iG turn fin => ⟨hn, I, i0, iG, fun k out σ' hk i => turn k out σ' _ _ hk i (fun _ _ q => q) (fun _ q => q), fin⟩
end
theorem ex1 {α : Sort _} {P : α → Prop} {G : Prop} (k : ∀ x, P x → G) : (∃ x, P x) → G := fun h => h.elim k
theorem ex2 {α β : Sort _} {P : α → β → Prop} {G : Prop} (k : ∀ x y, P x y → G) : (∃ x y, P x y) → G := fun h => h.elim fun x h => h.elim (k x)
theorem ex3 {α β γ : Sort _} {P : α → β → γ → Prop} {G : Prop} (k : ∀ x y z, P x y z → G) : (∃ x y z, P x y z) → G := fun h => h.elim fun x h => ex2 (k x) h
theorem ex4 {α β γ δ : Sort _} {P : α → β → γ → δ → Prop} {G : Prop} (k : ∀ x y z w, P x y z w → G) : (∃ x y z w, P x y z w) → G := fun h => h.elim fun x h => ex3 (k x) h
theorem un2 {a0 a1 G : Prop} (k : a0 → a1 → G) (h : a0 ∧ a1) : G := k h.1 h.2
theorem un3 {a0 a1 a2 G : Prop} (k : a0 → a1 → a2 → G) (h : a0 ∧ a1 ∧ a2) : G := un2 (k h.1) h.2
theorem un4 {a0 a1 a2 a3 G : Prop} (k : a0 → a1 → a2 → a3 → G) (h : a0 ∧ a1 ∧ a2 ∧ a3) : G := un3 (k h.1) h.2
theorem un5 {a0 a1 a2 a3 a4 G : Prop} (k : a0 → a1 → a2 → a3 → a4 → G) (h : a0 ∧ a1 ∧ a2 ∧ a3 ∧ a4) : G := un4 (k h.1) h.2
theorem un6 {a0 a1 a2 a3 a4 a5 G : Prop} (k : a0 → a1 → a2 → a3 → a4 → a5 → G) (h : a0 ∧ a1 ∧ a2 ∧ a3 ∧ a4 ∧ a5) : G := un5 (k h.1) h.2
theorem un7 {a0 a1 a2 a3 a4 a5 a6 G : Prop} (k : a0 → a1 → a2 → a3 → a4 → a5 → a6 → G) (h : a0 ∧ a1 ∧ a2 ∧ a3 ∧ a4 ∧ a5 ∧ a6) : G := un6 (k h.1) h.2
theorem un8 {a0 a1 a2 a3 a4 a5 a6 a7 G : Prop} (k : a0 → a1 → a2 → a3 → a4 → a5 → a6 → a7 → G) (h : a0 ∧ a1 ∧ a2 ∧ a3 ∧ a4 ∧ a5 ∧ a6 ∧ a7) : G := un7 (k h.1) h.2
theorem un9 {a0 a1 a2 a3 a4 a5 a6 a7 a8 G : Prop} (k : a0 → a1 → a2 → a3 → a4 → a5 → a6 → a7 → a8 → G) (h : a0 ∧ a1 ∧ a2 ∧ a3 ∧ a4 ∧ a5 ∧ a6 ∧ a7 ∧ a8) : G := un8 (k h.1) h.2
theorem un10 {a0 a1 a2 a3 a4 a5 a6 a7 a8 a9 G : Prop} (k : a0 → a1 → a2 → a3 → a4 → a5 → a6 → a7 → a8 → a9 → G) (h : a0 ∧ a1 ∧ a2 ∧ a3 ∧ a4 ∧ a5 ∧ a6 ∧ a7 ∧ a8 ∧ a9) : G := un9 (k h.1) h.2
theorem un11 {a0 a1 a2 a3 a4 a5 a6 a7 a8 a9 a10 G : Prop} (k : a0 → a1 → a2 → a3 → a4 → a5 → a6 → a7 → a8 → a9 → a10 → G) (h : a0 ∧ a1 ∧ a2 ∧ a3 ∧ a4 ∧ a5 ∧ a6 ∧ a7 ∧ a8 ∧ a9 ∧ a10) : G := un10 (k h.1) h.2
theorem un12 {a0 a1 a2 a3 a4 a5 a6 a7 a8 a9 a10 a11 G : Prop} (k : a0 → a1 → a2 → a3 → a4 → a5 → a6 → a7 → a8 → a9 → a10 → a11 → G) (h : a0 ∧ a1 ∧ a2 ∧ a3 ∧ a4 ∧ a5 ∧ a6 ∧ a7 ∧ a8 ∧ a9 ∧ a10 ∧ a11) : G := un11 (k h.1) h.2
theorem un13 {a0 a1 a2 a3 a4 a5 a6 a7 a8 a9 a10 a11 a12 G : Prop} (k : a0 → a1 → a2 → a3 → a4 → a5 → a6 → a7 → a8 → a9 → a10 → a11 → a12 → G) (h : a0 ∧ a1 ∧ a2 ∧ a3 ∧ a4 ∧ a5 ∧ a6 ∧ a7 ∧ a8 ∧ a9 ∧ a10 ∧ a11 ∧ a12) : G := un12 (k h.1) h.2
theorem un14 {a0 a1 a2 a3 a4 a5 a6 a7 a8 a9 a10 a11 a12 a13 G : Prop} (k : a0 → a1 → a2 → a3 → a4 → a5 → a6 → a7 → a8 → a9 → a10 → a11 → a12 → a13 → G) (h : a0 ∧ a1 ∧ a2 ∧ a3 ∧ a4 ∧ a5 ∧ a6 ∧ a7 ∧ a8 ∧ a9 ∧ a10 ∧ a11 ∧ a12 ∧ a13) : G := un13 (k h.1) h.2
theorem un15 {a0 a1 a2 a3 a4 a5 a6 a7 a8 a9 a10 a11 a12 a13 a14 G : Prop} (k : a0 → a1 → a2 → a3 → a4 → a5 → a6 → a7 → a8 → a9 → a10 → a11 → a12 → a13 → a14 → G) (h : a0 ∧ a1 ∧ a2 ∧ a3 ∧ a4 ∧ a5 ∧ a6 ∧ a7 ∧ a8 ∧ a9 ∧ a10 ∧ a11 ∧ a12 ∧ a13 ∧ a14) : G := un14 (k h.1) h.2
end

section
set_option autoImplicit false
set_option maxRecDepth 100000
set_option maxHeartbeats 8000000
section
variable {B : Bs} {σ : Sto} {fd : FuncData}
theorem WBind.pos1 {n : Str} {d : V} (h : ∀ v, bindArgs fd ⟨[v], []⟩ = pure [(n, v)]) : WBind B fd [d] [] σ [(n, d)] := fun A s vs kws hA O rv rk => by
  cases rk
  obtain ⟨v, r, rfl, h1, h2⟩ := rv; cases h2
  rw [h]
  exact wpAny_pure ⟨.refl O, v, [], rfl, h1, rfl⟩
theorem WBind.pos2 {n m : Str} {d e : V} (h : ∀ v u, bindArgs fd ⟨[v, u], []⟩ = pure [(n, v), (m, u)]) : WBind B fd [d, e] [] σ [(n, d), (m, e)] := fun A s vs kws hA O rv rk => by
  cases rk
  obtain ⟨v, r, rfl, h1, u, r', rfl, h2, h3⟩ := rv; cases h3
  rw [h]
  exact wpAny_pure ⟨.refl O, v, _, rfl, h1, u, [], rfl, h2, rfl⟩
theorem WBind.pos3 {n m k : Str} {d e f : V} (h : ∀ v u w, bindArgs fd ⟨[v, u, w], []⟩ = pure [(n, v), (m, u), (k, w)]) : WBind B fd [d, e, f] [] σ [(n, d), (m, e), (k, f)] := fun A s vs kws hA O rv rk => by
  cases rk
  obtain ⟨v, r, rfl, h1, u, r', rfl, h2, w, r'', rfl, h3, h4⟩ := rv; cases h4
  rw [h]
  exact wpAny_pure ⟨.refl O, v, _, rfl, h1, u, _, rfl, h2, w, [], rfl, h3, rfl⟩
end
theorem f42 : FnAt 42 := ⟨⟨_, by rfl⟩, by rfl, by rfl, by rfl, by rfl, by rfl, by rfl, by rfl⟩
theorem f49 : FnAt 49 := ⟨⟨_, by rfl⟩, by rfl, by rfl, by rfl, by rfl, by rfl, by rfl, by rfl⟩
theorem f56 : FnAt 56 := ⟨⟨_, by rfl⟩, by rfl, by rfl, by rfl, by rfl, by rfl, by rfl, by rfl⟩
theorem f63 : FnAt 63 := ⟨⟨_, by rfl⟩, by rfl, by rfl, by rfl, by rfl, by rfl, by rfl, by rfl⟩

/-- one escape, many -/
noncomputable def esc1 (y z x : Str) : Str := if Txt.contains x y then Txt.replace x y z else x
noncomputable def escs : List (Str × Str) → Str → Str
  | [], x => x
  | (y, z) :: r, x => escs r (esc1 y z x)
noncomputable def escOk : List (Str × Str) → Str → Bool
  | [], _ => true
  | (y, z) :: r, x => decide (x.length + (x.length + 1) * z.length ≤ 16777216) && escOk r (esc1 y z x)
section
variable {B : Bs} {N : Nat} {σ : Sto}
theorem esc_if {sc : Sc} {ρ : Loc} {x y z : Str} {r : List (Str × Str)} {p1 p2 p3 p4 p5 p6 p7 p8 p9 pa pi : Pos} {k1 k2 k3 : Nat} {rest : List Stmt} {Q : Fl → Loc → Sto → Prop} (ok : escOk ((y, z) :: r) x = true) (hx : ρ (Str.ofString "text") = some (.str x))
    (hk : sc.scope.names.lookup (Str.ofString "text") = some .local) (hyz : (y == z) = false) (hm : behindInMarks .In (.Name (Str.ofString "text") p2) = false)
    (hE : ∀ env, ∃ pl, eval (.Call (.Attribute (.Name (Str.ofString "text") p5) (Str.ofString "replace") p6) [.Constant (.str y) k2 p7, .Constant (.str z) k3 p8] [] p9) env = (do
      let ov ← eval (.Name (Str.ofString "text") p5) env
      standAt p6.atName
      let (f, first) ← holding [ov] (getMethod ov (Str.ofString "replace") pl)
      callWith p9 f first (backTo p9 (starEach [.Constant (.str y) k2 p7, .Constant (.str z) k3 p8] env)) (backToKw p9 (keywordEach [] env))))
    (hA : ∀ env, assignEach [.Name (Str.ofString "text") p4] env = [(false, assign (.Name (Str.ofString "text") p4) env)])
    (hS : ∀ env, env.scope = sc.scope → swapsWithSole [.Name (Str.ofString "text") p4] (.Call (.Attribute (.Name (Str.ofString "text") p5) (Str.ofString "replace") p6) [.Constant (.str y) k2 p7, .Constant (.str z) k3 p8] [] p9) pa.line env = pure false)
    (hW : ∀ env, env.scope = sc.scope → swappedStores [.Name (Str.ofString "text") p4] (.Call (.Attribute (.Name (Str.ofString "text") p5) (Str.ofString "replace") p6) [.Constant (.str y) k2 p7, .Constant (.str z) k3 p8] [] p9) env = pure none)
    (h : ∀ ρ', ρ' (Str.ofString "text") = some (.str (esc1 y z x)) → escOk r (esc1 y z x) = true → WS B sc N rest ρ' σ Q) :
    WS B sc N (.If (.Compare (.Constant (.str y) k1 p1) [.In] [.Name (Str.ofString "text") p2] p3)
      [.Assign [.Name (Str.ofString "text") p4] (.Call (.Attribute (.Name (Str.ofString "text") p5) (Str.ofString "replace") p6) [.Constant (.str y) k2 p7, .Constant (.str z) k3 p8] [] p9) pa] [] pi :: rest) ρ σ Q := by
  simp only [escOk, Bool.and_eq_true, decide_eq_true_eq] at ok
  refine WS.cons (WX.ite (WI.cmp (WE.str (WE.loc hk hx (W2.in_str (WT.bool ⟨fun hc => ?_, fun hc => ?_⟩)) (by rfl))) hm))
  · refine WS.cons (WX.asg (WE.replace hyz (WE.loc hk hx ⟨x, rfl, ok.1, WA.name (WN.loc hk (WS.nil (h _ ?_ ok.2)))⟩ (by rfl)) hE) hA hS hW)
    unfold Loc.set esc1; rw [if_pos rfl, if_pos hc]
  · refine WS.nil (h _ ?_ ok.2)
    unfold esc1; rw [hx, if_neg (by rw [hc]; simp)]
end
local macro_rules | `(tactic| walk_at "sw") => `(tactic| (intro env he; obtain ⟨⟩ := env; cases he; rfl))
local macro_rules | `(tactic| walk_at "escif") => `(tactic| (refine esc_if ‹_› ‹_› (by rfl) (by rfl) (by rfl) (fun env => ⟨_, by rfl⟩) (fun env => by rfl) (by walk_at "sw") (by walk_at "sw") (fun ρ' hx ok => ?_)))
section
variable {B : Bs} {N : Nat} {σ : Sto}

noncomputable def R35 : List (Str × Str) := [(Str.ofString "&", Str.ofString "&amp;"), (Str.ofString "<", Str.ofString "&lt;"), (Str.ofString ">", Str.ofString "&gt;")]
theorem C35 (H : Base B) {x : Str} {Q : V → Sto → Prop} (ok : escOk R35 x = true) (h : Q (.str (escs R35 x)) σ) : WC B (N + 1) (.ref 35) [.str x] [] σ Q := by
  refine WC.def_ (H.def_ fn35) (WBind.pos1 (fun v => by rfl)) ?_ ?_
  · intro y hy
    obtain rfl : y = _ := by simpa using hy
    exact .inl (by rfl)
  refine WS.cons (WX.try_ ?_)
  refine esc_if ok (by rfl) (by rfl) (by rfl) (by rfl) (fun env => ⟨_, by rfl⟩) (fun env => by rfl) (by walk_at "sw") (by walk_at "sw") (fun ρ' hx ok => ?_)
  walk_at "escif"
  walk_at "escif"
  exact WS.cons (WX.ret (WE.loc (by rfl) ‹_› h (by rfl)))
end

section
variable {B : Bs} {N : Nat} {σ : Sto}
noncomputable def R42 : List (Str × Str) := [(Str.ofString "&", Str.ofString "&amp;"), (Str.ofString "<", Str.ofString "&lt;"), (Str.ofString ">", Str.ofString "&gt;"), (Str.ofString "\"", Str.ofString "&quot;"), (Str.ofString "\r", Str.ofString "&#13;"), (Str.ofString "\n", Str.ofString "&#10;"), (Str.ofString "\t", Str.ofString "&#09;")]
theorem C42 (H : Base B) {x : Str} {Q : V → Sto → Prop} (ok : escOk R42 x = true) (h : Q (.str (escs R42 x)) σ) : WC B (N + 1) (.ref 42) [.str x] [] σ Q := by
  refine WC.def_ (H.def_ f42) (WBind.pos1 (fun v => by rfl)) ?_ ?_
  · intro y hy
    obtain rfl : y = _ := by simpa using hy
    exact .inl (by rfl)
  refine WS.cons (WX.try_ ?_)
  refine esc_if ok (by rfl) (by rfl) (by rfl) (by rfl) (fun env => ⟨_, by rfl⟩) (fun env => by rfl) (by walk_at "sw") (by walk_at "sw") (fun ρ' hx ok => ?_)
  walk_at "escif"
  walk_at "escif"
  walk_at "escif"
  walk_at "escif"
  walk_at "escif"
  walk_at "escif"
  exact WS.cons (WX.ret (WE.loc (by rfl) ‹_› h (by rfl)))
noncomputable def R49 : List (Str × Str) := [(Str.ofString "&", Str.ofString "&amp;"), (Str.ofString ">", Str.ofString "&gt;"), (Str.ofString "\"", Str.ofString "&quot;")]
theorem C49 (H : Base B) {x : Str} {Q : V → Sto → Prop} (ok : escOk R49 x = true) (h : Q (.str (escs R49 x)) σ) : WC B (N + 1) (.ref 49) [.str x] [] σ Q := by
  refine WC.def_ (H.def_ f49) (WBind.pos1 (fun v => by rfl)) ?_ ?_
  · intro y hy
    obtain rfl : y = _ := by simpa using hy
    exact .inl (by rfl)
  refine WS.cons (WX.try_ ?_)
  refine esc_if ok (by rfl) (by rfl) (by rfl) (by rfl) (fun env => ⟨_, by rfl⟩) (fun env => by rfl) (by walk_at "sw") (by walk_at "sw") (fun ρ' hx ok => ?_)
  walk_at "escif"
  walk_at "escif"
  exact WS.cons (WX.ret (WE.loc (by rfl) ‹_› h (by rfl)))
noncomputable def R56 : List (Str × Str) := [(Str.ofString "&", Str.ofString "&amp;"), (Str.ofString "<", Str.ofString "&lt;"), (Str.ofString ">", Str.ofString "&gt;"), (Str.ofString "\r", Str.ofString "&#xD;")]
theorem C56 (H : Base B) {x : Str} {Q : V → Sto → Prop} (ok : escOk R56 x = true) (h : Q (.str (escs R56 x)) σ) : WC B (N + 1) (.ref 56) [.str x] [] σ Q := by
  refine WC.def_ (H.def_ f56) (WBind.pos1 (fun v => by rfl)) ?_ ?_
  · intro y hy
    obtain rfl : y = _ := by simpa using hy
    exact .inl (by rfl)
  refine WS.cons (WX.try_ ?_)
  refine esc_if ok (by rfl) (by rfl) (by rfl) (by rfl) (fun env => ⟨_, by rfl⟩) (fun env => by rfl) (by walk_at "sw") (by walk_at "sw") (fun ρ' hx ok => ?_)
  walk_at "escif"
  walk_at "escif"
  walk_at "escif"
  exact WS.cons (WX.ret (WE.loc (by rfl) ‹_› h (by rfl)))
noncomputable def R63 : List (Str × Str) := [(Str.ofString "&", Str.ofString "&amp;"), (Str.ofString "<", Str.ofString "&lt;"), (Str.ofString "\"", Str.ofString "&quot;"), (Str.ofString "\t", Str.ofString "&#x9;"), (Str.ofString "\n", Str.ofString "&#xA;"), (Str.ofString "\r", Str.ofString "&#xD;")]
theorem C63 (H : Base B) {x : Str} {Q : V → Sto → Prop} (ok : escOk R63 x = true) (h : Q (.str (escs R63 x)) σ) : WC B (N + 1) (.ref 63) [.str x] [] σ Q := by
  refine WC.def_ (H.def_ f63) (WBind.pos1 (fun v => by rfl)) ?_ ?_
  · intro y hy
    obtain rfl : y = _ := by simpa using hy
    exact .inl (by rfl)
  refine WS.cons (WX.try_ ?_)
  refine esc_if ok (by rfl) (by rfl) (by rfl) (by rfl) (fun env => ⟨_, by rfl⟩) (fun env => by rfl) (by walk_at "sw") (by walk_at "sw") (fun ρ' hx ok => ?_)
  walk_at "escif"
  walk_at "escif"
  walk_at "escif"
  walk_at "escif"
  walk_at "escif"
  exact WS.cons (WX.ret (WE.loc (by rfl) ‹_› h (by rfl)))
end

theorem f136 : FnAt 136 := ⟨⟨_, by rfl⟩, by rfl, by rfl, by rfl, by rfl, by rfl, by rfl, by rfl⟩
theorem f150 : FnAt 150 := ⟨⟨_, by rfl⟩, by rfl, by rfl, by rfl, by rfl, by rfl, by rfl, by rfl⟩
theorem f164 : FnAt 164 := ⟨⟨_, by rfl⟩, by rfl, by rfl, by rfl, by rfl, by rfl, by rfl, by rfl⟩
theorem f169 : FnAt 169 := ⟨⟨_, by rfl⟩, by rfl, by rfl, by rfl, by rfl, by rfl, by rfl, by rfl⟩
theorem f176 : FnAt 176 := ⟨⟨_, by rfl⟩, by rfl, by rfl, by rfl, by rfl, by rfl, by rfl, by rfl⟩
theorem f183 : FnAt 183 := ⟨⟨_, by rfl⟩, by rfl, by rfl, by rfl, by rfl, by rfl, by rfl, by rfl⟩
theorem f190 : FnAt 190 := ⟨⟨_, by rfl⟩, by rfl, by rfl, by rfl, by rfl, by rfl, by rfl, by rfl⟩
theorem f197 : FnAt 197 := ⟨⟨_, by rfl⟩, by rfl, by rfl, by rfl, by rfl, by rfl, by rfl, by rfl⟩
theorem f204 : FnAt 204 := ⟨⟨_, by rfl⟩, by rfl, by rfl, by rfl, by rfl, by rfl, by rfl, by rfl⟩
theorem f217 : FnAt 217 := ⟨⟨_, by rfl⟩, by rfl, by rfl, by rfl, by rfl, by rfl, by rfl, by rfl⟩
theorem f224 : FnAt 224 := ⟨⟨_, by rfl⟩, by rfl, by rfl, by rfl, by rfl, by rfl, by rfl, by rfl⟩
theorem f231 : FnAt 231 := ⟨⟨_, by rfl⟩, by rfl, by rfl, by rfl, by rfl, by rfl, by rfl, by rfl⟩
theorem f238 : FnAt 238 := ⟨⟨_, by rfl⟩, by rfl, by rfl, by rfl, by rfl, by rfl, by rfl, by rfl⟩
theorem f243 : FnAt 243 := ⟨⟨_, by rfl⟩, by rfl, by rfl, by rfl, by rfl, by rfl, by rfl, by rfl⟩
theorem f250 : FnAt 250 := ⟨⟨_, by rfl⟩, by rfl, by rfl, by rfl, by rfl, by rfl, by rfl, by rfl⟩
theorem f255 : FnAt 255 := ⟨⟨_, by rfl⟩, by rfl, by rfl, by rfl, by rfl, by rfl, by rfl, by rfl⟩
theorem f262 : FnAt 262 := ⟨⟨_, by rfl⟩, by rfl, by rfl, by rfl, by rfl, by rfl, by rfl, by rfl⟩
theorem f267 : FnAt 267 := ⟨⟨_, by rfl⟩, by rfl, by rfl, by rfl, by rfl, by rfl, by rfl, by rfl⟩

local macro_rules | `(tactic| walk_at "nm") => `(tactic| first
  | refine WE.loc (by rfl) (by rfl) ?_ (by rfl)
  | refine WE.loc (by rfl) ‹_› ?_ (by rfl)
  | refine WE.fn ‹Base _› (by rfl) (by rfl) (by rfl) ?_
  | refine WE.bi ‹Base _› (by rfl) (by rfl) (by rfl) (by decide) (by rfl) ?_
  | refine WE.ty ‹Base _› (by rfl) (by rfl) (by rfl) (by decide) (by rfl) ?_)
local macro_rules | `(tactic| walk_at "asg") => `(tactic| refine WS.cons (WX.asg ?_ (fun env => by rfl) (by walk_at "sw") (by walk_at "sw")))
local macro_rules | `(tactic| walk_at "call") => `(tactic| refine WE.call ?_ (fun env => by rfl) (fun env => by rfl) (fun env pos => by rfl))
local macro_rules | `(tactic| walk_at "arg") => `(tactic| refine WL.cons ?_ (fun env => by rfl))
section
variable {B : Bs} {N : Nat} {σ : Sto}
theorem C136 (H : Base B) {x : Str} {Q : V → Sto → Prop} (h : Q (.str x) σ) : WC B (N + 1) (.ref 136) [.str x] [] σ Q := by
  refine WC.def_ (H.def_ f136) (WBind.pos1 (fun v => by rfl)) ?_ ?_
  · intro y hy
    obtain rfl : y = _ := by simpa using hy
    exact .inl (by rfl)
  walk_at "asg"
  walk_at "call"
  walk_at "nm"
  refine ⟨trivial, ?_⟩
  walk_at "arg"
  walk_at "nm"
  refine WL.nil (WK.nil (WC.type_str ?_))
  refine WA.name (WN.loc (by rfl) ?_)
  refine WS.cons (WX.ite (WI.val ?_ (fun env w => by rfl)))
  walk_at "call"
  walk_at "nm"
  refine ⟨trivial, ?_⟩
  walk_at "arg"
  walk_at "nm"
  walk_at "arg"
  refine WE.tup ?_
  walk_at "arg"
  walk_at "nm"
  walk_at "arg"
  walk_at "nm"
  refine WL.nil ⟨by decide, ?_⟩
  refine WL.nil (WK.nil (WC.issubclass_str (WT.bool ⟨fun _ => ?_, fun q => nomatch q⟩)))
  refine WS.cons (WX.ret ?_)
  walk_at "nm"
  exact h
end

local macro_rules | `(tactic| walk_at "set") => `(tactic| refine WA.name (WN.loc (by rfl) ?_))
local macro_rules | `(tactic| walk_at "ret") => `(tactic| refine WS.cons (WX.ret ?_))
local macro_rules | `(tactic| walk_at "kinds") => `(tactic| (repeat' first | exact List.forall_mem_nil _ | (refine List.forall_mem_cons.mpr ⟨?_, ?_⟩) | exact .inl (by rfl) | exact .inr (by rfl)))
section
variable {B : Bs} {N : Nat} {σ : Sto}
theorem C150 (H : Base B) {x : Str} {Q : V → Sto → Prop} (h : Q (.str (Str.ofString "/")) σ) : WC B (N + 1) (.ref 150) [.str x] [] σ Q := by
  refine WC.def_ (H.def_ f150) (WBind.pos1 (fun v => by rfl)) (by walk_at "kinds") ?_
  refine WS.cons (WX.ite (WI.val ?_ (fun env w => by rfl)))
  walk_at "call"
  walk_at "nm"
  refine ⟨trivial, ?_⟩
  walk_at "arg"
  walk_at "nm"
  walk_at "arg"
  walk_at "nm"
  refine WL.nil (WK.nil (WC.isinstance_str_bytes (WT.bool ⟨(fun q => nomatch q), fun _ => ?_⟩)))
  walk_at "ret"
  exact WE.str h

/-- the rules of the five -/
noncomputable def rules (k : Int) : List (Str × Str) := if k = 0 then R35 else if k = 1 then R42 else if k = 2 then R49 else if k = 3 then R56 else R63
theorem C217 (H : Base B) {k : Int} {x : Str} {Q : V → Sto → Prop} (ok : escOk (rules k) x = true) (h : Q (.str (escs (rules k) x)) σ) : WC B (N + 2) (.ref 217) [.int k, .str x] [] σ Q := by
  refine WC.def_ (H.def_ f217) (WBind.pos2 (fun v u => by rfl)) (by walk_at "kinds") ?_
  unfold rules at ok h
  refine WS.cons (WX.ite (WI.cmp ?_ (by rfl)))
  walk_at "nm"
  refine WE.int (W2.eq_int (WT.bool ⟨fun q => ?_, fun q => ?_⟩))
  · obtain rfl := by simpa using q
    simp only [if_true] at ok h
    walk_at "ret"
    walk_at "call"
    walk_at "nm"
    refine ⟨H.cal fn35, ?_⟩
    walk_at "arg"
    walk_at "nm"
    exact WL.nil (WK.nil (C35 H ok h))
  have q0 : ¬ k = 0 := by simpa using q
  rw [if_neg q0] at ok h
  refine WS.nil ?_
  refine WS.cons (WX.ite (WI.cmp ?_ (by rfl)))
  walk_at "nm"
  refine WE.int (W2.eq_int (WT.bool ⟨fun q => ?_, fun q => ?_⟩))
  · rw [if_pos (by simpa using q)] at ok h
    walk_at "ret"
    walk_at "call"
    walk_at "nm"
    refine ⟨H.cal f42, ?_⟩
    walk_at "arg"
    walk_at "nm"
    exact WL.nil (WK.nil (C42 H ok h))
  rw [if_neg (by simpa using q)] at ok h
  refine WS.nil ?_
  refine WS.cons (WX.ite (WI.cmp ?_ (by rfl)))
  walk_at "nm"
  refine WE.int (W2.eq_int (WT.bool ⟨fun q => ?_, fun q => ?_⟩))
  · rw [if_pos (by simpa using q)] at ok h
    walk_at "ret"
    walk_at "call"
    walk_at "nm"
    refine ⟨H.cal f49, ?_⟩
    walk_at "arg"
    walk_at "nm"
    exact WL.nil (WK.nil (C49 H ok h))
  rw [if_neg (by simpa using q)] at ok h
  refine WS.nil ?_
  refine WS.cons (WX.ite (WI.cmp ?_ (by rfl)))
  walk_at "nm"
  refine WE.int (W2.eq_int (WT.bool ⟨fun q => ?_, fun q => ?_⟩))
  · rw [if_pos (by simpa using q)] at ok h
    walk_at "ret"
    walk_at "call"
    walk_at "nm"
    refine ⟨H.cal f56, ?_⟩
    walk_at "arg"
    walk_at "nm"
    exact WL.nil (WK.nil (C56 H ok h))
  rw [if_neg (by simpa using q)] at ok h
  refine WS.nil ?_
  walk_at "ret"
  walk_at "call"
  walk_at "nm"
  refine ⟨H.cal f63, ?_⟩
  walk_at "arg"
  walk_at "nm"
  exact WL.nil (WK.nil (C63 H ok h))
end

section
variable {B : Bs} {N : Nat} {σ : Sto}
/-- the tables -/
noncomputable def tab (k : Int) : List (Str × Str) := if k = 2 then [(Str.ofString ">", Str.ofString "&gt;")] else if k = 4 then [(Str.ofString "<", Str.ofString "&lt;")] else [(Str.ofString "<", Str.ofString "&lt;"), (Str.ofString ">", Str.ofString "&gt;")]
theorem C224 (H : Base B) {k : Int} {Q : V → Sto → Prop} (h : ∀ d, σ d = none → Q (.ref d) (σ.set d (.dict (tab k)))) : WC B (N + 1) (.ref 224) [.int k] [] σ Q := by
  refine WC.def_ (H.def_ f224) (WBind.pos1 (fun v => by rfl)) (by walk_at "kinds") ?_
  unfold tab at h
  refine WS.cons (WX.ite (WI.cmp ?_ (by rfl)))
  walk_at "nm"
  refine WE.int (W2.eq_int (WT.bool ⟨fun q => ?_, fun q => ?_⟩))
  · rw [if_pos (by simpa using q)] at h
    walk_at "ret"
    refine WE.dict1 (B := B) H.lim ?_
    exact h
  rw [if_neg (by simpa using q)] at h
  refine WS.nil ?_
  refine WS.cons (WX.ite (WI.cmp ?_ (by rfl)))
  walk_at "nm"
  refine WE.int (W2.eq_int (WT.bool ⟨fun q => ?_, fun q => ?_⟩))
  · rw [if_pos (by simpa using q)] at h
    walk_at "ret"
    refine WE.dict1 (B := B) H.lim ?_
    exact h
  rw [if_neg (by simpa using q)] at h
  refine WS.nil ?_
  walk_at "ret"
  refine WE.dict2 (B := B) H.lim (by rfl) ?_
  exact h

theorem WBind.var1 {fd : FuncData} {n m : Str} {d e : V} (h : ∀ v u, bindArgs fd ⟨[v, u], []⟩ = (do let t ← newTuple [u]; pure [(n, v), (m, t)])) : WBind B fd [d, e] [] σ [(n, d), (m, .tup [e])] := fun A s vs kws hA O rv rk => by
  cases rk
  obtain ⟨v, r, rfl, h1, u, r', rfl, h2, h3⟩ := rv; cases h3
  rw [h]
  refine wpAny_bind (wpAny_newTuple (wpAny_pure ?_) (by show 1 ≤ sizeLine; rw [sizeLine_eq]; lia))
  have P := PostS.push (tk := s.toks) (o := seqObj "tuple" [u].toArray 0) O id
  have M := P.mono O
  exact ⟨P, v, _, rfl, h1.mono M, .ref s.heap.objs.size, [], rfl, ⟨_, [u], rfl, ⟨_, Heap.get?_push_size _ rfl, rfl, 0, rfl⟩, u, [], rfl, h2.mono M, rfl⟩, rfl⟩
theorem bind157 (v u : Value) : bindArgs (fnAt 157) ⟨[v, u], []⟩ = (do let t ← newTuple [u]; pure [(Str.ofString "a", v), (Str.ofString "p", t)]) := by rfl
end

local macro_rules | `(tactic| walk_at "meth") => `(tactic| refine WE.meth (fun _ => ?_) ?_ (fun env => ⟨_, by rfl⟩) (fun env => by rfl) (fun env pos => by rfl))
section
variable {B : Bs} {N : Nat} {σ : Sto}
noncomputable def slash : Str := Str.ofString "/"
noncomputable def joined (x y : Str) : Str := if Txt.endswith x slash then x ++ y else x ++ (slash ++ y)
theorem C157 (H : Base B) {x y : Str} {Q : V → Sto → Prop} (hx : (x.length != 0) = true) (hy : Txt.startswith y slash = false) (h0 : x.length ≤ sizeLine) (h1 : (x ++ y).length ≤ sizeLine) (h2 : (slash ++ y).length ≤ sizeLine) (h3 : (x ++ (slash ++ y)).length ≤ sizeLine) (h : Q (.str (joined x y)) σ) :
    WC B (N + 2) (.ref 157) [.str x, .str y] [] σ Q := by
  refine WC.def_ (H.def_ fn157) (WBind.var1 bind157) (by walk_at "kinds") ?_
  walk_at "asg"
  walk_at "call"
  walk_at "nm"
  refine ⟨H.cal f136, ?_⟩
  walk_at "arg"
  walk_at "nm"
  refine WL.nil (WK.nil (C136 H ?_))
  walk_at "set"
  walk_at "asg"
  walk_at "call"
  walk_at "nm"
  refine ⟨H.cal f150, ?_⟩
  walk_at "arg"
  walk_at "nm"
  refine WL.nil (WK.nil (C150 H ?_))
  walk_at "set"
  walk_at "asg"
  walk_at "nm"
  walk_at "set"
  refine WS.cons (WX.try_ ?_)
  refine WS.cons (WX.forT (WIt.of (K := _) ?_ (by lia)) (by lia) (fun env x => by rfl))
  walk_at "nm"
  refine ⟨_, GetIter.tup, fun k ρ' σ' => σ' = σ ∧ ρ' (Str.ofString "sep") = some (.str slash) ∧ ρ' (Str.ofString "path") = some (.str (if k = 0 then x else joined x y)), ⟨rfl, by rfl, by rfl⟩, fun k ρ' σ' _ => trivial, ?_, ?_⟩
  · rintro k ρ' σ' Qt hk ⟨rfl, hs, hp⟩ hQt _ _
    obtain rfl : k = 0 := by simpa [srcOf] using hk
    rw [if_pos rfl] at hp
    refine WA.name (WN.loc (by rfl) ?_)
    walk_at "asg"
    walk_at "call"
    walk_at "nm"
    refine ⟨H.cal f136, ?_⟩
    walk_at "arg"
    refine WE.loc (by rfl) (by rfl) ?_ (by rfl)
    refine WL.nil (WK.nil (C136 H ?_))
    walk_at "set"
    refine WS.cons (WX.ite (WI.or2 (WI.val (WE.meth (fun _ => "str.startswith") ?_ (fun env => ⟨_, by rfl⟩) (fun env => by rfl) (fun env pos => by rfl)) (fun env w => by rfl))))
    refine WE.loc (by rfl) (by rfl) ?_ (by rfl)
    refine ⟨M.startswith, ?_⟩
    walk_at "arg"
    refine WE.loc (by rfl) hs ?_ (by rfl)
    refine WL.nil (WK.nil (WC.startswith (WT.bool ⟨fun q => ?_, fun _ => ?_⟩)))
    · rw [hy] at q; cases q
    refine WI.not (WI.val (WE.loc (by rfl) hp (WT.str ⟨fun q => ?_, fun _ => ?_⟩ h0) (by rfl)) (fun env w => by rfl))
    · rw [hx] at q; cases q
    refine WS.cons (WX.ite (WI.val (WE.meth (fun _ => "str.endswith") ?_ (fun env => ⟨_, by rfl⟩) (fun env => by rfl) (fun env pos => by rfl)) (fun env w => by rfl)))
    refine WE.loc (by rfl) hp ?_ (by rfl)
    refine ⟨M.endswith, ?_⟩
    walk_at "arg"
    refine WE.loc (by rfl) hs ?_ (by rfl)
    refine WL.nil (WK.nil (WC.endswith (WT.bool ⟨fun q => ?_, fun q => ?_⟩)))
    · refine WS.cons (WX.aug (by rfl) hp ?_)
      refine WE.loc (by rfl) (by rfl) (W2.iadd_str (WN.loc (by rfl) (WS.nil (WS.nil (WS.nil (And.left (hQt _ _ ⟨rfl, hs, ?_⟩)))))) h1) (by rfl)
      unfold joined; rw [if_pos q]; rfl
    · refine WS.cons (WX.aug (by rfl) hp ?_)
      refine WE.bin ?_
      refine WE.loc (by rfl) hs ?_ (by rfl)
      refine WE.loc (by rfl) (by rfl) (W2.add_str (W2.iadd_str (WN.loc (by rfl) (WS.nil (WS.nil (WS.nil (And.left (hQt _ _ ⟨rfl, hs, ?_⟩)))))) h3) h2) (by rfl)
      have e : joined x y = x ++ (slash ++ y) := by unfold joined; rw [if_neg (by rw [q]; simp)]
      rw [if_neg (Nat.succ_ne_zero 0), e]; rfl
  · rintro ρ' σ' ⟨rfl, hs, hp⟩
    refine WS.nil (WS.nil ?_)
    walk_at "ret"
    refine WE.loc (by rfl) hp ?_ (by rfl)
    exact h
end

section
variable {B : Bs} {N : Nat} {σ : Sto}
noncomputable def laidFrom (k : Int) (p : Str) (ns : List Str) : Str := ns.foldl (fun p n => joined p (escs (rules k) n)) p
noncomputable def laidOk (k : Int) : Str → List Str → Bool
  | _, [] => true
  | p, n :: r => escOk (rules k) n && (p.length != 0) && !Txt.startswith (escs (rules k) n) slash && decide (p.length ≤ 1000) && decide ((p ++ escs (rules k) n).length ≤ 1000) && decide ((slash ++ escs (rules k) n).length ≤ 1000) && decide ((p ++ (slash ++ escs (rules k) n)).length ≤ 1000) &&
    laidOk k (joined p (escs (rules k) n)) r
theorem C238 (H : Base B) {kd : Int} {ns : List Str} {Q : V → Sto → Prop} (ok : laidOk kd slash ns = true) (h : Q (.str (laidFrom kd slash ns)) σ) : WC B (N + 3) (.ref 238) [.int kd, .tup (ns.map .str)] [] σ Q := by
  refine WC.def_ (H.def_ f238) (WBind.pos2 (fun v u => by rfl)) (by walk_at "kinds") ?_
  walk_at "asg"
  refine WE.str ?_
  walk_at "set"
  refine WS.cons (WX.forT (WIt.of (K := _) ?_ (by lia)) (by lia) (fun env x => by rfl))
  walk_at "nm"
  refine ⟨_, GetIter.tup, fun k ρ' σ' => σ' = σ ∧ ρ' (Str.ofString "kind") = some (.int kd) ∧ ∃ p, ρ' (Str.ofString "path") = some (.str p) ∧ laidOk kd p (ns.drop k) = true ∧ laidFrom kd p (ns.drop k) = laidFrom kd slash ns, ⟨rfl, by rfl, slash, by rfl, by simpa using ok, by simp⟩, fun k ρ' σ' _ => trivial, ?_, ?_⟩
  · rintro k ρ' σ' Qt hk ⟨rfl, hkd, p, hp, hok, hl⟩ hQt _ _
    have hk' : k < ns.length := by simpa [srcOf] using hk
    rw [List.drop_eq_getElem_cons hk'] at hok hl
    have hit : (srcOf (ns.map V.str).length (fun k => (ns.map V.str).getD k V.none) fun _ _ => True).item k = .str ns[k] := by
      show (ns.map V.str).getD k V.none = _
      simp [hk']
    rw [hit]
    simp only [laidOk, Bool.and_eq_true, decide_eq_true_eq, Bool.not_eq_true'] at hok
    obtain ⟨⟨⟨⟨⟨⟨⟨a1, a2⟩, a3⟩, a4⟩, a5⟩, a6⟩, a7⟩, a8⟩ := hok
    have sz := sizeLine_eq
    refine WA.name (WN.loc (by rfl) ?_)
    walk_at "asg"
    walk_at "call"
    walk_at "nm"
    refine ⟨H.cal fn157, ?_⟩
    walk_at "arg"
    refine WE.loc (by rfl) hp ?_ (by rfl)
    walk_at "arg"
    walk_at "call"
    walk_at "nm"
    refine ⟨H.cal f217, ?_⟩
    walk_at "arg"
    refine WE.loc (by rfl) hkd ?_ (by rfl)
    walk_at "arg"
    refine WE.loc (by rfl) (by rfl) ?_ (by rfl)
    refine WL.nil (WK.nil (C217 H a1 ?_))
    refine WL.nil (WK.nil (C157 H a2 a3 (by lia) (by lia) (by lia) (by lia) ?_))
    refine WA.name (WN.loc (by rfl) (WS.nil (And.left (hQt _ _ ⟨rfl, hkd, _, by rfl, a8, hl⟩))))
  · rintro ρ' σ' ⟨rfl, hkd, p, hp, hok, hl⟩
    have hd : ns.drop (srcOf (ns.map V.str).length (fun k => (ns.map V.str).getD k V.none) fun _ _ => True).n = [] := List.drop_of_length_le (by simp [srcOf])
    rw [hd] at hl
    walk_at "ret"
    refine WE.loc (by rfl) hp ?_ (by rfl)
    have hl' : p = laidFrom kd slash ns := hl
    rw [hl']
    exact h
end

section
variable {B : Bs} {N : Nat} {σ : Sto}
noncomputable def headOf (x : Str) : Str := ⟨(x.cps.toList.take (Txt.rfind x slash + 1).toNat).toArray⟩
noncomputable def dirF (x : Str) : Str := if ((headOf x).length != 0) = true ∧ (headOf x != Txt.mul slash (headOf x).length) = true then Txt.rstripChars (headOf x) slash else headOf x
theorem C164 (H : Base B) {x : Str} {Q : V → Sto → Prop} (h1 : 0 ≤ Txt.rfind x slash + 1) (h2 : x.length ≤ sizeLine) (h3 : (headOf x).length ≤ sizeLine) (h4 : MulOk slash (headOf x).length) (h5 : (Txt.mul slash (headOf x).length).length ≤ sizeLine) (h : Q (.str (dirF x)) σ) : WC B (N + 2) (.ref 164) [.str x] [] σ Q := by
  refine WC.def_ (H.def_ f164) (WBind.pos1 (fun v => by rfl)) (by walk_at "kinds") ?_
  walk_at "asg"
  walk_at "call"
  walk_at "nm"
  refine ⟨H.cal f136, ?_⟩
  walk_at "arg"
  walk_at "nm"
  refine WL.nil (WK.nil (C136 H ?_))
  walk_at "set"
  walk_at "asg"
  walk_at "call"
  walk_at "nm"
  refine ⟨H.cal f150, ?_⟩
  walk_at "arg"
  walk_at "nm"
  refine WL.nil (WK.nil (C150 H ?_))
  walk_at "set"
  walk_at "asg"
  refine WE.bin (WE.meth (fun _ => "str.rfind") ?_ (fun env => ⟨_, by rfl⟩) (fun env => by rfl) (fun env pos => by rfl))
  walk_at "nm"
  refine ⟨M.rfind, ?_⟩
  walk_at "arg"
  walk_at "nm"
  refine WL.nil (WK.nil (WC.rfind (WE.int (W2.add_int ?_))))
  walk_at "set"
  walk_at "asg"
  refine WE.slice (WE.loc (by rfl) (by rfl) ?_ (by rfl))
  change WE _ _ _ _ _ _ _
  refine WE.loc (by rfl) (by rfl) ⟨_, rfl, Sub.str, WSl.str_upto h1 h2 ?_⟩ (by rfl)
  walk_at "set"
  have hh : (⟨(x.cps.toList.take (Txt.rfind x slash + 1).toNat).toArray⟩ : Str) = headOf x := rfl
  refine WS.cons (WX.ite (WI.and2 (WI.val (WE.loc (by rfl) (by rfl) (WT.str ⟨fun q => ?_, fun q => ?_⟩ h3) (by rfl)) (fun env w => by rfl))))
  · refine WI.cmp (WE.loc (by rfl) (by rfl) (WE.bin (WE.loc (by rfl) (by rfl) ?_ (by rfl))) (by rfl)) (by rfl)
    walk_at "call"
    walk_at "nm"
    refine ⟨trivial, ?_⟩
    walk_at "arg"
    refine WE.loc (by rfl) (by rfl) ?_ (by rfl)
    refine WL.nil (WK.nil (WC.len_str h3 (W2.mul_str (W2.ne_str (WT.bool ⟨fun q2 => ?_, fun q2 => ?_⟩)) h4 h5)))
    · walk_at "asg"
      refine WE.meth (fun _ => "str.rstrip") ?_ (fun env => ⟨_, by rfl⟩) (fun env => by rfl) (fun env pos => by rfl)
      refine WE.loc (by rfl) (by rfl) ?_ (by rfl)
      refine ⟨M.rstrip, ?_⟩
      walk_at "arg"
      refine WE.loc (by rfl) (by rfl) ?_ (by rfl)
      refine WL.nil (WK.nil (WC.rstrip h3 ?_))
      refine WA.name (WN.loc (by rfl) (WS.nil ?_))
      walk_at "ret"
      refine WE.loc (by rfl) (by rfl) ?_ (by rfl)
      unfold dirF at h; rw [if_pos ⟨q, q2⟩] at h; exact h
    · refine WS.nil ?_
      walk_at "ret"
      refine WE.loc (by rfl) (by rfl) ?_ (by rfl)
      unfold dirF at h; rw [if_neg (fun hq => by have q3 : (headOf x != Txt.mul slash (headOf x).length) = false := q2; rw [hq.2] at q3; cases q3)] at h; exact h
  · refine ⟨(fun q3 => nomatch q3), fun _ => WS.nil ?_⟩
    walk_at "ret"
    refine WE.loc (by rfl) (by rfl) ?_ (by rfl)
    unfold dirF at h; rw [if_neg (fun hq => by have q3 : ((headOf x).length != 0) = false := q; rw [hq.1] at q3; cases q3)] at h; exact h
end

section
variable {B : Bs} {N : Nat} {σ : Sto}
noncomputable def front : List Str → List Str → List Str
  | x :: xs, y :: ys => if x == y then x :: front xs ys else []
  | _, _ => []
theorem front_take : ∀ (k : Nat) (xs ys : List Str), k ≤ xs.length → xs.take k = ys.take k → (k = xs.length ∨ ∃ x y, xs[k]? = some x ∧ ys[k]? = some y ∧ (x == y) = false) → front xs ys = xs.take k
  | 0, [], ys, _, _, _ => by cases ys <;> rfl
  | 0, x :: xs, ys, _, _, h => by
    rcases h with h | ⟨a, b, h1, h2, h3⟩
    · simp at h
    · cases ys with
      | nil => simp at h2
      | cons y ys =>
        simp only [List.getElem?_cons_zero, Option.some.injEq] at h1 h2
        subst h1 h2
        unfold front; rw [h3]; rfl
  | k + 1, [], ys, hk, _, _ => by simp at hk
  | k + 1, x :: xs, [], _, he, _ => by simp at he
  | k + 1, x :: xs, y :: ys, hk, he, h => by
    simp only [List.take_succ_cons, List.cons.injEq] at he
    obtain ⟨rfl, he⟩ := he
    unfold front
    rw [beq_self_eq_true, List.take_succ_cons]
    simp only [if_true]
    rw [front_take k xs ys (by simpa using hk) he]
    rcases h with h | ⟨a, b, h1, h2, h3⟩
    · exact .inl (by simpa using h)
    · exact .inr ⟨a, b, by simpa using h1, by simpa using h2, h3⟩
theorem C262 (H : Base B) {xs ys : List Str} {Q : V → Sto → Prop} (hp : ∀ k, k < xs.length → xs.take k = ys.take k → k < ys.length) (h1 : xs.length ≤ 100) (h2 : ys.length ≤ 100) (h : Q (.tup ((front xs ys).map .str)) σ) : WC B (N + 2) (.ref 262) [.tup (xs.map .str), .tup (ys.map .str)] [] σ Q := by
  refine WC.def_ (H.def_ f262) (WBind.pos2 (fun v u => by rfl)) (by walk_at "kinds") ?_
  have sz := sizeLine_eq
  walk_at "asg"
  refine WE.int ?_
  walk_at "set"
  refine WS.cons (WX.while_ (fun n ρ' σ' => ∃ k : Nat, n = xs.length - k ∧ k ≤ xs.length ∧ xs.take k = ys.take k ∧ σ' = σ ∧ ρ' (Str.ofString "k") = some (.int k) ∧ ρ' (Str.ofString "one") = some (.tup (xs.map .str)) ∧ ρ' (Str.ofString "two") = some (.tup (ys.map .str))) xs.length ⟨0, by simp, by simp, by simp, rfl, by rfl, by rfl, by rfl⟩ ?_)
  rintro n ρ' σ' ⟨k, rfl, hk, he, rfl, e1, e2, e3⟩
  refine WI.and2 (WI.cmp (WE.loc (by rfl) e1 ?_ (by rfl)) (by rfl))
  walk_at "call"
  walk_at "nm"
  refine ⟨trivial, ?_⟩
  walk_at "arg"
  refine WE.loc (by rfl) e2 ?_ (by rfl)
  refine WL.nil (WK.nil (WC.len_tup (by simp; lia) (W2.lt_int (WT.bool ⟨fun q => ?_, fun q => ?_⟩))))
  · have hk' : k < xs.length := by simpa using q
    have hk2 := hp k hk' he
    refine WI.cmp (WE.sub (WE.loc (by rfl) e2 (WE.loc (by rfl) e1 ⟨Sub.tup, W2.item_tup (j := k) (d := .str xs[k]) (seqIndex_nat _ _ (by simpa using hk')) (by simp [hk']) (by lia) (by lia) ?_⟩ (by rfl)) (by rfl)) (fun o i => by rfl)) (by rfl)
    refine WE.sub (WE.loc (by rfl) e3 (WE.loc (by rfl) e1 ⟨Sub.tup, W2.item_tup (j := k) (d := .str ys[k]) (seqIndex_nat _ _ (by simpa using hk2)) (by simp [hk2]) (by lia) (by lia) ?_⟩ (by rfl)) (by rfl)) (fun o i => by rfl)
    refine W2.eq_str (WT.bool ⟨fun q2 => ?_, fun q2 => ?_⟩)
    · refine WS.cons (WX.aug (by rfl) e1 (WE.int (W2.iadd_int (WN.loc (by rfl) (WS.nil ?_)))))
      have q3 : xs[k] = ys[k] := by simpa using q2
      refine ⟨xs.length - (k + 1), by lia, k + 1, rfl, hk', ?_, rfl, by rfl, by rw [Loc.set, if_neg (by decide)]; exact e2, by rw [Loc.set, if_neg (by decide)]; exact e3⟩
      rw [List.take_succ_eq_append_getElem hk', List.take_succ_eq_append_getElem hk2, he, q3]
    · walk_at "ret"
      refine WE.slice (WE.loc (by rfl) e2 ?_ (by rfl))
      change WE _ _ _ _ _ _ _
      refine WE.loc (by rfl) e1 ⟨_, rfl, Sub.tup, WSl.tup_upto (m := k) (by simp; lia) (by simp; lia) ?_⟩ (by rfl)
      rw [front_take k xs ys hk he (.inr ⟨xs[k], ys[k], by simp [hk'], by simp [hk2], q2⟩)] at h
      rw [List.map_take] at h
      exact h
  · have hk' : k = xs.length := by have : ¬ k < xs.length := by simpa using q
                                   lia
    refine ⟨(fun q3 => nomatch q3), fun _ => ?_⟩
    walk_at "ret"
    refine WE.slice (WE.loc (by rfl) e2 ?_ (by rfl))
    change WE _ _ _ _ _ _ _
    refine WE.loc (by rfl) e1 ⟨_, rfl, Sub.tup, WSl.tup_upto (m := k) (by simp; lia) (by simp; lia) ?_⟩ (by rfl)
    rw [front_take k xs ys hk he (.inl hk')] at h
    rw [List.map_take] at h
    exact h
end

section
variable {B : Bs} {N : Nat} {σ : Sto}
noncomputable def textOf (ns : List Str) : Str := slash ++ Txt.join slash ns
noncomputable def signOf (t : Str) (k : Nat) : Str := ⟨#[t.cps.getD k 0]⟩
noncomputable def spelt (es : List (Str × Str)) (t : Str) : List Str := (List.range t.cps.size).map fun k => (es.lookup (signOf t k)).getD (signOf t k)
theorem C255 (H : Base B) {es : List (Str × Str)} {ns : List Str} {a : Addr} {Q : V → Sto → Prop} (ha : σ a = some (.dict es)) (j1 : JoinOk slash ns = true) (l1 : (textOf ns).length ≤ sizeLine) (l2 : (textOf ns).cps.size ≤ 1000) (j2 : JoinOk (Str.ofString "") (spelt es (textOf ns)) = true)
    (h : ∀ b, σ b = none → Q (.str (Txt.join (Str.ofString "") (spelt es (textOf ns)))) (σ.set b (.list ((spelt es (textOf ns)).map .str)))) : WC B (N + 2) (.ref 255) [.tup (ns.map .str), .ref a] [] σ Q := by
  refine WC.def_ (H.def_ f255) (WBind.pos2 (fun v u => by rfl)) (by walk_at "kinds") ?_
  walk_at "ret"
  refine WE.meth (fun _ => "str.join") ?_ (fun env => ⟨_, by rfl⟩) (fun env => by rfl) (fun env pos => by rfl)
  refine WE.str ⟨M.join, ?_⟩
  walk_at "arg"
  refine WE.comp (WIt.of (K := _) ?_ (by lia)) (by rfl) (fun env x => by rfl) (by lia)
  refine WE.bin (WE.str (WE.meth (fun _ => "str.join") ?_ (fun env => ⟨_, by rfl⟩) (fun env => by rfl) (fun env pos => by rfl)))
  refine WE.str ⟨M.join, ?_⟩
  walk_at "arg"
  walk_at "nm"
  refine WL.nil (WK.nil (WC.join_tup j1 (W2.add_str ?_ l1)))
  refine ⟨_, GetIter.str, ?_⟩
  have hz : (spelt es (textOf ns)).length = (textOf ns).cps.size := by simp [spelt]
  refine ⟨l2, fun k out σ' => σ' = σ ∧ out = ((spelt es (textOf ns)).take k).map .str, ⟨rfl, rfl⟩, fun k out σ' _ => trivial, ?_, ?_⟩
  · rintro k out σ' hk ⟨rfl, rfl⟩
    have hk' : k < (spelt es (textOf ns)).length := by rw [hz]; exact hk
    refine WA.name (WN.loc (by rfl) ?_)
    change _ ∧ _
    refine ⟨fun _ => ?_, (fun q => nomatch q)⟩
    refine WE.meth (fun _ => "dict.get") ?_ (fun env => ⟨_, by rfl⟩) (fun env => by rfl) (fun env pos => by rfl)
    refine WE.cel (by rfl) (by rfl) ?_ (by rfl)
    refine ⟨M.get ha, ?_⟩
    walk_at "arg"
    refine WE.loc (by rfl) (by rfl) ?_ (by rfl)
    walk_at "arg"
    refine WE.loc (by rfl) (by rfl) ?_ (by rfl)
    refine WL.nil (WK.nil (WC.dict_get ha ⟨rfl, ?_⟩))
    rw [List.take_succ_eq_append_getElem hk', List.map_append]
    have e : (spelt es (textOf ns))[k] = (es.lookup (signOf (textOf ns) k)).getD (signOf (textOf ns) k) := by simp [spelt]
    rw [e]; rfl
  · rintro out σ' ⟨rfl, rfl⟩ b hb
    have e : (spelt es (textOf ns)).take (textOf ns).cps.size = spelt es (textOf ns) := List.take_of_length_le (by rw [hz]; exact Nat.le_refl _)
    refine WL.nil (WK.nil (WC.join_list (xs := spelt es (textOf ns)) (Eq.trans (Sto.set_self _ _ _) (congrArg (fun z => some (Cell.list (List.map V.str z))) e)) j2 ?_))
    show Q _ (σ'.set b (.list (((spelt es (textOf ns)).take (textOf ns).cps.size).map V.str)))
    rw [e]
    exact h b hb
end

section
variable {B : Bs} {N : Nat} {σ : Sto}
/-- a sign's place in the order -/
noncomputable def signK (es : List (Str × Str)) (c : Str) : Int × Int := if (es.lookup c).isSome then (38, if c == Str.ofString ">" then 0 else 1) else ((c.cps.getD 0 0 : Nat), 0)
noncomputable def rowOf (es : List (Str × Str)) (t : Str) : List (Int × Int) := (List.range t.cps.size).map fun k => signK es (signOf t k)
theorem C250 (H : Base B) {es : List (Str × Str)} {ns : List Str} {a : Addr} {Q : V → Sto → Prop} (ha : σ a = some (.dict es)) (hes : ∀ c, (es.lookup c).isSome = true → c = Str.ofString "<" ∨ c = Str.ofString ">") (j1 : JoinOk slash ns = true) (l1 : (textOf ns).length ≤ sizeLine) (l2 : (textOf ns).cps.size ≤ 1000)
    (h : ∀ b, σ b = none → Q (.tup [.ref b, .tup (ns.map .str)]) (σ.set b (.list ((rowOf es (textOf ns)).map pairV)))) : WC B (N + 2) (.ref 250) [.tup (ns.map .str), .ref a] [] σ Q := by
  refine WC.def_ (H.def_ f250) (WBind.pos2 (fun v u => by rfl)) (by walk_at "kinds") ?_
  walk_at "asg"
  refine WE.lst (WL.nil ⟨by decide, fun r hr => ?_⟩)
  walk_at "set"
  have hra : a ≠ r := by rintro rfl; rw [ha] at hr; cases hr
  refine WS.cons (WX.forT (WIt.of (K := _) ?_ (by lia)) (by lia) (fun env x => by rfl))
  refine WE.bin (WE.str (WE.meth (fun _ => "str.join") ?_ (fun env => ⟨_, by rfl⟩) (fun env => by rfl) (fun env pos => by rfl)))
  refine WE.str ⟨M.join, ?_⟩
  walk_at "arg"
  walk_at "nm"
  refine WL.nil (WK.nil (WC.join_tup j1 (W2.add_str ?_ l1)))
  refine ⟨_, GetIter.str, fun k ρ' σ' => σ' = σ.set r (.list (((rowOf es (textOf ns)).take k).map pairV)) ∧ ρ' (Str.ofString "row") = some (.ref r) ∧ ρ' (Str.ofString "table") = some (.ref a) ∧ ρ' (Str.ofString "names") = some (.tup (ns.map .str)), ⟨rfl, by rfl, by rfl, by rfl⟩, fun k ρ' σ' _ => trivial, ?_, ?_⟩
  · rintro k ρ' σ' Qt hk ⟨rfl, e1, e2, e3⟩ hQt _ _
    have hz : (rowOf es (textOf ns)).length = (textOf ns).cps.size := by simp [rowOf]
    have hk' : k < (rowOf es (textOf ns)).length := by rw [hz]; exact hk
    have hlen : (((rowOf es (textOf ns)).take k).map pairV).length ≤ 1000 := by simp; lia
    have hd : (σ.set r (.list (((rowOf es (textOf ns)).take k).map pairV))) a = some (.dict es) := by rw [Sto.set_ne _ _ hra]; exact ha
    have next : ∀ ρ₂ : Loc, ρ₂ (Str.ofString "row") = some (.ref r) → ρ₂ (Str.ofString "table") = some (.ref a) → ρ₂ (Str.ofString "names") = some (.tup (ns.map .str)) → True := fun _ _ _ _ => trivial
    have e : (rowOf es (textOf ns))[k] = signK es (signOf (textOf ns) k) := by simp [rowOf]
    have step : ((σ.set r (.list (((rowOf es (textOf ns)).take k).map pairV))).set r (.list ((((rowOf es (textOf ns)).take k).map pairV) ++ [pairV (signK es (signOf (textOf ns) k))]))) = σ.set r (.list (((rowOf es (textOf ns)).take (k + 1)).map pairV)) := by
      rw [Sto.set_set, List.take_succ_eq_append_getElem hk', List.map_append, e]; rfl
    refine WA.name (WN.loc (by rfl) ?_)
    refine WS.cons (WX.ite (WI.cmp (WE.loc (by rfl) (by rfl) (WE.loc (by rfl) e2 (W2.in_dict hd (WT.bool ⟨fun q => ?_, fun q => ?_⟩)) (by rfl)) (by rfl)) (by rfl)))
    · have q' : (es.lookup (signOf (textOf ns) k)).isSome = true := q
      have hc : signOf (textOf ns) k = Str.ofString "<" ∨ signOf (textOf ns) k = Str.ofString ">" := hes _ q'
      refine WS.cons (WX.expr (WE.meth (fun _ => "list.append") ?_ (fun env => ⟨_, by rfl⟩) (fun env => by rfl) (fun env pos => by rfl)) (by walk_at "sw"))
      refine WE.loc (by rfl) e1 ⟨M.append (Sto.set_self _ _ _), ?_⟩ (by rfl)
      walk_at "arg"
      refine WE.tup (WL.cons (WE.int ?_) (fun env => by rfl))
      refine WL.cons (WE.meth (fun _ => "str.index") ?_ (fun env => ⟨_, by rfl⟩) (fun env => by rfl) (fun env pos => by rfl)) (fun env => by rfl)
      refine WE.str ⟨M.index, ?_⟩
      walk_at "arg"
      refine WE.loc (by rfl) (by rfl) ?_ (by rfl)
      have hk38 : signK es (signOf (textOf ns) k) = (38, if signOf (textOf ns) k == Str.ofString ">" then 0 else 1) := by unfold signK; rw [if_pos q']
      rw [hk38] at step
      rcases hc with hc | hc
      · have hc' : (⟨#[(Str.ofString "/" ++ Txt.join (Str.ofString "/") ns).cps.getD k 0]⟩ : Str) = Str.ofString "<" := hc
        refine WL.nil (WK.nil (WC.index (i := 1) (rest := []) ?_ (WL.nil ⟨by show 2 ≤ 1000; lia, WL.nil (WK.nil (WC.append (Sto.set_self _ _ _) hlen ?_))⟩)))
        · show Builtin.Str.occurrences _ ⟨#[(Str.ofString "/" ++ Txt.join (Str.ofString "/") ns).cps.getD k 0]⟩ _ _ _ = _
          rw [hc']; decide +kernel
        · refine WS.nil (WS.nil (And.left (hQt _ _ ⟨?_, by rw [Loc.set, if_neg (by decide)]; exact e1, by rw [Loc.set, if_neg (by decide)]; exact e2, by rw [Loc.set, if_neg (by decide)]; exact e3⟩)))
          rw [hc] at step
          exact step
      · have hc' : (⟨#[(Str.ofString "/" ++ Txt.join (Str.ofString "/") ns).cps.getD k 0]⟩ : Str) = Str.ofString ">" := hc
        refine WL.nil (WK.nil (WC.index (i := 0) (rest := []) ?_ (WL.nil ⟨by show 2 ≤ 1000; lia, WL.nil (WK.nil (WC.append (Sto.set_self _ _ _) hlen ?_))⟩)))
        · show Builtin.Str.occurrences _ ⟨#[(Str.ofString "/" ++ Txt.join (Str.ofString "/") ns).cps.getD k 0]⟩ _ _ _ = _
          rw [hc']; decide +kernel
        · refine WS.nil (WS.nil (And.left (hQt _ _ ⟨?_, by rw [Loc.set, if_neg (by decide)]; exact e1, by rw [Loc.set, if_neg (by decide)]; exact e2, by rw [Loc.set, if_neg (by decide)]; exact e3⟩)))
          rw [hc] at step
          exact step
    · refine WS.cons (WX.expr (WE.meth (fun _ => "list.append") ?_ (fun env => ⟨_, by rfl⟩) (fun env => by rfl) (fun env pos => by rfl)) (by walk_at "sw"))
      refine WE.loc (by rfl) e1 ⟨M.append (Sto.set_self _ _ _), ?_⟩ (by rfl)
      walk_at "arg"
      refine WE.tup (WL.cons ?_ (fun env => by rfl))
      walk_at "call"
      walk_at "nm"
      refine ⟨trivial, ?_⟩
      walk_at "arg"
      refine WE.loc (by rfl) (by rfl) ?_ (by rfl)
      have hk0 : signK es (signOf (textOf ns) k) = ((((signOf (textOf ns) k).cps.getD 0 0 : Nat) : Int), 0) := by
        unfold signK
        have q' : (es.lookup (signOf (textOf ns) k)).isSome = false := q
        rw [if_neg (by rw [q']; simp)]
      rw [hk0] at step
      refine WL.nil (WK.nil (WC.ord (by rfl) (WL.cons (WE.int (WL.nil ⟨by show 2 ≤ 1000; lia, WL.nil (WK.nil (WC.append (Sto.set_self _ _ _) hlen ?_))⟩)) (fun env => by rfl))))
      refine WS.nil (WS.nil (And.left (hQt _ _ ⟨?_, by rw [Loc.set, if_neg (by decide)]; exact e1, by rw [Loc.set, if_neg (by decide)]; exact e2, by rw [Loc.set, if_neg (by decide)]; exact e3⟩)))
      exact step
  · rintro ρ' σ' ⟨rfl, e1, e2, e3⟩
    have hz : (rowOf es (textOf ns)).length = (textOf ns).cps.size := by simp [rowOf]
    have e : (rowOf es (textOf ns)).take (textOf ns).cps.size = rowOf es (textOf ns) := List.take_of_length_le (by rw [hz]; exact Nat.le_refl _)
    walk_at "ret"
    refine WE.tup (WL.cons (WE.loc (by rfl) e1 (WL.cons (WE.loc (by rfl) e3 (WL.nil ⟨by show 2 ≤ 1000; lia, ?_⟩) (by rfl)) (fun env => by rfl)) (by rfl)) (fun env => by rfl))
    show Q _ (σ.set r (.list (((rowOf es (textOf ns)).take (textOf ns).cps.size).map pairV)))
    rw [e]
    exact h r hr
end

section
variable {B : Bs} {N : Nat} {σ : Sto}
/-- what is in a store stays in it -/
noncomputable def sle (σ σ' : Sto) : Prop := ∀ a c, σ a = some c → σ' a = some c
theorem sle.refl {σ : Sto} : sle σ σ := fun _ _ h => h
theorem sle.trans {σ σ' σ'' : Sto} (h : sle σ σ') (k : sle σ' σ'') : sle σ σ'' := fun a c e => k a c (h a c e)
theorem sle.new {σ : Sto} {a : Addr} {c : Cell} (h : σ a = none) : sle σ (σ.set a c) := fun b d e => by
  rw [Sto.set_ne _ _ (by rintro rfl; rw [h] at e; cases e)]; exact e
theorem sle.set {σ σ' : Sto} {a : Addr} {c : Cell} (h : sle σ σ') (k : σ' a = none) : sle σ (σ'.set a c) := h.trans (sle.new k)
theorem RowsAt.mono {σ σ' : Sto} {as : List Addr} {rows : List (List Str)} (h : RowsAt σ as rows) (k : sle σ σ') : RowsAt σ' as rows := ⟨h.1, fun i a e => k _ _ (h.2 i a e)⟩
theorem RowsAt.nil {σ : Sto} : RowsAt σ [] [] := ⟨rfl, fun i a e => by simp at e⟩
theorem RowsAt.snoc {σ : Sto} {as : List Addr} {rows : List (List Str)} {a : Addr} {r : List Str} (h : RowsAt σ as rows) (k : σ a = none) : RowsAt (σ.set a (.list (r.map .str))) (as ++ [a]) (rows ++ [r]) := by
  refine ⟨by simp [h.1], fun i b e => ?_⟩
  by_cases q : i < as.length
  · rw [List.getElem?_append_left q] at e
    have q' : i < rows.length := h.1 ▸ q
    have e' := h.2 i b e
    have e2 : (rows ++ [r]).getD i [] = rows.getD i [] := by simp [List.getD_eq_getElem?_getD, List.getElem?_append_left q']
    rw [e2]; exact sle.new k _ _ e'
  · have : i = as.length := by
      have h1 := List.getElem?_eq_some_iff.mp e
      obtain ⟨h2, _⟩ := h1
      simp at h2; lia
    subst this
    rw [List.getElem?_append_right (Nat.le_refl _), Nat.sub_self] at e
    obtain rfl : a = b := by simpa using e
    have e2 : (rows ++ [r]).getD as.length [] = r := by rw [h.1]; simp
    rw [e2]; exact Sto.set_self _ _ _

noncomputable def dot : Str := Str.ofString "."
noncomputable def keepC (c : Str) : Bool := (c.length != 0) && (c != dot)
noncomputable def splitF (x : Str) : List Str := (Txt.split x slash).filter keepC
noncomputable def minRow (rows : List (List Str)) : List Str := rows.getD (argBest (fun i j => slt (rows.getD i []) (rows.getD j [])) (rows.length - 1)) []
noncomputable def maxRow (rows : List (List Str)) : List Str := rows.getD (argBest (fun i j => slt (rows.getD j []) (rows.getD i [])) (rows.length - 1)) []
noncomputable def commonF (rows : List (List Str)) : Str := slash ++ Txt.join slash (front (minRow rows) (maxRow rows))
/-- what is asked of a path -/
noncomputable def cpOk (x : Str) : Bool := Txt.startswith x slash && decide (x.length ≤ 1000) && decide ((Builtin.Str.partsBetween x (Builtin.Str.occurrences x slash 0 x.length (x.length + 1)) slash.length).length ≤ 1000) && decide ((Txt.split x slash).length ≤ 1000) && (Txt.split x slash).all fun c => decide (c.length ≤ 1000)

theorem filter_take {α : Type} (p : α → Bool) (xs : List α) {k : Nat} (hk : k < xs.length) : (xs.take (k + 1)).filter p = (xs.take k).filter p ++ (if p xs[k] = true then [xs[k]] else []) := by
  rw [List.take_succ_eq_append_getElem hk, List.filter_append]
  congr 1
  by_cases h : p xs[k] = true
  · simp [h]
  · simp [h]
theorem best_mem {bt : Nat → Nat → Bool} {rows : List (List Str)} (h : 0 < rows.length) : rows.getD (argBest bt (rows.length - 1)) [] ∈ rows := by
  have hb : argBest bt (rows.length - 1) < rows.length := by have := argBest_lt bt (rows.length - 1); lia
  rw [List.getD_eq_getElem?_getD, List.getElem?_eq_getElem hb]
  exact List.getElem_mem hb
theorem minRow_mem {rows : List (List Str)} (h : 0 < rows.length) : minRow rows ∈ rows := best_mem h
theorem maxRow_mem {rows : List (List Str)} (h : 0 < rows.length) : maxRow rows ∈ rows := best_mem h
theorem WX.mono {sc : Sc} {ρ : Loc} {st : Stmt} {P Q : Fl → Loc → Sto → Prop} (h : WX B sc N st ρ σ P) (k : ∀ f ρ' σ', P f ρ' σ' → Q f ρ' σ') : WX B sc N st ρ σ Q := .mk fun A F s R X O =>
  wpAny_mono (h.run A F s R X O) (fun v s' ⟨d, ρ', σ', P, r, q⟩ => ⟨d, ρ', σ', P, r, k _ _ _ q⟩) fun _ _ f => f
theorem C169 (H : Base B) {l : Addr} {xs : List Str} {Q : V → Sto → Prop} (hl : σ l = some (.list (xs.map .str))) (hn : 0 < xs.length) (hn2 : xs.length ≤ 1000) (ok : ∀ x ∈ xs, cpOk x = true)
    (hp : ∀ k, k < (minRow (xs.map splitF)).length → (minRow (xs.map splitF)).take k = (maxRow (xs.map splitF)).take k → k < (maxRow (xs.map splitF)).length)
    (j1 : JoinOk slash (front (minRow (xs.map splitF)) (maxRow (xs.map splitF))) = true) (j2 : (commonF (xs.map splitF)).length ≤ sizeLine)
    (h : ∀ σ', sle σ σ' → Q (.str (commonF (xs.map splitF))) σ') : WC B (N + 6) (.ref 169) [.ref l] [] σ Q := by
  refine WC.def_ (H.def_ f169) (WBind.pos1 (fun v => by rfl)) (by walk_at "kinds") ?_
  have sz := sizeLine_eq
  have hx0 : xs ≠ [] := by intro e; rw [e] at hn; simp at hn
  walk_at "asg"
  refine WE.tupMap (N := N + 1) ?_ (fun env => by rfl) (fun env => by rfl) (fun env => by rfl) (fun env => by rfl)
  walk_at "nm"
  refine ⟨rfl, ?_⟩
  walk_at "nm"
  refine ⟨rfl, ?_⟩
  walk_at "arg"
  walk_at "nm"
  walk_at "arg"
  walk_at "nm"
  refine WL.nil ⟨136, l, xs.map .str, id, rfl, hl, by simpa using hn2, fun i d σ hd => ?_, fun I S hI hS hIS => ?_⟩
  · rw [List.getElem?_map] at hd
    obtain ⟨x, _, rfl⟩ := Option.map_eq_some_iff.mp hd
    exact C136 H ⟨rfl, rfl⟩
  rw [List.map_id]
  generalize hσ1 : (σ.set I Cell.junk).set S (Cell.list (List.map V.str xs)) = σ1
  have le1 : sle σ σ1 := by
    rw [← hσ1]
    exact (sle.new hI).set (by rw [Sto.set_ne _ _ (Ne.symm hIS)]; exact hS)
  walk_at "set"
  refine WS.cons (WX.ite (WI.not (WI.val (WE.loc (by rfl) (by rfl) (WT.tup (by simp; lia) ⟨fun q => ?_, fun q => ?_⟩) (by rfl)) (fun env w => by rfl))))
  · exfalso; cases xs with
    | nil => exact hx0 rfl
    | cons a r => simp at q
  refine WS.nil ?_
  refine WS.cons (WX.ite (WI.val ?_ (fun env w => by rfl)))
  walk_at "call"
  walk_at "nm"
  refine ⟨trivial, ?_⟩
  walk_at "arg"
  refine WE.sub (WE.loc (by rfl) (by rfl) (WE.int ⟨Sub.tup, W2.item_tup (j := 0) (d := .str xs[0]) (seqIndex_nat 0 _ (by simpa using hn)) (by simp [hn]) (by lia) (by lia) ?_⟩) (by rfl)) (fun o i => by rfl)
  walk_at "arg"
  walk_at "nm"
  refine WL.nil (WK.nil (WC.isinstance_str_bytes (WT.bool ⟨(fun q => nomatch q), fun _ => ?_⟩)))
  walk_at "asg"
  refine WE.str ?_
  refine WA.name (WN.cel (by rfl) (by rfl) ?_)
  walk_at "asg"
  refine WE.str ?_
  refine WA.name (WN.cel (by rfl) (by rfl) ?_)
  refine WS.nil ?_
  refine WS.cons (WX.try_ ?_)
  refine WS.cons (WX.asgComp (WIt.of (K := _) ?_ (by lia)) (by rfl) (fun env x => by rfl) (by lia) (by walk_at "sw"))
  walk_at "nm"
  refine ⟨_, GetIter.tup, CompTurns.of ⟨by simpa using hn2, fun k out σ' => ∃ as, out = as.map V.ref ∧ sle σ1 σ' ∧ RowsAt σ' as ((xs.map fun x => Txt.split x slash).take k), ⟨[], rfl, .refl, by simpa using RowsAt.nil⟩, fun k out σ' _ => trivial, ?_, ?_⟩⟩
  · rintro k out σ' Kt Kf hk ⟨as, rfl, hle, hr⟩ hKt _
    have hk' : k < xs.length := by simpa using hk
    have hk2 : k < (xs.map fun x => Txt.split x slash).length := by simpa using hk'
    have okx := ok _ (List.getElem_mem hk')
    simp only [cpOk, Bool.and_eq_true, decide_eq_true_eq] at okx
    have hit : (srcOf (xs.map V.str).length (fun k => (xs.map V.str).getD k V.none) fun _ _ => True).item k = .str xs[k] := by
      show (xs.map V.str).getD k V.none = _
      simp [hk']
    rw [hit]
    refine WA.name (WN.loc (by rfl) ?_)
    change _ ∧ _
    refine ⟨fun _ => ?_, (fun q => nomatch q)⟩
    refine WE.meth (fun _ => "str.split") ?_ (fun env => ⟨_, by rfl⟩) (fun env => by rfl) (fun env pos => by rfl)
    refine WE.loc (by rfl) (by rfl) ?_ (by rfl)
    refine ⟨M.split, ?_⟩
    walk_at "arg"
    refine WE.cel (by rfl) (by rfl) ?_ (by rfl)
    refine WL.nil (WK.nil (WC.split (by rfl) (by lia) (Nat.le_trans okx.1.1.2 (by lia)) fun a ha => ?_))
    refine hKt _ _ ⟨as ++ [a], by simp, hle.set ha, ?_⟩
    rw [List.take_succ_eq_append_getElem hk2, List.getElem_map]
    exact hr.snoc ha
  rintro out σ2 ⟨as, rfl, hle2, hr2⟩ sp hsp
  rw [show (srcOf (xs.map V.str).length (fun k => (xs.map V.str).getD k V.none) fun _ _ => True).n = xs.length by simp [srcOf], List.take_of_length_le (by simp)] at hr2
  refine WN.loc (by rfl) ?_
  refine WS.cons (WX.try_ ?_)
  change σ2 sp = none at hsp
  change WS _ _ _ _ _ (σ2.set sp (.list (as.map V.ref))) _
  have hle3 : sle σ2 (σ2.set sp (.list (as.map V.ref))) := sle.new hsp
  have hsp3 : (σ2.set sp (.list (as.map V.ref))) sp = some (.list (as.map V.ref)) := Sto.set_self _ _ _
  generalize (σ2.set sp (.list (as.map V.ref))) = σ3 at hle3 hsp3
  have hr3 := hr2.mono hle3
  have le3 := (le1.trans hle2).trans hle3
  clear hr2 hle3 hle2 hsp le1 hσ1
  refine WS.cons (WX.asgSet1 (WIt.of (K := _) ?_ (by lia)) (by rfl) (fun env x => by rfl) (by lia) (by walk_at "sw") (by walk_at "sw"))
  refine WE.loc (by rfl) (by rfl) ?_ (by rfl)
  refine ⟨_, GetIter.tup, by simpa using hn, by simpa using hn2, fun k σ' => σ' = σ3, rfl, fun k σ' _ => trivial, ?_, ?_⟩
  · rintro k σ' hk rfl
    have hk' : k < xs.length := by simpa using hk
    have okx := ok _ (List.getElem_mem hk')
    simp only [cpOk, Bool.and_eq_true, decide_eq_true_eq] at okx
    have hit : (srcOf (xs.map V.str).length (fun k => (xs.map V.str).getD k V.none) fun _ _ => True).item k = .str xs[k] := by
      show (xs.map V.str).getD k V.none = _
      simp [hk']
    rw [hit]
    refine WA.name (WN.loc (by rfl) ?_)
    refine WE.meth (fun _ => "str.startswith") ?_ (fun env => ⟨_, by rfl⟩) (fun env => by rfl) (fun env pos => by rfl)
    refine WE.loc (by rfl) (by rfl) ?_ (by rfl)
    refine ⟨M.startswith, ?_⟩
    walk_at "arg"
    refine WE.cel (by rfl) (by rfl) ?_ (by rfl)
    refine WL.nil (WK.nil (WC.startswith ⟨?_, rfl⟩))
    exact congrArg V.bool okx.1.1.1.1
  rintro σ' rfl
  change WN _ _ _ _ _ σ' _
  refine WN.loc (by rfl) (WS.nil (WS.nil ?_))
  refine WS.cons (WX.asgComp (WIt.of (K := _) ?_ (by lia)) (by rfl) (fun env x => by rfl) (by lia) (by walk_at "sw"))
  refine WE.loc (by rfl) (by rfl) ?_ (by rfl)
  have hal : as.length = xs.length := by rw [hr3.1]; simp
  refine ⟨_, GetIter.list hsp3, CompTurns.of ⟨by simpa [hal] using hn2, fun k out σ4 => ∃ bs, out = bs.map V.ref ∧ sle σ' σ4 ∧ RowsAt σ4 bs ((xs.map splitF).take k), ⟨[], rfl, .refl, by simpa using RowsAt.nil⟩, fun k out σ4 q => ex1 (fun _ q => q.2.1 _ _ hsp3) q, ?_, ?_⟩⟩
  · rintro k out σ4 Kt Kf hk ⟨bs, rfl, hle, hr⟩ hKt _
    have hk1 : k < as.length := by simpa using hk
    have hk' : k < xs.length := hal ▸ hk1
    have hk2 : k < (xs.map splitF).length := by simpa using hk'
    have okx := ok _ (List.getElem_mem hk')
    simp only [cpOk, Bool.and_eq_true, decide_eq_true_eq, List.all_eq_true] at okx
    have hit : (srcOf (as.map V.ref).length (fun k => (as.map V.ref).getD k V.none) fun _ σ5 => σ5 sp = some (.list (as.map V.ref))).item k = .ref as[k] := by
      show (as.map V.ref).getD k V.none = _
      simp [hk1]
    rw [hit]
    have hrow : σ4 as[k] = some (.list ((Txt.split xs[k] slash).map .str)) := by
      have e := hle _ _ (hr3.2 k as[k] (by simp [hk1]))
      simpa [hk'] using e
    refine WA.name (WN.loc (by rfl) ?_)
    change _ ∧ _
    refine ⟨fun _ => ?_, (fun q => nomatch q)⟩
    refine WE.comp (WIt.of (K := _) ?_ (by lia)) (by rfl) (fun env x => by rfl) (by lia)
    refine WE.loc (by rfl) (by rfl) ?_ (by rfl)
    refine ⟨_, GetIter.list hrow, CompTurns.of ⟨by simpa using okx.1.2, fun j out σ5 => σ5 = σ4 ∧ out = (((Txt.split xs[k] slash).take j).filter keepC).map .str, ⟨rfl, by simp⟩, fun j out σ5 e => by rw [e.1]; exact hrow, ?_, ?_⟩⟩
    · rintro j out σ5 Lt Lf hj ⟨rfl, rfl⟩ hLt hLf
      have hj' : j < (Txt.split xs[k] slash).length := by simpa using hj
      have hit : (srcOf ((Txt.split xs[k] slash).map V.str).length (fun j => ((Txt.split xs[k] slash).map V.str).getD j V.none) fun _ σ6 => σ6 as[k] = some (.list ((Txt.split xs[k] slash).map V.str))).item j = .str (Txt.split xs[k] slash)[j] := by
        show ((Txt.split xs[k] slash).map V.str).getD j V.none = _
        simp [hj']
      rw [hit]
      have hc := okx.2 _ (List.getElem_mem hj')
      have ft := filter_take keepC _ hj'
      refine WA.name (WN.loc (by rfl) ?_)
      refine WI.and2 (WI.val (WE.loc (by rfl) (by rfl) (WT.str ⟨fun q => ?_, fun q => ?_⟩ (by lia)) (by rfl)) (fun env w => by rfl))
      · refine WI.cmp (WE.loc (by rfl) (by rfl) (WE.cel (by rfl) (by rfl) (W2.ne_str (WT.bool ⟨fun q2 => ?_, fun q2 => ?_⟩)) (by rfl)) (by rfl)) (by rfl)
        · refine WE.loc (by rfl) (by rfl) (hLt _ _ ⟨rfl, ?_⟩) (by rfl)
          have q3 : keepC (Txt.split xs[k] slash)[j] = true := by unfold keepC; rw [q]; exact q2
          rw [ft, q3]; simp
        · refine hLf _ ⟨rfl, ?_⟩
          have q3 : keepC (Txt.split xs[k] slash)[j] = false := by unfold keepC; rw [q]; exact q2
          rw [ft, q3]; simp
      · refine ⟨(fun q2 => nomatch q2), fun _ => hLf _ ⟨rfl, ?_⟩⟩
        have q3 : keepC (Txt.split xs[k] slash)[j] = false := by unfold keepC; rw [q]; rfl
        rw [ft, q3]; simp
    rintro out σ5 ⟨rfl, rfl⟩ a ha
    change σ5 a = none at ha
    change Kt _ _
    rw [show (srcOf ((Txt.split xs[k] slash).map V.str).length (fun j => ((Txt.split xs[k] slash).map V.str).getD j V.none) fun _ σ6 => σ6 as[k] = some (.list ((Txt.split xs[k] slash).map V.str))).n = (Txt.split xs[k] slash).length by simp [srcOf], List.take_length]
    refine hKt _ _ ⟨bs ++ [a], by simp, hle.set ha, ?_⟩
    rw [List.take_succ_eq_append_getElem hk2, List.getElem_map]
    exact hr.snoc ha
  rintro out σ4 ⟨bs, rfl, hle4, hr4⟩ sq hsq
  rw [show (srcOf (as.map V.ref).length (fun k => (as.map V.ref).getD k V.none) fun _ σ5 => σ5 sp = some (.list (as.map V.ref))).n = (xs.map splitF).length by simp [srcOf, hal], List.take_length] at hr4
  change σ4 sq = none at hsq
  change WN _ _ _ _ _ (σ4.set sq (.list (bs.map V.ref))) _
  have hle5 : sle σ4 (σ4.set sq (.list (bs.map V.ref))) := sle.new hsq
  have hsq5 : (σ4.set sq (.list (bs.map V.ref))) sq = some (.list (bs.map V.ref)) := Sto.set_self _ _ _
  generalize (σ4.set sq (.list (bs.map V.ref))) = σ5 at hle5 hsq5
  have hr5 := hr4.mono hle5
  have le5 := (le3.trans hle4).trans hle5
  clear hr4 hle5 hle4 hsq le3 hr3 hsp3
  generalize hrows : xs.map splitF = rows at *
  have hbl : bs.length = rows.length := hr5.1
  have hrl : 0 < rows.length := by rw [← hrows]; simpa using hn
  have hlen : ∀ r ∈ rows, r.length ≤ 1000 := fun r hr => by
    rw [← hrows] at hr
    obtain ⟨x, hx, rfl⟩ := List.mem_map.mp hr
    have okx := ok x hx
    simp only [cpOk, Bool.and_eq_true, decide_eq_true_eq] at okx
    exact Nat.le_trans (List.length_filter_le _ _) okx.1.2
  have l1 := hlen _ (minRow_mem hrl)
  have l2 := hlen _ (maxRow_mem hrl)
  refine WN.loc (by rfl) ?_
  walk_at "asg"
  walk_at "call"
  walk_at "nm"
  refine ⟨trivial, ?_⟩
  walk_at "arg"
  refine WE.loc (by rfl) (by rfl) ?_ (by rfl)
  refine WL.nil (WK.nil (WC.min_rows hsq5 hr5 (by lia) (by lia) fun k1 a1 e1 g1 => ?_))
  have c1 : σ5 a1 = some (.list ((minRow rows).map .str)) := by
    have := hr5.2 k1 a1 g1
    rw [e1, hbl] at this; exact this
  walk_at "set"
  walk_at "asg"
  walk_at "call"
  walk_at "nm"
  refine ⟨trivial, ?_⟩
  walk_at "arg"
  refine WE.loc (by rfl) (by rfl) ?_ (by rfl)
  refine WL.nil (WK.nil (WC.max_rows hsq5 hr5 (by lia) (by lia) fun k2 a2 e2 g2 => ?_))
  have c2 : σ5 a2 = some (.list ((maxRow rows).map .str)) := by
    have := hr5.2 k2 a2 g2
    rw [e2, hbl] at this; exact this
  walk_at "set"
  walk_at "asg"
  refine WE.loc (by rfl) (by rfl) ?_ (by rfl)
  walk_at "set"
  generalize hm1 : minRow rows = s1 at *
  generalize hm2 : maxRow rows = s2 at *
  refine WS.cons (WX.mono (P := fun f ρ' σ' => f = .next ∧ ∃ c, ρ' (Str.ofString "common") = some (.ref c) ∧ σ' c = some (.list ((front s1 s2).map .str)) ∧ ρ' (Str.ofString "sep") = some (.str slash) ∧ ρ' (Str.ofString "isabs") = some (.bool true) ∧ sle σ5 σ') (WX.forT (WIt.call ?_ (fun env => by rfl) (fun env => by rfl)) (by lia) (fun env x => by rfl)) ?_)
  · walk_at "nm"
    refine ⟨trivial, ?_⟩
    walk_at "arg"
    refine WE.loc (by rfl) (by rfl) ?_ (by rfl)
    refine WL.nil (WCI.enumerate c1 ?_)
    refine ⟨fun k ρ' σ' => σ' = σ5 ∧ s1.take k = s2.take k ∧ ρ' (Str.ofString "common") = some (.ref a1) ∧ ρ' (Str.ofString "s1") = some (.ref a1) ∧ ρ' (Str.ofString "s2") = some (.ref a2) ∧ ρ' (Str.ofString "sep") = some (.str slash) ∧ ρ' (Str.ofString "isabs") = some (.bool true), ⟨rfl, by simp, by rfl, by rfl, by rfl, by rfl, by rfl⟩, fun k ρ' σ' ⟨e, _⟩ => by rw [e]; exact c1, ?_, ?_⟩
    · rintro k ρ' σ' Qt hk ⟨rfl, ht, n1, n2, n3, n4, n5⟩ hQt hbr _
      have hk' : k < s1.length := by simpa using hk
      have hk2 := hp k hk' ht
      change WA _ _ _ _ (.tup [.int k, (s1.map V.str).getD k .none]) _ _ _
      rw [show (s1.map V.str).getD k .none = .str s1[k] by simp [hk']]
      refine WA.tup (by rfl) (by rfl) ?_
      change WN _ _ _ _ _ _ _
      refine WN.loc (by rfl) ?_
      change WN _ _ _ _ _ _ _
      refine WN.loc (by rfl) ?_
      change WS _ _ _ _ _ _ _
      have ne : ∀ {x y : Str} {d : V} {ρ : Loc}, x ≠ y → (ρ.set y d) x = ρ x := fun h => by rw [Loc.set, if_neg h]
      have m1 := (ne (x := Str.ofString "common") (y := Str.ofString "c") (d := .str s1[k]) (ρ := ρ'.set (Str.ofString "i") (.int k)) (by decide)).trans ((ne (by decide)).trans n1)
      have m2 := (ne (x := Str.ofString "s1") (y := Str.ofString "c") (d := .str s1[k]) (ρ := ρ'.set (Str.ofString "i") (.int k)) (by decide)).trans ((ne (by decide)).trans n2)
      have m3 := (ne (x := Str.ofString "s2") (y := Str.ofString "c") (d := .str s1[k]) (ρ := ρ'.set (Str.ofString "i") (.int k)) (by decide)).trans ((ne (by decide)).trans n3)
      have m4 := (ne (x := Str.ofString "sep") (y := Str.ofString "c") (d := .str s1[k]) (ρ := ρ'.set (Str.ofString "i") (.int k)) (by decide)).trans ((ne (by decide)).trans n4)
      have m5 := (ne (x := Str.ofString "isabs") (y := Str.ofString "c") (d := .str s1[k]) (ρ := ρ'.set (Str.ofString "i") (.int k)) (by decide)).trans ((ne (by decide)).trans n5)
      refine WS.cons (WX.ite (WI.cmp (WE.loc (by rfl) (by rfl) (WE.sub (WE.loc (by rfl) m3 (WE.loc (by rfl) (by rfl) ⟨Sub.list c2, W2.item c2 (d := .str s2[k]) (by simp [hk2]) (by simp; lia) (W2.ne_str (WT.bool ⟨fun q => ?_, fun q => ?_⟩))⟩ (by rfl)) (by rfl)) (fun o i => by rfl)) (by rfl)) (by rfl)))
      · walk_at "asg"
        refine WE.slice (WE.loc (by rfl) m2 ?_ (by rfl))
        change WE _ _ _ _ _ _ _
        refine WE.loc (by rfl) (by rfl) ⟨_, rfl, Sub.list c1, WSl.list_upto c1 (by lia) (by simp; lia) fun b hb => ?_⟩ (by rfl)
        refine WA.name (WN.loc (by rfl) (WS.cons (WX.brk (hbr _ _ ⟨rfl, b, by rfl, ?_, ?_, ?_, sle.new hb⟩))))
        · have q2 : (s1[k] == s2[k]) = false := by simpa [bne] using q
          rw [Sto.set_self, front_take k s1 s2 (by lia) ht (.inr ⟨s1[k], s2[k], by simp [hk'], by simp [hk2], q2⟩)]; simp
        · exact (ne (by decide)).trans m4
        · exact (ne (by decide)).trans m5
      · refine WS.nil (WS.nil (hQt _ _ ⟨rfl, ?_, m1, m2, m3, m4, m5⟩).1)
        have q2 : s1[k] = s2[k] := by simpa [bne] using q
        rw [List.take_succ_eq_append_getElem hk', List.take_succ_eq_append_getElem hk2, ht, q2]
    · rintro ρ' σ' ⟨rfl, ht, n1, n2, n3, n4, n5⟩
      refine ⟨rfl, a1, n1, ?_, n4, n5, .refl⟩
      have hz : (⟨(s1.map V.str).length, fun k => .tup [.int k, (s1.map V.str).getD k .none], fun _ σ6 => σ6 a1 = some (.list (s1.map .str)), fun _ σ => σ, fun σ => σ⟩ : Src).n = s1.length := by simp
      rw [show (⟨(s1.map V.str).length, fun k => .tup [.int k, (s1.map V.str).getD k .none], fun _ σ6 => σ6 a1 = some (.list (s1.map .str)), fun _ σ => σ, fun σ => σ⟩ : Src).n = s1.length by simp] at ht
      rw [front_take s1.length s1 s2 (Nat.le_refl _) ht (.inl rfl), List.take_length]
      exact c1
  rintro f ρ' σ' ⟨rfl, c, n1, hc, n4, n5, hle⟩
  walk_at "asg"
  refine WE.ife (WI.val (WE.loc (by rfl) n5 (WT.bool ⟨fun _ => ?_, (fun q => nomatch q)⟩) (by rfl)) (fun env w => by rfl))
  refine WE.cel (by rfl) n4 ?_ (by rfl)
  walk_at "set"
  walk_at "ret"
  have ne : ∀ {x y : Str} {d : V} {ρ : Loc}, x ≠ y → (ρ.set y d) x = ρ x := fun h => by rw [Loc.set, if_neg h]
  refine WE.bin (WE.loc (by rfl) (by rfl) ?_ (by rfl))
  refine WE.meth (fun _ => "str.join") ?_ (fun env => ⟨_, by rfl⟩) (fun env => by rfl) (fun env pos => by rfl)
  refine WE.cel (by rfl) ((ne (by decide)).trans n4) ?_ (by rfl)
  refine ⟨M.join, ?_⟩
  walk_at "arg"
  refine WE.loc (by rfl) ((ne (by decide)).trans n1) ?_ (by rfl)
  have hcm : commonF rows = slash ++ Txt.join slash (front s1 s2) := by unfold commonF; rw [hm1, hm2]
  refine WL.nil (WK.nil (WC.join_list hc j1 (W2.add_str ?_ (by rw [← hcm]; exact j2))))
  rw [← hcm]
  exact h _ (le5.trans hle)
end

section
variable {O : KeyOrd}
noncomputable def kf (key : V → O.α) (zs : List V) (i : Nat) : O.α := key (zs.getD i .none)
theorem kf_set {key : V → O.α} {zs : List V} {p : Nat} {v : V} (hp : p < zs.length) : kf key (zs.set p v) = fun i => if i = p then key v else kf key zs i := by
  funext i
  unfold kf
  by_cases h : i = p
  · subst h; simp [hp]
  · rw [if_neg h]; simp [List.getD_eq_getElem?_getD, List.getElem?_set, Ne.symm h]
noncomputable def Edges (s n p : Nat) (f : Nat → O.α) : Prop := ∀ i, 0 < i → i < n → s ≤ (i - 1) / 2 → i ≠ p → (i - 1) / 2 ≠ p → O.kle (f ((i - 1) / 2)) (f i)
noncomputable def Skip (s n p : Nat) (f : Nat → O.α) : Prop := p ≠ s → ∀ c, 0 < c → c < n → (c - 1) / 2 = p → O.kle (f ((p - 1) / 2)) (f c)
noncomputable def Kids (n p : Nat) (f : Nat → O.α) (x : O.α) : Prop := ∀ c, 0 < c → c < n → (c - 1) / 2 = p → O.kle x (f c)
noncomputable def HeapFrom (s n : Nat) (f : Nat → O.α) : Prop := ∀ i, 0 < i → i < n → s ≤ (i - 1) / 2 → O.kle (f ((i - 1) / 2)) (f i)
inductive Desc (s : Nat) : Nat → Prop
  | refl : Desc s s
  | child {p c : Nat} : Desc s p → 0 < c → (c - 1) / 2 = p → Desc s c
theorem Desc.le {s p : Nat} (h : Desc s p) : s ≤ p := by
  induction h with
  | refl => exact Nat.le_refl _
  | child _ h1 h2 ih => lia
theorem Desc.up {s p : Nat} (h : Desc s p) (ne : p ≠ s) : 0 < p ∧ Desc s ((p - 1) / 2) := by
  cases h with
  | refl => exact absurd rfl ne
  | child h h1 h2 => subst h2; exact ⟨h1, h⟩

theorem down_step {s n p c : Nat} {f : Nat → O.α} (hd : Desc s p) (e : Edges s n p f) (k : Skip s n p f) (hc0 : 0 < c) (hc : c < n) (hpc : (c - 1) / 2 = p) (hm : Kids n p f (f c)) :
    Edges s n c (fun i => if i = p then f c else f i) ∧ Skip s n c (fun i => if i = p then f c else f i) := by
  have hsp := hd.le
  refine ⟨fun i h0 hi hs h1 h2 => ?_, fun hcs d h0 hd' hdc => ?_⟩
  · dsimp only
    by_cases q : i = p
    · subst q
      have ne : i ≠ s := by lia
      rw [if_neg (by lia), if_pos rfl]
      exact k ne c hc0 hc hpc
    · rw [if_neg q]
      by_cases q2 : (i - 1) / 2 = p
      · rw [if_pos q2]; exact hm i h0 hi q2
      · rw [if_neg q2]; exact e i h0 hi hs q q2
  · dsimp only
    rw [if_pos hpc, if_neg (by lia)]
    have := e d h0 hd' (by lia) (by lia) (by lia)
    rw [hdc] at this; exact this

theorem up_step {s n p : Nat} {f : Nat → O.α} {x : O.α} (hd : Desc s p) (hp : p < n) (ne : p ≠ s) (e : Edges s n p f) (k : Skip s n p f) (hx : Kids n p f x) (lt : O.klt x (f ((p - 1) / 2))) :
    Edges s n ((p - 1) / 2) (fun i => if i = p then f ((p - 1) / 2) else f i) ∧ Skip s n ((p - 1) / 2) (fun i => if i = p then f ((p - 1) / 2) else f i) ∧ Kids n ((p - 1) / 2) (fun i => if i = p then f ((p - 1) / 2) else f i) x := by
  obtain ⟨p0, hq⟩ := hd.up ne
  have hsq := hq.le
  refine ⟨fun i h0 hi hs h1 h2 => ?_, fun hqs c h0 hc hcq => ?_, fun c h0 hc hcq => ?_⟩
  · dsimp only
    have ip : ¬ i = p := by rintro rfl; exact h2 rfl
    rw [if_neg ip]
    by_cases q2 : (i - 1) / 2 = p
    · rw [if_pos q2]; exact k ne i h0 hi q2
    · rw [if_neg q2]; exact e i h0 hi hs ip q2
  · dsimp only
    obtain ⟨q0, hr⟩ := hq.up hqs
    have h1 : O.kle (f (((p - 1) / 2 - 1) / 2)) (f ((p - 1) / 2)) := e _ q0 (by lia) hr.le (by lia) (by lia)
    rw [if_neg (by lia)]
    by_cases q : c = p
    · rw [if_pos q]; exact h1
    · rw [if_neg q]
      have h2 := e c h0 hc (by lia) q (by lia)
      rw [hcq] at h2
      exact KeyOrd.kle_trans h1 h2
  · dsimp only
    have h1 : O.kle x (f ((p - 1) / 2)) := KeyOrd.kle_of_klt lt
    by_cases q : c = p
    · rw [if_pos q]; exact h1
    · rw [if_neg q]
      have h2 := e c h0 hc (by lia) q (by lia)
      rw [hcq] at h2
      exact KeyOrd.kle_trans h1 h2
theorem up_end {s n p : Nat} {f : Nat → O.α} {x : O.α} (hd : Desc s p) (e : Edges s n p f) (hx : Kids n p f x) (h : p = s ∨ O.kle (f ((p - 1) / 2)) x) : HeapFrom s n (fun i => if i = p then x else f i) := by
  have hsp := hd.le
  intro i h0 hi hs
  dsimp only
  by_cases q : i = p
  · subst q
    rw [if_neg (by lia), if_pos rfl]
    rcases h with h | h
    · lia
    · exact h
  · rw [if_neg q]
    by_cases q2 : (i - 1) / 2 = p
    · rw [if_pos q2]; exact hx i h0 hi q2
    · rw [if_neg q2]; exact e i h0 hi hs q q2
theorem HeapFrom.hole {s n : Nat} {f : Nat → O.α} (h : HeapFrom (s + 1) n f) : Edges s n s f ∧ Skip s n s f := ⟨fun i h0 hi hs h1 h2 => h i h0 hi (by lia), fun q => absurd rfl q⟩
theorem Edges.congr {s n p : Nat} {f g : Nat → O.α} (h : Edges s n p f) (k : ∀ i, i ≠ p → f i = g i) : Edges s n p g := fun i h0 hi hs h1 h2 => by
  rw [← k _ h1, ← k _ h2]; exact h i h0 hi hs h1 h2
theorem Skip.congr {s n p : Nat} {f g : Nat → O.α} (h : Skip s n p f) (hd : Desc s p) (k : ∀ i, i ≠ p → f i = g i) : Skip s n p g := fun ne c h0 hc hcp => by
  obtain ⟨p0, _⟩ := hd.up ne
  rw [← k c (by lia), ← k _ (by lia)]; exact h ne c h0 hc hcp
/-- the first of a heap is its least -/
theorem heap_least {n : Nat} {f : Nat → O.α} (h : HeapFrom 0 n f) : ∀ i, i < n → O.kle (f 0) (f i) := by
  intro i
  induction i using Nat.strongRecOn with
  | _ i ih =>
    intro hi
    by_cases q : i = 0
    · subst q; exact KeyOrd.kle_refl _
    · exact KeyOrd.kle_trans (ih ((i - 1) / 2) (by lia) (by lia)) (h i (by lia) hi (Nat.zero_le _))

theorem perm_set {α : Type} : ∀ (l : List α) (i : Nat) (h : i < l.length) (b : α), (l[i] :: l.set i b).Perm (b :: l)
  | x :: l, 0, _, b => by simpa using List.Perm.swap b x l
  | x :: l, i + 1, h, b => by
    have ih := perm_set l i (by simpa using h) b
    simp only [List.getElem_cons_succ, List.set_cons_succ]
    exact (List.Perm.swap x _ _).trans ((ih.cons x).trans (List.Perm.swap b x l))
theorem perm_move {α : Type} {l : List α} {p c : Nat} (hp : p < l.length) (hc : c < l.length) (ne : p ≠ c) (v : α) : ((l.set p l[c]).set c v).Perm (l.set p v) := by
  have h1 := perm_set (l.set p l[c]) c (by simpa using hc) v
  rw [List.getElem_set_ne ne] at h1
  have h2 := perm_set l p hp l[c]
  have h3 := perm_set l p hp v
  have a1 : (l[p] :: l[c] :: (l.set p l[c]).set c v).Perm (l[p] :: v :: l.set p l[c]) := h1.cons _
  have a2 : (l[p] :: v :: l.set p l[c]).Perm (v :: l[c] :: l) := (List.Perm.swap v l[p] _).trans (h2.cons v)
  have a3 : (v :: l[c] :: l).Perm (l[c] :: v :: l) := List.Perm.swap l[c] v _
  have a4 : (l[c] :: v :: l).Perm (l[c] :: l[p] :: l.set p v) := (h3.symm.cons _)
  have a5 : (l[c] :: l[p] :: l.set p v).Perm (l[p] :: l[c] :: l.set p v) := List.Perm.swap _ _ _
  exact (((a1.trans a2).trans a3).trans (a4.trans a5)).cons_inv.cons_inv
theorem mem_hole {α : Type} {l zs : List α} {p q : Nat} {v : α} (h : (l.set p v).Perm zs) (hq : q < l.length) (ne : p ≠ q) : l[q] ∈ zs := by
  refine h.mem_iff.mp ?_
  have : q < (l.set p v).length := by simpa using hq
  have e : (l.set p v)[q] = l[q] := List.getElem_set_ne ne _
  rw [← e]; exact List.getElem_mem this
theorem Sto.set_same {σ : Sto} {a : Addr} {c : Cell} (h : σ a = some c) : σ.set a c = σ := by
  funext b
  by_cases q : b = a
  · subst q; rw [Sto.set_self, h]
  · rw [Sto.set_ne _ _ q]
end

section
variable {B : Bs} {N : Nat} {σ : Sto} {O : KeyOrd} {key : V → O.α}
/-- «<» between the things of a list is an order's -/
noncomputable def LtOk (B : Bs) (N : Nat) (O : KeyOrd) (key : V → O.α) (zs : List V) : Prop := ∀ x ∈ zs, ∀ y ∈ zs, ∀ (σ : Sto) (Q : V → Sto → Prop), Q (.bool (O.blt (key x) (key y))) σ → W2 B N (compareOp .Lt) x y σ Q
theorem LtOk.sub {zs ws : List V} (h : LtOk B N O key zs) (k : ∀ x ∈ ws, x ∈ zs) : LtOk B N O key ws := fun x hx y hy => h x (k x hx) y (k y hy)
theorem set_kept {ρ : Loc} {x y : Str} {d e : V} (h : ρ x = some e) (ne : x ≠ y) : (ρ.set y d) x = some e := by rw [Loc.set, if_neg ne]; exact h
theorem parent_int {p : Nat} (h : 0 < p) : Int.fdiv ((p : Int) - 1) (2 ^ (1 : Int).toNat) = (((p - 1) / 2 : Nat) : Int) := by
  show Int.fdiv ((p : Int) - 1) 2 = _
  rw [Int.fdiv_eq_ediv_of_nonneg _ (by lia)]; lia
theorem C197 (H : Base B) {a : Addr} {zs : List V} {n s p : Nat} {Q : V → Sto → Prop} (ha : σ a = some (.list zs)) (hn : zs.length = n) (hn2 : n ≤ 1000) (hp : p < n) (hd : Desc s p) (hlt : LtOk B N O key zs)
    (e : Edges s n p (kf key zs)) (k : Skip s n p (kf key zs)) (hk : Kids n p (kf key zs) (kf key zs p)) (h : ∀ ys, ys.Perm zs → HeapFrom s n (kf key ys) → Q .none (σ.set a (.list ys))) :
    WC B (N + 1) (.ref 197) [.ref a, .int s, .int p] [] σ Q := by
  refine WC.def_ (H.def_ f197) (WBind.pos3 (fun v u w => by rfl)) (by walk_at "kinds") ?_
  have sz := sizeLine_eq
  have hpl : p < zs.length := by lia
  obtain ⟨x, hx⟩ : ∃ x, zs[p] = x := ⟨_, rfl⟩
  have hxm : x ∈ zs := hx ▸ List.getElem_mem hpl
  have kx : kf key zs p = key x := by unfold kf; simp [List.getD_eq_getElem?_getD, hpl, hx]
  rw [kx] at hk
  walk_at "asg"
  refine WE.sub (WE.loc (by rfl) (by rfl) (WE.loc (by rfl) (by rfl) ⟨Sub.list ha, W2.item ha (d := x) (by simp [hpl, hx]) (by lia) ?_⟩ (by rfl)) (by rfl)) (fun o i => by rfl)
  walk_at "set"
  refine WS.cons (WX.monoT (P := fun f ρ' σ' => f = .next ∧ ∃ p ws, σ' = σ.set a (.list ws) ∧ ws.length = n ∧ p < n ∧ (ws.set p x).Perm zs ∧ HeapFrom s n (kf key (ws.set p x)) ∧ ρ' (Str.ofString "heap") = some (.ref a) ∧ ρ' (Str.ofString "pos") = some (.int p) ∧ ρ' (Str.ofString "newitem") = some x)
    (fun Pt hPt => WX.whileT (fun m ρ' σ' => ∃ p ws, p = m ∧ σ' = σ.set a (.list ws) ∧ ws.length = n ∧ p < n ∧ Desc s p ∧ (ws.set p x).Perm zs ∧ Edges s n p (kf key ws) ∧ Skip s n p (kf key ws) ∧ Kids n p (kf key ws) (key x) ∧ ρ' (Str.ofString "heap") = some (.ref a) ∧ ρ' (Str.ofString "startpos") = some (.int s) ∧ ρ' (Str.ofString "pos") = some (.int p) ∧ ρ' (Str.ofString "newitem") = some x) p
      ⟨p, zs, rfl, (Sto.set_same ha).symm, hn, hp, hd, by rw [← hx, List.set_getElem_self], e, k, hk, by rfl, by rfl, by rfl, by rfl⟩ ?_) ?_)
  · clear hp hd hpl hx e k hk kx
    intro m ρ' σ' Qt
    refine ex2 (fun p ws => un13 ?_)
    rintro rfl rfl hl hp hd pm e k hk n1 n2 n3 n4 hn hb hr
    have hc := Sto.set_self σ a (.list ws)
    refine WI.cmp (WE.loc (by rfl) n3 (WE.loc (by rfl) n2 (W2.gt_int (WT.bool ⟨fun q => ?_, fun q => ?_⟩)) (by rfl)) (by rfl)) (by rfl)
    · have hsp : s < p := by simpa using q
      have ne : p ≠ s := by lia
      obtain ⟨p0, hq⟩ := hd.up ne
      have hql : (p - 1) / 2 < ws.length := by lia
      have hpl : p < ws.length := by lia
      obtain ⟨y, hy⟩ : ∃ y, ws[(p - 1) / 2] = y := ⟨_, rfl⟩
      have ky : kf key ws ((p - 1) / 2) = key y := by unfold kf; simp [List.getD_eq_getElem?_getD, hql, hy]
      have hym : y ∈ zs := hy ▸ mem_hole pm hql (by lia)
      walk_at "asg"
      refine WE.bin (WE.bin (WE.loc (by rfl) n3 (WE.int (W2.sub_int (WE.int (W2.shr_int (by lia) ?_)))) (by rfl)))
      rw [parent_int p0]
      walk_at "set"
      walk_at "asg"
      refine WE.sub (WE.loc (by rfl) (set_kept n1 (by decide)) (WE.loc (by rfl) (by rfl) ⟨Sub.list hc, W2.item hc (d := y) (by simp [hql, hy]) (by lia) ?_⟩ (by rfl)) (by rfl)) (fun o i => by rfl)
      walk_at "set"
      refine WS.cons (WX.ite (WI.cmp (WE.loc (by rfl) (set_kept (set_kept n4 (by decide)) (by decide)) (WE.loc (by rfl) (by rfl) (hlt x hxm y hym _ _ (WT.bool ⟨fun q => ?_, fun q => ?_⟩)) (by rfl)) (by rfl)) (by rfl)))
      · walk_at "asg"
        refine WE.loc (by rfl) (by rfl) ?_ (by rfl)
        refine WA.sub (WE.loc (by rfl) (set_kept (set_kept n1 (by decide)) (by decide)) (WE.loc (by rfl) (set_kept (set_kept n3 (by decide)) (by decide)) (W3.list hc hpl (by lia) ?_) (by rfl)) (by rfl))
        rw [Sto.set_set]
        walk_at "asg"
        refine WE.loc (by rfl) (by rfl) ?_ (by rfl)
        refine WA.name (WN.loc (by rfl) (WS.cons (WX.cont ?_)))
        have lt : O.klt (key x) (kf key ws ((p - 1) / 2)) := by rw [ky]; exact q
        obtain ⟨e', k', hk'⟩ := up_step hd (by lia) ne e k hk lt
        have kw : kf key (ws.set p y) = fun i => if i = p then kf key ws ((p - 1) / 2) else kf key ws i := by rw [kf_set hpl, ky]
        have ne2 : (p - 1) / 2 ≠ p := by lia
        have pm' : ((ws.set p y).set ((p - 1) / 2) x).Perm zs := by
          have := perm_move hpl hql (Ne.symm ne2) x
          rw [hy] at this
          exact this.trans pm
        refine (hn ((p - 1) / 2) _ _ (by lia) ⟨(p - 1) / 2, ws.set p y, rfl, rfl, by simpa using hl, by lia, hq, pm', by rw [kw]; exact e', by rw [kw]; exact k', by rw [kw]; exact hk', ?_, ?_, by rfl, ?_⟩).2
        · exact set_kept (set_kept (set_kept n1 (by decide)) (by decide)) (by decide)
        · exact set_kept (set_kept (set_kept n2 (by decide)) (by decide)) (by decide)
        · exact set_kept (set_kept (set_kept n4 (by decide)) (by decide)) (by decide)
      · refine WS.nil (WS.cons (WX.brk (hb _ _ (hPt _ _ _ ⟨rfl, p, ws, rfl, hl, hp, pm, ?_, ?_, ?_, ?_⟩))))
        · rw [kf_set hpl]
          exact up_end hd e hk (.inr (by rw [ky]; exact q))
        · exact set_kept (set_kept n1 (by decide)) (by decide)
        · exact set_kept (set_kept n3 (by decide)) (by decide)
        · exact set_kept (set_kept n4 (by decide)) (by decide)
    · have hsp : p = s := by have : ¬ s < p := by simpa using q
                             have := hd.le; lia
      refine hPt _ _ _ ⟨rfl, p, ws, rfl, hl, hp, pm, ?_, n1, n3, n4⟩
      rw [kf_set (by lia)]
      exact up_end hd e hk (.inl hsp)
  intro f ρ' σ'
  refine un2 ?_
  rintro rfl
  refine ex2 (fun p ws => un8 ?_)
  rintro rfl hl hp pm hf n1 n3 n4
  have hc := Sto.set_self σ a (.list ws)
  walk_at "asg"
  refine WE.loc (by rfl) n4 ?_ (by rfl)
  refine WA.sub (WE.loc (by rfl) n1 (WE.loc (by rfl) n3 (W3.list hc (by lia) (by lia) ?_) (by rfl)) (by rfl))
  rw [Sto.set_set]
  exact WS.nil (h _ pm hf)
end

section
variable {B : Bs} {N : Nat} {σ : Sto} {O : KeyOrd} {key : V → O.α}
theorem W2.room {N M : Nat} {t : Value → Value → Sem Value} {x y : V} {Q : V → Sto → Prop} (h : W2 B N t x y σ Q) (k : N ≤ M) : W2 B M t x y σ Q := fun A s v u R => h A s v u (R.mono k)
theorem LtOk.room {N M : Nat} {zs : List V} (h : LtOk B N O key zs) (k : N ≤ M) : LtOk B M O key zs := fun x hx y hy σ Q q => (h x hx y hy σ Q q).room k
theorem half1 (p : Nat) : (2 * p + 1 - 1) / 2 = p := by rw [Nat.add_sub_cancel]; exact Nat.mul_div_cancel_left p (Nat.zero_lt_succ 1)
theorem half2 (p : Nat) : (2 * p + 2 - 1) / 2 = p := by lia
theorem child_int {p : Nat} : (2 : Int) * (p : Int) + 1 = ((2 * p + 1 : Nat) : Int) := by lia
theorem mul2_ok (j : Int) : IntMulOk 2 j := IntMulOk.of_left (by decide)
theorem C204 (H : Base B) {a : Addr} {zs : List V} {n s : Nat} {Q : V → Sto → Prop} (ha : σ a = some (.list zs)) (hn : zs.length = n) (hn2 : n ≤ 1000) (hs : s < n) (hlt : LtOk B N O key zs)
    (hf : HeapFrom (s + 1) n (kf key zs)) (h : ∀ ys, ys.Perm zs → HeapFrom s n (kf key ys) → Q .none (σ.set a (.list ys))) :
    WC B (N + 2) (.ref 204) [.ref a, .int s] [] σ Q := by
  refine WC.def_ (H.def_ f204) (WBind.pos2 (fun v u => by rfl)) (by walk_at "kinds") ?_
  have sz := sizeLine_eq
  have hsl : s < zs.length := by lia
  obtain ⟨x, hx⟩ : ∃ x, zs[s] = x := ⟨_, rfl⟩
  obtain ⟨e, k⟩ := hf.hole
  walk_at "asg"
  walk_at "call"
  walk_at "nm"
  refine ⟨trivial, ?_⟩
  walk_at "arg"
  walk_at "nm"
  refine WL.nil (WK.nil (WC.len_list ha (by lia) ?_))
  rw [hn]
  walk_at "set"
  walk_at "asg"
  walk_at "nm"
  walk_at "set"
  walk_at "asg"
  refine WE.sub (WE.loc (by rfl) (by rfl) (WE.loc (by rfl) (by rfl) ⟨Sub.list ha, W2.item ha (d := x) (by simp [hsl, hx]) (by lia) ?_⟩ (by rfl)) (by rfl)) (fun o i => by rfl)
  walk_at "set"
  walk_at "asg"
  refine WE.bin (WE.bin (WE.int (WE.loc (by rfl) (by rfl) (W2.mul_int (WE.int (W2.add_int ?_)) (mul2_ok _)) (by rfl))))
  rw [child_int]
  walk_at "set"
  refine WS.cons (WX.monoT (P := fun f ρ' σ' => f = .next ∧ ∃ p ws, σ' = σ.set a (.list ws) ∧ ws.length = n ∧ p < n ∧ Desc s p ∧ (ws.set p x).Perm zs ∧ Edges s n p (kf key ws) ∧ Skip s n p (kf key ws) ∧ n ≤ 2 * p + 1 ∧ ρ' (Str.ofString "heap") = some (.ref a) ∧ ρ' (Str.ofString "pos") = some (.int p) ∧ ρ' (Str.ofString "newitem") = some x ∧ ρ' (Str.ofString "startpos") = some (.int s))
    (fun Pt hPt => WX.whileT (fun m ρ' σ' => ∃ p ws, m = n - p ∧ σ' = σ.set a (.list ws) ∧ ws.length = n ∧ p < n ∧ Desc s p ∧ (ws.set p x).Perm zs ∧ Edges s n p (kf key ws) ∧ Skip s n p (kf key ws) ∧ ρ' (Str.ofString "heap") = some (.ref a) ∧ ρ' (Str.ofString "startpos") = some (.int s) ∧ ρ' (Str.ofString "pos") = some (.int p) ∧ ρ' (Str.ofString "newitem") = some x ∧ ρ' (Str.ofString "endpos") = some (.int n) ∧ ρ' (Str.ofString "childpos") = some (.int ((2 * p + 1 : Nat) : Int))) (n - s)
      ⟨s, zs, rfl, (Sto.set_same ha).symm, hn, hs, .refl, by rw [← hx, List.set_getElem_self], e, k, by rfl, by rfl, by rfl, by rfl, by rfl, by rfl⟩ ?_) ?_)
  · clear hs hsl hx e k hf
    intro m ρ' σ' Qt
    refine ex2 (fun p ws => un14 ?_)
    rintro rfl rfl hl hp hd pm e k n1 n2 n3 n4 n5 n6 hn hb hr
    have hc := Sto.set_self σ a (.list ws)
    refine WI.cmp (WE.loc (by rfl) n6 (WE.loc (by rfl) n5 (W2.lt_int (WT.bool ⟨fun q => ?_, fun q => ?_⟩)) (by rfl)) (by rfl)) (by rfl)
    · have hcn : 2 * p + 1 < n := by
        have : ((2 * p + 1 : Nat) : Int) < (n : Int) := by simpa using q
        lia
      have hpl : p < ws.length := by lia
      have h1l : 2 * p + 1 < ws.length := by lia
      walk_at "asg"
      refine WE.bin (WE.loc (by rfl) n6 (WE.int (W2.add_int ?_)) (by rfl))
      rw [show ((2 * p + 1 : Nat) : Int) + 1 = ((2 * p + 2 : Nat) : Int) by lia]
      walk_at "set"
      have kids1 : ∀ z, kf key ws (2 * p + 1) = z → (2 * p + 2 < n → O.kle z (kf key ws (2 * p + 2))) → Kids n p (kf key ws) z := fun z h1 h2 c c0 hc hcp => by
        have : c = 2 * p + 1 ∨ c = 2 * p + 2 := by lia
        rcases this with rfl | rfl
        · rw [h1]; exact KeyOrd.kle_refl _
        · exact h2 hc
      refine WS.cons (WX.monoT (P := fun f ρ₂ σ' => f = .next ∧ σ' = σ.set a (.list ws) ∧ ∃ c, c < n ∧ 0 < c ∧ (c - 1) / 2 = p ∧ Kids n p (kf key ws) (kf key ws c) ∧ ρ₂ (Str.ofString "heap") = some (.ref a) ∧ ρ₂ (Str.ofString "startpos") = some (.int s) ∧ ρ₂ (Str.ofString "pos") = some (.int p) ∧ ρ₂ (Str.ofString "newitem") = some x ∧ ρ₂ (Str.ofString "endpos") = some (.int n) ∧ ρ₂ (Str.ofString "childpos") = some (.int c)) (fun Pu hPu => WX.ite ?_) ?_)
      · refine WI.and2 (WI.cmp (WE.loc (by rfl) (by rfl) (WE.loc (by rfl) (set_kept n5 (by decide)) (W2.lt_int (WT.bool ⟨fun q2 => ?_, fun q2 => ?_⟩)) (by rfl)) (by rfl)) (by rfl))
        · have h2n : 2 * p + 2 < n := by
            have : ((2 * p + 2 : Nat) : Int) < (n : Int) := by simpa using q2
            lia
          have h2l : 2 * p + 2 < ws.length := by lia
          obtain ⟨y, hy⟩ : ∃ y, ws[2 * p + 1] = y := ⟨_, rfl⟩
          obtain ⟨z, hz⟩ : ∃ z, ws[2 * p + 2] = z := ⟨_, rfl⟩
          have hym : y ∈ zs := hy ▸ mem_hole pm h1l (by lia)
          have hzm : z ∈ zs := hz ▸ mem_hole pm h2l (by lia)
          have ky : kf key ws (2 * p + 1) = key y := by unfold kf; simp [List.getD_eq_getElem?_getD, h1l, hy]
          have kz : kf key ws (2 * p + 2) = key z := by unfold kf; simp [List.getD_eq_getElem?_getD, h2l, hz]
          refine WI.not (WI.cmp (WE.sub (WE.loc (by rfl) (set_kept n1 (by decide)) (WE.loc (by rfl) (set_kept n6 (by decide)) ⟨Sub.list hc, W2.item hc (d := y) (by simp [h1l, hy]) (by lia) ?_⟩ (by rfl)) (by rfl)) (fun o i => by rfl)) (by rfl))
          refine WE.sub (WE.loc (by rfl) (set_kept n1 (by decide)) (WE.loc (by rfl) (by rfl) ⟨Sub.list hc, W2.item hc (d := z) (by simp [h2l, hz]) (by lia) ?_⟩ (by rfl)) (by rfl)) (fun o i => by rfl)
          refine W2.room (M := N + 1) (hlt y hym z hzm _ _ (WT.bool ⟨fun q3 => ?_, fun q3 => ?_⟩)) (Nat.le_succ _)
          · have lt : O.blt (key y) (key z) = false := by simpa using q3
            walk_at "asg"
            refine WE.loc (by rfl) (by rfl) ?_ (by rfl)
            refine WA.name (WN.loc (by rfl) (WS.nil (hPu _ _ _ ⟨rfl, rfl, 2 * p + 2, h2n, Nat.zero_lt_succ _, half2 p, ?_, ?_, ?_, ?_, ?_, ?_, by rfl⟩)))
            · intro c c0 hc hcp
              have : c = 2 * p + 1 ∨ c = 2 * p + 2 := by lia
              rcases this with rfl | rfl
              · rw [ky, kz]; exact lt
              · exact KeyOrd.kle_refl _
            · exact set_kept (set_kept n1 (by decide)) (by decide)
            · exact set_kept (set_kept n2 (by decide)) (by decide)
            · exact set_kept (set_kept n3 (by decide)) (by decide)
            · exact set_kept (set_kept n4 (by decide)) (by decide)
            · exact set_kept (set_kept n5 (by decide)) (by decide)
          · have lt : O.blt (key y) (key z) = true := by simpa using q3
            refine WS.nil (hPu _ _ _ ⟨rfl, rfl, 2 * p + 1, hcn, Nat.zero_lt_succ _, half1 p, ?_, ?_, ?_, ?_, ?_, ?_, ?_⟩)
            · exact kids1 _ rfl fun _ => by rw [ky, kz]; exact KeyOrd.kle_of_klt lt
            · exact set_kept n1 (by decide)
            · exact set_kept n2 (by decide)
            · exact set_kept n3 (by decide)
            · exact set_kept n4 (by decide)
            · exact set_kept n5 (by decide)
            · exact set_kept n6 (by decide)
        · have h2n : ¬ 2 * p + 2 < n := by
            have : ¬ ((2 * p + 2 : Nat) : Int) < (n : Int) := by simpa using q2
            lia
          refine ⟨(fun q3 => nomatch q3), fun _ => WS.nil (hPu _ _ _ ⟨rfl, rfl, 2 * p + 1, hcn, Nat.zero_lt_succ _, half1 p, ?_, ?_, ?_, ?_, ?_, ?_, ?_⟩)⟩
          · exact kids1 _ rfl fun q3 => absurd q3 h2n
          · exact set_kept n1 (by decide)
          · exact set_kept n2 (by decide)
          · exact set_kept n3 (by decide)
          · exact set_kept n4 (by decide)
          · exact set_kept n5 (by decide)
          · exact set_kept n6 (by decide)
      intro f ρ₂ σ'
      refine un3 ?_
      rintro rfl rfl
      refine ex1 fun c => un10 ?_
      intro hcn' hc0 hcp hm m1 m2 m3 m4 m5 m6
      have hcl : c < ws.length := by lia
      obtain ⟨z, hz⟩ : ∃ z, ws[c] = z := ⟨_, rfl⟩
      have kz : kf key ws c = key z := by unfold kf; simp [List.getD_eq_getElem?_getD, hcl, hz]
      obtain ⟨e', k'⟩ := down_step hd e k hc0 hcn' hcp hm
      have kw : kf key (ws.set p z) = fun i => if i = p then kf key ws c else kf key ws i := by rw [kf_set hpl, kz]
      have pm' : ((ws.set p z).set c x).Perm zs := by
        have := perm_move hpl hcl (by lia) x
        rw [hz] at this
        exact this.trans pm
      walk_at "asg"
      refine WE.sub (WE.loc (by rfl) m1 (WE.loc (by rfl) m6 ⟨Sub.list hc, W2.item hc (d := z) (by simp [hcl, hz]) (by lia) ?_⟩ (by rfl)) (by rfl)) (fun o i => by rfl)
      refine WA.sub (WE.loc (by rfl) m1 (WE.loc (by rfl) m3 (W3.list hc hpl (by lia) ?_) (by rfl)) (by rfl))
      rw [Sto.set_set]
      walk_at "asg"
      refine WE.loc (by rfl) m6 ?_ (by rfl)
      walk_at "set"
      walk_at "asg"
      refine WE.bin (WE.bin (WE.int (WE.loc (by rfl) (by rfl) (W2.mul_int (WE.int (W2.add_int ?_)) (mul2_ok _)) (by rfl))))
      rw [child_int]
      refine WA.name (WN.loc (by rfl) (WS.nil (hn (n - c) _ _ (by lia) ⟨c, ws.set p z, rfl, rfl, by simpa using hl, hcn', hd.child hc0 hcp, pm', by rw [kw]; exact e', by rw [kw]; exact k', ?_, ?_, by rfl, ?_, ?_, by rfl⟩).1))
      · exact set_kept (set_kept m1 (by decide)) (by decide)
      · exact set_kept (set_kept m2 (by decide)) (by decide)
      · exact set_kept (set_kept m4 (by decide)) (by decide)
      · exact set_kept (set_kept m5 (by decide)) (by decide)
    · have hcn : n ≤ 2 * p + 1 := by
        have : ¬ ((2 * p + 1 : Nat) : Int) < (n : Int) := by simpa using q
        lia
      exact hPt _ _ _ ⟨rfl, p, ws, rfl, hl, hp, hd, pm, e, k, hcn, n1, n3, n4, n2⟩
  intro f ρ' σ'
  refine un2 ?_
  rintro rfl
  refine ex2 (fun p ws => un12 ?_)
  rintro rfl hl hp hd pm e' k' hcn n1 n3 n4 n2
  have hc := Sto.set_self σ a (.list ws)
  have hpl : p < ws.length := by lia
  walk_at "asg"
  refine WE.loc (by rfl) n4 ?_ (by rfl)
  refine WA.sub (WE.loc (by rfl) n1 (WE.loc (by rfl) n3 (W3.list hc hpl (by lia) ?_) (by rfl)) (by rfl))
  rw [Sto.set_set]
  have fx : ∀ i, i ≠ p → kf key ws i = kf key (ws.set p x) i := fun i hi => by rw [kf_set hpl]; exact (if_neg hi).symm
  refine WS.cons (WX.expr (WE.call ?_ (fun env => by rfl) (fun env => by rfl) (fun env pos => by rfl)) (by walk_at "sw"))
  walk_at "nm"
  refine ⟨H.cal f197, ?_⟩
  walk_at "arg"
  refine WE.loc (by rfl) n1 ?_ (by rfl)
  walk_at "arg"
  refine WE.loc (by rfl) n2 ?_ (by rfl)
  walk_at "arg"
  refine WE.loc (by rfl) n3 ?_ (by rfl)
  refine WL.nil (WK.nil ?_)
  refine C197 (N := N) (O := O) (key := key) H (Sto.set_self _ _ _) (by simpa using hl) hn2 hp hd ?_ (e'.congr fx) (k'.congr hd fx) (fun c c0 hc hcp => by lia) fun ys py hy => ?_
  · exact hlt.sub fun z hz => pm.mem_iff.mp hz
  rw [Sto.set_set]
  exact WS.nil (h ys (py.trans pm) hy)
end

section
variable {B : Bs} {N : Nat} {σ : Sto} {O : KeyOrd} {key : V → O.α}
/-- one cell is as told, the others that were are as they were -/
noncomputable def sup (σ σ' : Sto) (a : Addr) (c : Cell) : Prop := σ' a = some c ∧ ∀ b d, b ≠ a → σ b = some d → σ' b = some d
theorem sup.set {σ σ' : Sto} {a : Addr} {c c' : Cell} (h : sup σ σ' a c) : sup σ (σ'.set a c') a c' := ⟨Sto.set_self _ _ _, fun b d ne e => by rw [Sto.set_ne _ _ ne]; exact h.2 b d ne e⟩
theorem sup.le {σ σ' σ'' : Sto} {a : Addr} {c : Cell} (h : sup σ σ' a c) (k : sle σ' σ'') : sup σ σ'' a c := ⟨k _ _ h.1, fun b d ne e => k _ _ (h.2 b d ne e)⟩
theorem sup.of_le {σ σ' : Sto} {a : Addr} {c : Cell} (h : σ a = some c) (k : sle σ σ') : sup σ σ' a c := ⟨k _ _ h, fun b d _ e => k _ _ e⟩
theorem HeapFrom.top {n : Nat} {f : Nat → O.α} : HeapFrom (n / 2) n f := fun i h0 hi hs => by lia
theorem half_int {n : Nat} : Int.fdiv (n : Int) 2 = ((n / 2 : Nat) : Int) := by
  rw [Int.fdiv_eq_ediv_of_nonneg _ (by lia)]; lia
theorem C190 (H : Base B) {a : Addr} {zs : List V} {Q : V → Sto → Prop} (ha : σ a = some (.list zs)) (hn2 : zs.length ≤ 1000) (hlt : LtOk B N O key zs)
    (h : ∀ ys σ', ys.Perm zs → HeapFrom 0 zs.length (kf key ys) → sup σ σ' a (.list ys) → Q .none σ') : WC B (N + 3) (.ref 190) [.ref a] [] σ Q := by
  refine WC.def_ (H.def_ f190) (WBind.pos1 (fun v => by rfl)) (by walk_at "kinds") ?_
  have sz := sizeLine_eq
  walk_at "asg"
  walk_at "call"
  walk_at "nm"
  refine ⟨trivial, ?_⟩
  walk_at "arg"
  walk_at "nm"
  refine WL.nil (WK.nil (WC.len_list ha (by lia) ?_))
  walk_at "set"
  generalize hn : zs.length = n at *
  generalize hm : n / 2 = m
  refine WS.cons (WX.forT (WIt.of (K := _) ?_ (by lia)) (by lia) (fun env x => by rfl))
  walk_at "call"
  walk_at "nm"
  refine ⟨trivial, ?_⟩
  walk_at "arg"
  walk_at "call"
  walk_at "nm"
  refine ⟨trivial, ?_⟩
  walk_at "arg"
  refine WE.bin (WE.loc (by rfl) (by rfl) (WE.int (W2.div_int (by lia) (PyProof.noPylong_small (by lia)) ?_)) (by rfl))
  rw [half_int, hm]
  refine WL.nil (WK.nil (WC.range1 (WL.nil (WK.nil (WC.reversed_range (by lia) fun I hI => ?_)))))
  have hIa : I ≠ a := by rintro rfl; rw [ha] at hI; cases hI
  refine ⟨_, GetIter.rit (Sto.set_self _ _ _), fun k ρ' σ' => ∃ ys, k ≤ m ∧ sup σ σ' a (.list ys) ∧ σ' I = some (.rit ((m : Int) - 1 + k * (-1)) ((m : Int) - k) (-1)) ∧ ys.Perm zs ∧ HeapFrom (m - k) n (kf key ys) ∧ ρ' (Str.ofString "x") = some (.ref a),
    ⟨zs, Nat.zero_le _, sup.of_le ha (sle.new hI), by rw [Sto.set_self]; simp, .refl _, by rw [← hm]; exact HeapFrom.top, by rfl⟩, fun k ρ' σ' q => ex1 (fun ys q => q.2.2.1) q, ?_, ?_⟩
  · rintro k ρ' σ' Qt hk ⟨ys, hkm, hs, hI', pm, hf, n1⟩ hQt _ _
    have hk : k < m := hk
    change WA _ _ _ _ (.int ((m : Int) - 1 + k * (-1))) _ (σ'.set I (.rit ((m : Int) - 1 + ((k + 1 : Nat) : Int) * (-1)) ((m : Int) - ((k + 1 : Nat) : Int)) (-1))) _
    rw [show (m : Int) - 1 + k * (-1) = ((m - 1 - k : Nat) : Int) by lia]
    refine WA.name (WN.loc (by rfl) ?_)
    refine WS.cons (WX.expr (WE.call ?_ (fun env => by rfl) (fun env => by rfl) (fun env pos => by rfl)) (by walk_at "sw"))
    walk_at "nm"
    refine ⟨H.cal f204, ?_⟩
    walk_at "arg"
    refine WE.loc (by rfl) (set_kept n1 (by decide)) ?_ (by rfl)
    walk_at "arg"
    refine WE.loc (by rfl) (by rfl) ?_ (by rfl)
    have hyl : ys.length = n := by rw [pm.length_eq]; exact hn
    refine WL.nil (WK.nil (C204 (N := N) (O := O) (key := key) H (zs := ys) (n := n) (s := m - 1 - k) (by rw [Sto.set_ne _ _ (Ne.symm hIa)]; exact hs.1) hyl hn2 (by lia) (hlt.sub fun z hz => pm.mem_iff.mp hz) (by rw [show m - 1 - k + 1 = m - k by lia]; exact hf) fun ws pw hw => ?_))
    refine WS.nil (hQt _ _ ⟨ws, hk, ⟨Sto.set_self _ _ _, fun b d ne e => ?_⟩, ?_, pw.trans pm, by rw [show m - (k + 1) = m - 1 - k by lia]; exact hw, set_kept n1 (by decide)⟩).1
    · rw [Sto.set_ne _ _ ne, Sto.set_ne _ _ (by rintro rfl; rw [hI] at e; cases e)]; exact hs.2 b d ne e
    · rw [Sto.set_ne _ _ hIa, Sto.set_self]
  · rintro ρ' σ' ⟨ys, _, hs, hI', pm, hf, n1⟩
    change HeapFrom (m - m) n _ at hf
    rw [Nat.sub_self] at hf
    exact WS.nil (h ys σ' pm hf hs)

theorem C176 (H : Base B) {a : Addr} {zs : List V} {x : V} {Q : V → Sto → Prop} (ha : σ a = some (.list zs)) (hn2 : zs.length ≤ 1000) (hx : zs[0]? = some x) (hlt : LtOk B N O key zs) (hf : HeapFrom 0 zs.length (kf key zs))
    (h : ∀ ys, (x :: ys).Perm zs → HeapFrom 0 ys.length (kf key ys) → Q x (σ.set a (.list ys))) : WC B (N + 3) (.ref 176) [.ref a] [] σ Q := by
  refine WC.def_ (H.def_ f176) (WBind.pos1 (fun v => by rfl)) (by walk_at "kinds") ?_
  have sz := sizeLine_eq
  have h0 : zs ≠ [] := by rintro rfl; simp at hx
  have hl := List.dropLast_concat_getLast h0
  generalize hd : zs.getLast h0 = d at hl
  generalize hds : zs.dropLast = ds at hl
  have hlen : zs.length = ds.length + 1 := by rw [← hl]; simp
  walk_at "asg"
  refine WE.meth (fun _ => "list.pop") ?_ (fun env => ⟨_, by rfl⟩) (fun env => by rfl) (fun env pos => by rfl)
  refine WE.loc (by rfl) (by rfl) ⟨M.pop ha, ?_⟩ (by rfl)
  refine WL.nil (WK.nil (WC.pop ha (d := d) ?_ (by lia) ?_))
  · rw [← hl]; simp
  rw [hds]
  walk_at "set"
  have hc := Sto.set_self σ a (.list ds)
  refine WS.cons (WX.ite (WI.val (WE.loc (by rfl) (by rfl) (WT.list hc (by lia) ⟨fun q => ?_, fun q => ?_⟩) (by rfl)) (fun env w => by rfl)))
  · have hne : 0 < ds.length := by
      cases ds with
      | nil => simp at q
      | cons _ _ => simp
    have hx0 : ds[0]? = some x := by rw [← hl, List.getElem?_append_left hne] at hx; exact hx
    walk_at "asg"
    refine WE.sub (WE.loc (by rfl) (by rfl) (WE.int ⟨Sub.list hc, W2.item hc (k := 0) (d := x) hx0 (by lia) ?_⟩) (by rfl)) (fun o i => by rfl)
    walk_at "set"
    walk_at "asg"
    refine WE.loc (by rfl) (by rfl) ?_ (by rfl)
    refine WA.sub (WE.loc (by rfl) (by rfl) (WE.int (W3.list (k := 0) hc hne (by lia) ?_)) (by rfl))
    rw [Sto.set_set]
    refine WS.cons (WX.expr (WE.call ?_ (fun env => by rfl) (fun env => by rfl) (fun env pos => by rfl)) (by walk_at "sw"))
    walk_at "nm"
    refine ⟨H.cal f204, ?_⟩
    walk_at "arg"
    refine WE.loc (by rfl) (by rfl) ?_ (by rfl)
    walk_at "arg"
    refine WE.int ?_
    have e0 : ds[0] = x := by rw [List.getElem?_eq_getElem hne] at hx0; exact Option.some.inj hx0
    have pm : (x :: ds.set 0 d).Perm zs := by
      have h1 := perm_set ds 0 hne d
      rw [e0] at h1
      rw [← hl]
      exact h1.trans (List.perm_append_singleton d ds).symm
    refine WL.nil (WK.nil (C204 (N := N) (O := O) (key := key) H (zs := ds.set 0 d) (n := ds.length) (s := 0) (Sto.set_self _ _ _) (by simp) (by lia) hne (hlt.sub fun z hz => pm.mem_iff.mp (List.mem_cons_of_mem _ hz)) ?_ fun ws pw hw => ?_))
    · intro i i0 hi hs
      have e1 : kf key (ds.set 0 d) i = kf key zs i := by
        rw [kf_set hne]
        show (if i = 0 then _ else kf key ds i) = _
        rw [if_neg (by lia), ← hl]; unfold kf
        rw [List.getD_eq_getElem?_getD, List.getD_eq_getElem?_getD, List.getElem?_append_left hi]
      have e2 : kf key (ds.set 0 d) ((i - 1) / 2) = kf key zs ((i - 1) / 2) := by
        rw [kf_set hne]
        show (if (i - 1) / 2 = 0 then _ else kf key ds ((i - 1) / 2)) = _
        rw [if_neg (by lia), ← hl]; unfold kf
        rw [List.getD_eq_getElem?_getD, List.getD_eq_getElem?_getD, List.getElem?_append_left (by lia)]
      rw [e1, e2]
      exact hf i i0 (by lia) (Nat.zero_le _)
    rw [Sto.set_set]
    walk_at "ret"
    refine WE.loc (by rfl) (by rfl) ?_ (by rfl)
    have hwl : ws.length = ds.length := by rw [pw.length_eq]; simp
    exact h ws ((pw.cons x).trans pm) (by rw [hwl]; exact hw)
  · have hds0 : ds = [] := by
      cases ds with
      | nil => rfl
      | cons _ _ => simp at q
    subst hds0
    have hxd : d = x := by rw [← hl] at hx; simpa using hx
    refine WS.nil ?_
    walk_at "ret"
    refine WE.loc (by rfl) (by rfl) ?_ (by rfl)
    rw [hxd]
    exact h [] (by rw [← hl, hxd]; exact .refl _) (fun i i0 hi => by simp at hi)

theorem C183 (H : Base B) {a : Addr} {zs : List V} {x y : V} {Q : V → Sto → Prop} (ha : σ a = some (.list zs)) (hn2 : zs.length ≤ 1000) (hx : zs[0]? = some x) (hlt : LtOk B N O key (y :: zs)) (hf : HeapFrom 0 zs.length (kf key zs))
    (h : ∀ ys, (x :: ys).Perm (y :: zs) → HeapFrom 0 ys.length (kf key ys) → Q x (σ.set a (.list ys))) : WC B (N + 3) (.ref 183) [.ref a, y] [] σ Q := by
  refine WC.def_ (H.def_ f183) (WBind.pos2 (fun v u => by rfl)) (by walk_at "kinds") ?_
  have sz := sizeLine_eq
  have hne : 0 < zs.length := by
    cases zs with
    | nil => simp at hx
    | cons _ _ => simp
  walk_at "asg"
  refine WE.sub (WE.loc (by rfl) (by rfl) (WE.int ⟨Sub.list ha, W2.item ha (k := 0) (d := x) hx (by lia) ?_⟩) (by rfl)) (fun o i => by rfl)
  walk_at "set"
  walk_at "asg"
  refine WE.loc (by rfl) (by rfl) ?_ (by rfl)
  refine WA.sub (WE.loc (by rfl) (by rfl) (WE.int (W3.list (k := 0) ha hne (by lia) ?_)) (by rfl))
  refine WS.cons (WX.expr (WE.call ?_ (fun env => by rfl) (fun env => by rfl) (fun env pos => by rfl)) (by walk_at "sw"))
  walk_at "nm"
  refine ⟨H.cal f204, ?_⟩
  walk_at "arg"
  refine WE.loc (by rfl) (by rfl) ?_ (by rfl)
  walk_at "arg"
  refine WE.int ?_
  have e0 : zs[0] = x := by rw [List.getElem?_eq_getElem hne] at hx; exact Option.some.inj hx
  have pm : (x :: zs.set 0 y).Perm (y :: zs) := by
    have h1 := perm_set zs 0 hne y
    rw [e0] at h1
    exact h1
  refine WL.nil (WK.nil (C204 (N := N) (O := O) (key := key) H (zs := zs.set 0 y) (n := zs.length) (s := 0) (Sto.set_self _ _ _) (by simp) (by lia) hne (hlt.sub fun z hz => pm.mem_iff.mp (List.mem_cons_of_mem _ hz)) ?_ fun ws pw hw => ?_))
  · intro i i0 hi hs
    rw [kf_set hne]
    show O.kle (if (i - 1) / 2 = 0 then _ else kf key zs ((i - 1) / 2)) (if i = 0 then _ else kf key zs i)
    rw [if_neg (by lia), if_neg (by lia)]
    exact hf i i0 (by lia) (Nat.zero_le _)
  rw [Sto.set_set]
  walk_at "ret"
  refine WE.loc (by rfl) (by rfl) ?_ (by rfl)
  have hwl : ws.length = zs.length := by rw [pw.length_eq]; simp
  exact h ws ((pw.cons x).trans pm) (by rw [hwl]; exact hw)
end

section
variable {B : Bs} {N : Nat} {σ : Sto}
theorem bind210 (H : Base B) {d e : V} : WBind B (fnAt 210) [d, e] [] σ [(Str.ofString "n", d), (Str.ofString "iterable", e), (Str.ofString "key", .none)] := fun A s vs kws hA O rv rk => by
  cases rk
  obtain ⟨v, r, rfl, h1, u, r', rfl, h2, h3⟩ := rv; cases h3
  obtain ⟨o, n, hT, hS⟩ := H.dflt
  have ho := O.keep _ _ hT
  have hb : BindsTo s (fnAt 210) ⟨[v, u], []⟩ [(Str.ofString "n", v), (Str.ofString "iterable", u), (Str.ofString "key", .none)] := BindsTo.of_defaults (by rfl) ho hS (by rfl) (by rfl)
  exact hb _ _ _ _ ⟨.refl O, v, _, rfl, h1, u, _, rfl, h2, .none, [], rfl, rfl, rfl⟩

noncomputable def IsMax (xs : List Str) (m : Str) : Prop := m ∈ xs ∧ ∀ x ∈ xs, strO.kle x m
theorem LtOk.strs {zs : List V} (h : ∀ z ∈ zs, ∃ t, z = .str t) : LtOk B N strO strK zs := fun x hx y hy σ Q q => by
  obtain ⟨s, rfl⟩ := h x hx
  obtain ⟨t, rfl⟩ := h y hy
  exact W2.lt_str q
noncomputable def IsPair : V → Prop := fun z => ∃ t i, z = .tup [.str t, .int i]
theorem plt_eq (x y : Str) (i j : Int) : (pairO strO intO).blt (x, i) (y, j) = plt (.tup [.str x, .int i]) (.tup [.str y, .int j]) := by
  have := lex_beq strO (eq := fun a b => a == b) (fun a b => beq_iff_eq) x y (decide (i < j))
  unfold plt
  exact this.symm
theorem LtOk.pairs {zs : List V} (h : ∀ z ∈ zs, IsPair z) (hN : 1 ≤ N) : LtOk B N (pairO strO intO) pairK zs := fun x hx y hy σ Q q => by
  obtain ⟨s, i, rfl⟩ := h x hx
  obtain ⟨t, j, rfl⟩ := h y hy
  refine W2.lt_pair ?_ hN
  rw [← plt_eq]; exact q
theorem strs_map {ys : List V} (h : ∀ y ∈ ys, ∃ t, y = .str t) : ys = (ys.map strK).map V.str := by
  rw [List.map_map]
  conv => lhs; rw [← List.map_id ys]
  refine List.map_congr_left fun y hy => ?_
  obtain ⟨t, rfl⟩ := h y hy; rfl
theorem sorted_max {xs : List Str} {ys : List V} (h0 : 0 < xs.length) (h : SortOut strO strK true (xs.map .str) ys) : ∃ (zs : List Str) (m : Str), ys = zs.map V.str ∧ zs[0]? = some m ∧ IsMax xs m := by
  obtain ⟨pm, pw⟩ := h
  have hs : ∀ y ∈ ys, ∃ t, y = V.str t := fun y hy => by
    obtain ⟨t, _, e⟩ := List.mem_map.mp (pm.mem_iff.mp hy)
    exact ⟨t, e.symm⟩
  have hl : ys.length = xs.length := by rw [pm.length_eq]; simp
  cases ys with
  | nil => simp at hl; lia
  | cons y r =>
    obtain ⟨m, rfl⟩ := hs y (by simp)
    refine ⟨_, m, strs_map hs, rfl, ?_, fun x hx => ?_⟩
    · obtain ⟨t, ht, e⟩ := List.mem_map.mp (pm.mem_iff.mp (List.mem_cons_self))
      cases e; exact ht
    · have hx' : V.str x ∈ V.str m :: r := pm.mem_iff.mpr (List.mem_map_of_mem hx)
      rcases List.mem_cons.mp hx' with e | e
      · cases e; exact KeyOrd.kle_refl _
      · have := (List.pairwise_cons.mp pw).1 _ e
        rw [if_pos rfl] at this; exact this
/-- the two that are kept -/
noncomputable def Two (seen : List Str) (ps : List V) : Prop := ps.length = 2 ∧ (∀ p ∈ ps, ∃ t i, p = .tup [.str t, .int i] ∧ t ∈ seen) ∧ ∀ x ∈ seen, ∃ t i, V.tup [.str t, .int i] ∈ ps ∧ strO.kle x t
theorem Two.perm {seen : List Str} {ps qs : List V} (h : Two seen ps) (p : qs.Perm ps) : Two seen qs :=
  ⟨p.length_eq.trans h.1, fun x hx => h.2.1 x (p.mem_iff.mp hx), fun x hx => let ⟨t, i, a, b⟩ := h.2.2 x hx; ⟨t, i, p.mem_iff.mpr a, b⟩⟩
theorem Two.pairs {seen : List Str} {ps : List V} (h : Two seen ps) : ∀ z ∈ ps, IsPair z := fun z hz => let ⟨t, i, e, _⟩ := h.2.1 z hz; ⟨t, i, e⟩
theorem Two.keep {seen : List Str} {ps : List V} {x t : Str} {i : Int} (h : Two seen ps) (m : V.tup [.str t, .int i] ∈ ps) (k : strO.kle x t) : Two (seen ++ [x]) ps := by
  refine ⟨h.1, fun p hp => ?_, fun y hy => ?_⟩
  · obtain ⟨t, i, e, ht⟩ := h.2.1 p hp
    exact ⟨t, i, e, List.mem_append_left _ ht⟩
  · rcases List.mem_append.mp hy with hy | hy
    · exact h.2.2 y hy
    · obtain rfl : y = x := by simpa using hy
      exact ⟨t, i, m, k⟩
theorem Two.swap {seen : List Str} {ps qs : List V} {x t : Str} {i j : Int} (h : Two seen ps) (k : strO.klt t x) (p : (V.tup [.str t, .int i] :: qs).Perm (V.tup [.str x, .int j] :: ps)) : Two (seen ++ [x]) qs := by
  have hx : V.tup [.str x, .int j] ∈ qs := by
    rcases List.mem_cons.mp (p.mem_iff.mpr (List.mem_cons_self (a := V.tup [.str x, .int j]) (l := ps))) with e | e
    · injection e with e; injection e with e1 e2; injection e1 with e1
      subst e1
      exact absurd k (by show ¬ strO.blt x x = true; rw [strO.irrefl]; decide)
    · exact e
  refine ⟨?_, fun y hy => ?_, fun y hy => ?_⟩
  · have h1 := p.length_eq; have h2 := h.1; simp only [List.length_cons] at h1; lia
  · rcases List.mem_cons.mp (p.mem_iff.mp (List.mem_cons_of_mem _ hy)) with e | e
    · exact ⟨x, j, e, by simp⟩
    · obtain ⟨t, i, e, ht⟩ := h.2.1 y e
      exact ⟨t, i, e, List.mem_append_left _ ht⟩
  · rcases List.mem_append.mp hy with hy | hy
    · obtain ⟨u, l, hu, hl⟩ := h.2.2 y hy
      rcases List.mem_cons.mp (p.mem_iff.mpr (List.mem_cons_of_mem _ hu)) with e | e
      · injection e with e; injection e with e1 e2; injection e1 with e1
        subst e1
        exact ⟨x, j, hx, KeyOrd.kle_trans hl (KeyOrd.kle_of_klt k)⟩
      · exact ⟨u, l, e, hl⟩
    · obtain rfl : y = x := by simpa using hy
      exact ⟨y, j, hx, KeyOrd.kle_refl _⟩
theorem two_start (x y : Str) : Two [x, y] [.tup [.str x, .int 0], .tup [.str y, .int (-1)]] := by
  refine ⟨rfl, fun p hp => ?_, fun z hz => ?_⟩
  · rcases List.mem_cons.mp hp with e | e
    · exact ⟨x, 0, e, by simp⟩
    · exact ⟨y, -1, by simpa using e, by simp⟩
  · rcases List.mem_cons.mp hz with e | e
    · exact ⟨x, 0, by simp, by rw [e]; exact KeyOrd.kle_refl _⟩
    · exact ⟨y, -1, by simp, by rw [show z = y by simpa using e]; exact KeyOrd.kle_refl _⟩
noncomputable def fstS : V → Str
  | .tup (.str t :: _) => t
  | _ => ⟨#[]⟩
/-- the first of the two, sorted from the greatest down -/
theorem Two.max {xs : List Str} {ps qs : List V} (h : Two xs ps) (so : SortOut (pairO strO intO) pairK true ps qs) : ∃ m, (qs.map fstS)[0]? = some m ∧ IsMax xs m := by
  obtain ⟨pm, pw⟩ := so
  have h' := h.perm pm
  cases qs with
  | nil => have := h'.1; simp at this
  | cons q r =>
    obtain ⟨m, i, rfl, hm⟩ := h'.2.1 q (by simp)
    refine ⟨m, rfl, hm, fun x hx => ?_⟩
    obtain ⟨t, j, ht, hk⟩ := h'.2.2 x hx
    refine KeyOrd.kle_trans hk ?_
    rcases List.mem_cons.mp ht with e | e
    · injection e with e; injection e with e1 e2; injection e1 with e1
      subst e1; exact KeyOrd.kle_refl _
    · have := (List.pairwise_cons.mp pw).1 _ e
      have h1 : (pairO strO intO).blt (m, i) (t, j) = false := by rw [if_pos rfl] at this; exact this
      have h2 : (strO.blt m t || (!strO.blt t m && intO.blt i j)) = false := h1
      show strO.blt m t = false
      cases q : strO.blt m t with
      | false => rfl
      | true => rw [q] at h2; simp at h2
end

section
variable {B : Bs} {N : Nat} {σ : Sto}
theorem Two.first {seen : List Str} {ps : List V} (h : Two seen ps) : ∃ t i, ps[0]? = some (.tup [.str t, .int i]) ∧ V.tup [.str t, .int i] ∈ ps := by
  cases ps with
  | nil => have := h.1; simp at this
  | cons p r =>
    obtain ⟨t, i, rfl, _⟩ := h.2.1 p (by simp)
    exact ⟨t, i, rfl, by simp⟩
theorem C210 (H : Base B) {a : Addr} {xs : List Str} {Q : V → Sto → Prop} (ha : σ a = some (.list (xs.map .str))) (h0 : 0 < xs.length) (hl : xs.length < 64)
    (h : ∀ c σ' (ys : List Str) m, sle σ σ' → σ' c = some (.list (ys.map .str)) → ys[0]? = some m → ys.length ≤ 64 → IsMax xs m → Q (.ref c) σ') : WC B (N + 5) (.ref 210) [.int 2, .ref a] [] σ Q := by
  refine WC.def_ (H.def_ fn210) (bind210 H) (by walk_at "kinds") ?_
  have sz := sizeLine_eq
  have hxl : (xs.map V.str).length = xs.length := by simp
  refine WS.cons (WX.ite (WI.cmp (WE.loc (by rfl) (by rfl) (WE.int (W2.eq_int (WT.bool ⟨(fun q => by simp at q), fun _ => ?_⟩))) (by rfl)) (by rfl)))
  refine WS.nil ?_
  refine WS.cons (WX.try_ ?_)
  walk_at "asg"
  walk_at "call"
  walk_at "nm"
  refine ⟨trivial, ?_⟩
  walk_at "arg"
  walk_at "nm"
  refine WL.nil (WK.nil (WC.len_list ha (by lia) ?_))
  rw [hxl]
  refine WA.name (WN.loc (by rfl) (WS.nil ?_))
  refine WS.cons (WX.ite (WI.cmp (WE.loc (by rfl) (by rfl) (WE.loc (by rfl) (by rfl) (W2.ge_int (WT.bool ⟨fun q => ?_, fun q => ?_⟩)) (by rfl)) (by rfl)) (by rfl)))
  · walk_at "ret"
    refine WE.slice ?_
    walk_at "call"
    walk_at "nm"
    refine ⟨trivial, ?_⟩
    walk_at "arg"
    walk_at "nm"
    refine WL.nil (WK.cons (WE.cel (by rfl) (by rfl) (WK.cons (WE.bool (WK.nil ?_))) (by rfl)))
    refine WC.sorted_rev (N := N + 2) (O := strO) (key := strK) ha (by rw [hxl]; exact hl) (fun D hD => Cmps.strs fun x hx => ?_) fun D ys hD hs => ?_
    · obtain ⟨t, _, e⟩ := List.mem_map.mp hx
      exact ⟨t, e.symm⟩
    obtain ⟨zs, m, rfl, hm, mx⟩ := sorted_max h0 hs
    have hzl : zs.length = xs.length := by have := hs.1.length_eq; simpa using this
    have hc := Sto.set_self σ D (.list (zs.map V.str))
    refine WE.loc (by rfl) (by rfl) ⟨_, rfl, Sub.list hc, WSl.list_upto hc (by lia) (by simp; lia) fun b hb => ?_⟩ (by rfl)
    refine h b _ (zs.take 2) m ((sle.new hD).set hb) (by rw [Sto.set_self]; simp) ?_ (by simp; lia) mx
    cases zs with
    | nil => simp at hm
    | cons z r => simpa using hm
  have h3 : 2 < xs.length := by
    have : ¬ ((xs.length : Int) ≤ 2) := by simpa using q
    lia
  refine WS.nil (WS.nil ?_)
  refine WS.cons (WX.ite (WI.cmp (WE.cel (by rfl) (by rfl) (WE.none (W2.none_is_none (WT.bool ⟨fun _ => ?_, (fun q => nomatch q)⟩))) (by rfl)) (by rfl)))
  walk_at "asg"
  walk_at "call"
  walk_at "nm"
  refine ⟨trivial, ?_⟩
  walk_at "arg"
  walk_at "nm"
  refine WL.nil (WK.nil (WC.iter_list ha fun it hit => ?_))
  walk_at "set"
  obtain ⟨x, y, r, hxs⟩ : ∃ x y r, xs = x :: y :: r := by
    cases xs with
    | nil => simp at h0
    | cons x r => cases r with
      | nil => simp at h3
      | cons y r => exact ⟨x, y, r, rfl⟩
  have hia : it ≠ a := by rintro rfl; rw [ha] at hit; cases hit
  have ha1 : (σ.set it (.iter a 0)) a = some (.list (.str x :: .str y :: r.map .str)) := by rw [Sto.set_ne _ _ (Ne.symm hia), ha, hxs]; rfl
  refine WS.cons (WX.asgZip ?_ (by rfl) (by rfl) (by rfl) (by rfl) (by rfl) (by rfl) (fun env => by rfl) (fun env => by rfl) (fun env v => by rfl) (by walk_at "sw"))
  walk_at "nm"
  refine ⟨rfl, ?_⟩
  walk_at "arg"
  walk_at "call"
  walk_at "nm"
  refine ⟨trivial, ?_⟩
  walk_at "arg"
  refine WE.int ?_
  walk_at "arg"
  refine WE.un (WE.loc (by rfl) (by rfl) (W1.neg_int ?_) (by rfl))
  walk_at "arg"
  refine WE.un (WE.int (W1.neg_int ?_))
  refine WL.nil (WK.nil (WC.range3 (by decide) (by decide) ?_))
  walk_at "arg"
  walk_at "nm"
  refine WL.nil ⟨it, a, .str x, .str y, r.map .str, rfl, Sto.set_self _ _ _, ha1, hia, fun R hR => ?_⟩
  rw [Sto.set_set]
  have hRi : R ≠ it := by rintro rfl; rw [Sto.set_self] at hR; cases hR
  rw [Sto.set_ne _ _ hRi] at hR
  refine WN.loc (by rfl) ?_
  generalize hσ1 : (σ.set it (.iter a 2)).set R (.list [.tup [.str x, .int 0], .tup [.str y, .int (-1)]]) = σ1
  have le1 : sle σ σ1 := by rw [← hσ1]; exact (sle.new hit).set (by rw [Sto.set_ne _ _ hRi]; exact hR)
  have i1 : σ1 it = some (.iter a 2) := by rw [← hσ1, Sto.set_ne _ _ (Ne.symm hRi), Sto.set_self]
  have r1 : σ1 R = some (.list [.tup [.str x, .int 0], .tup [.str y, .int (-1)]]) := by rw [← hσ1, Sto.set_self]
  clear hσ1 ha1
  have two := two_start x y
  refine WS.cons (WX.ite (WI.not (WI.val (WE.loc (by rfl) (by rfl) (WT.list r1 (by simp; lia) ⟨(fun q => nomatch q), fun _ => ?_⟩) (by rfl)) (fun env w => by rfl))))
  refine WS.nil ?_
  refine WS.cons (WX.expr (WE.call ?_ (fun env => by rfl) (fun env => by rfl) (fun env pos => by rfl)) (by walk_at "sw"))
  walk_at "nm"
  refine ⟨H.cal f190, ?_⟩
  walk_at "arg"
  refine WE.loc (by rfl) (by rfl) ?_ (by rfl)
  refine WL.nil (WK.nil (C190 (N := N + 1) (O := pairO strO intO) (key := pairK) H r1 (by simp) (LtOk.pairs two.pairs (by lia)) fun ps σ2 pm hf hs => ?_))
  have le2 : sle σ σ2 := fun b d e => by
    have : b ≠ R := by rintro rfl; rw [hR] at e; cases e
    exact hs.2 b d this (le1 b d e)
  have i2 : σ2 it = some (.iter a 2) := hs.2 _ _ (Ne.symm hRi) i1
  have r2 := hs.1
  have two2 := two.perm pm
  clear hs pm two r1 i1
  have hf : HeapFrom (O := pairO strO intO) 0 2 (kf pairK ps) := hf
  obtain ⟨t, i, p0, _⟩ := two2.first
  walk_at "asg"
  refine WE.sub (WE.sub (WE.loc (by rfl) (by rfl) (WE.int ⟨Sub.list r2, W2.item (k := 0) r2 p0 (by rw [two2.1]; lia) ?_⟩) (by rfl)) (fun o i => by rfl)) (fun o i => by rfl)
  refine WE.int ⟨Sub.tup, W2.item_tup (j := 0) (d := .str t) (by rfl) (by rfl) (by lia) (by lia) ?_⟩
  walk_at "set"
  walk_at "asg"
  refine WE.un (WE.loc (by rfl) (by rfl) (W1.neg_int ?_) (by rfl))
  walk_at "set"
  walk_at "asg"
  walk_at "nm"
  walk_at "set"
  refine WS.cons (WX.forT (WIt.of (K := _) ?_ (by lia)) (by lia) (fun env x => by rfl))
  refine WE.loc (by rfl) (by rfl) ?_ (by rfl)
  have a2 := le2 _ _ ha
  refine ⟨_, GetIter.iter hia i2 a2, fun k ρ' σ' => ∃ ps t i o, σ' R = some (.list ps) ∧ σ' it = some (.iter a (2 + k)) ∧ sle σ σ' ∧ HeapFrom (O := pairO strO intO) 0 2 (kf pairK ps) ∧ ps[0]? = some (.tup [.str t, .int i]) ∧ Two (xs.take (2 + k)) ps ∧ ρ' (Str.ofString "result") = some (.ref R) ∧ ρ' (Str.ofString "top") = some (.str t) ∧ ρ' (Str.ofString "order") = some (.int o) ∧ ρ' (Str.ofString "_heapreplace") = some (.ref 183),
    ⟨ps, t, i, _, r2, i2, le2, hf, p0, by rw [hxs]; exact two2, by rfl, by rfl, by rfl, by rfl⟩, fun k ρ' σ' q => ex4 (fun ps t i o q => ⟨q.2.1, q.2.2.1 _ _ ha, by clear q; lia⟩) q, ?_, ?_⟩
  · clear two2 le2 i2 r2 hf p0 a2
    intro k ρ' σ' Qt hk qa hQt _ _
    refine ex4 (fun ps t i o qb => un10 (fun hR' hi' hle hf p0 two n1 n2 n3 n4 => ?_) qb) qa
    clear qb qa
    have hk' : 2 + k < xs.length := by
      have : k < (xs.map V.str).length - 2 := hk
      lia
    change WA _ _ _ _ ((xs.map V.str).getD (2 + k) .none) _ (σ'.set it (.iter a (2 + (k + 1)))) _
    rw [show (xs.map V.str).getD (2 + k) .none = .str xs[2 + k] by simp [hk']]
    have tk : xs.take (2 + (k + 1)) = xs.take (2 + k) ++ [xs[2 + k]] := by rw [show 2 + (k + 1) = 2 + k + 1 by lia, List.take_succ_eq_append_getElem hk']
    generalize xs[2 + k] = e at tk
    have hR2 : (σ'.set it (.iter a (2 + (k + 1)))) R = some (.list ps) := by rw [Sto.set_ne _ _ hRi]; exact hR'
    have hi2 : (σ'.set it (.iter a (2 + (k + 1)))) it = some (.iter a (2 + (k + 1))) := Sto.set_self _ _ _
    have le2 : sle σ (σ'.set it (.iter a (2 + (k + 1)))) := fun b d q => by
      rw [Sto.set_ne _ _ (by rintro rfl; rw [hit] at q; cases q)]; exact hle b d q
    generalize (σ'.set it (.iter a (2 + (k + 1)))) = σ4 at hR2 hi2 le2
    clear hR' hi' hle
    have pm0 : V.tup [.str t, .int i] ∈ ps := List.mem_of_getElem? p0
    walk_at "set"
    refine WS.cons (WX.ite (WI.cmp (WE.loc (by rfl) (set_kept n2 (by decide)) (WE.loc (by rfl) (by rfl) (W2.lt_str (WT.bool ⟨fun q => ?_, fun q => ?_⟩)) (by rfl)) (by rfl)) (by rfl)))
    · have lt : strO.klt t e := q
      refine WS.cons (WX.expr (WE.call ?_ (fun env => by rfl) (fun env => by rfl) (fun env pos => by rfl)) (by walk_at "sw"))
      refine WE.loc (by rfl) (set_kept n4 (by decide)) ⟨H.cal f183, ?_⟩ (by rfl)
      walk_at "arg"
      refine WE.loc (by rfl) (set_kept n1 (by decide)) ?_ (by rfl)
      walk_at "arg"
      refine WE.tup ?_
      walk_at "arg"
      refine WE.loc (by rfl) (by rfl) ?_ (by rfl)
      walk_at "arg"
      refine WE.loc (by rfl) (set_kept n3 (by decide)) ?_ (by rfl)
      refine WL.nil ⟨by show 2 ≤ 1000; lia, ?_⟩
      refine WL.nil (WK.nil (C183 (N := N + 1) (O := pairO strO intO) (key := pairK) H hR2 (by rw [two.1]; lia) p0 (LtOk.pairs (fun z hz => ?_) (by lia)) (by rw [two.1]; exact hf) fun qs pm hq => ?_))
      · rcases List.mem_cons.mp hz with e1 | e1
        · exact ⟨_, _, e1⟩
        · exact two.pairs z e1
      have two' : Two (xs.take (2 + (k + 1))) qs := by rw [tk]; exact two.swap lt pm
      obtain ⟨u, j, q0, _⟩ := two'.first
      have hc := Sto.set_self σ4 R (.list qs)
      walk_at "asg"
      refine WE.sub (WE.loc (by rfl) (set_kept n1 (by decide)) (WE.int ⟨Sub.list hc, W2.item (k := 0) hc q0 (by rw [two'.1]; lia) ?_⟩) (by rfl)) (fun o i => by rfl)
      refine WA.tup (by rfl) (by rfl) ?_
      change WN _ _ _ _ _ _ _
      refine WN.loc (by rfl) ?_
      change WN _ _ _ _ _ _ _
      refine WN.loc (by rfl) ?_
      refine WS.cons (WX.aug (by rfl) (set_kept (set_kept (set_kept n3 (by decide)) (by decide)) (by decide)) (WE.int (W2.isub_int (WN.loc (by rfl) (WS.nil (WS.nil ?_))))))
      refine (hQt _ _ ⟨qs, u, j, _, hc, ?_, ?_, by rw [two'.1] at hq; exact hq, q0, two', ?_, ?_, by rfl, ?_⟩).1
      · rw [Sto.set_ne _ _ (Ne.symm hRi)]; exact hi2
      · intro b d q; rw [Sto.set_ne _ _ (by rintro rfl; rw [hR] at q; cases q)]; exact le2 b d q
      · exact set_kept (set_kept (set_kept (set_kept n1 (by decide)) (by decide)) (by decide)) (by decide)
      · rfl
      · exact set_kept (set_kept (set_kept (set_kept n4 (by decide)) (by decide)) (by decide)) (by decide)
    · have le : strO.kle e t := q
      refine WS.nil (WS.nil (hQt _ _ ⟨ps, t, i, o, hR2, hi2, le2, hf, p0, by rw [tk]; exact two.keep pm0 le, ?_, ?_, ?_, ?_⟩).1)
      · exact set_kept n1 (by decide)
      · exact set_kept n2 (by decide)
      · exact set_kept n3 (by decide)
      · exact set_kept n4 (by decide)
  clear two2 le2 i2 r2 hf p0 a2
  intro ρ' σ' qa
  refine ex4 (fun ps t i o qb => un10 (fun hR' hi' hle hf p0 two n1 n2 n3 n4 => ?_) qb) qa
  clear qb qa
  change WS _ _ _ _ _ (σ'.set it .junk) _
  have hR2 : (σ'.set it .junk) R = some (.list ps) := by rw [Sto.set_ne _ _ hRi]; exact hR'
  have le2 : sle σ (σ'.set it .junk) := fun b d q => by
    rw [Sto.set_ne _ _ (by rintro rfl; rw [hit] at q; cases q)]; exact hle b d q
  have two2 : Two xs ps := by
    have e : 2 + ((xs.map V.str).length - 2) = xs.length := by rw [hxl]; lia
    have := two
    change Two (xs.take (2 + ((xs.map V.str).length - 2))) ps at this
    rw [e, List.take_length] at this; exact this
  generalize (σ'.set it .junk) = σ4 at hR2 le2
  clear hR' hi' hle two
  refine WS.cons (WX.expr (WE.meth (fun _ => "list.sort") ?_ (fun env => ⟨_, by rfl⟩) (fun env => by rfl) (fun env pos => by rfl)) (by walk_at "sw"))
  refine WE.loc (by rfl) n1 ⟨M.sort hR2, ?_⟩ (by rfl)
  refine WL.nil (WK.cons (WE.bool (WK.nil ?_)))
  refine WC.sort_rev (N := N + 3) (O := pairO strO intO) (key := pairK) hR2 (by rw [two2.1]; lia) (Cmps.pairs two2.pairs) fun qs so => ?_
  obtain ⟨m, hm, mx⟩ := two2.max so
  have two3 := two2.perm so.1
  have hc := Sto.set_self σ4 R (.list qs)
  have le3 : sle σ (σ4.set R (.list qs)) := fun b d q => by
    rw [Sto.set_ne _ _ (by rintro rfl; rw [hR] at q; cases q)]; exact le2 b d q
  generalize (σ4.set R (.list qs)) = σ5 at hc le3
  walk_at "ret"
  refine WE.comp (WIt.of (K := _) ?_ (by lia)) (by rfl) (fun env x => by rfl) (by lia)
  refine WE.loc (by rfl) n1 ?_ (by rfl)
  refine ⟨_, GetIter.list hc, CompTurns.of ⟨by show qs.length ≤ 1000; rw [two3.1]; lia, fun k out σ' => σ' = σ5 ∧ out = ((qs.map fstS).take k).map .str, ⟨rfl, rfl⟩, fun k out σ' e => by rw [e.1]; exact hc, ?_, ?_⟩⟩
  · rintro k out σ' Kt Kf hk ⟨rfl, rfl⟩ hKt _
    have hk' : k < qs.length := hk
    have hk2 : k < (qs.map fstS).length := by simpa using hk'
    obtain ⟨u, j, e, _⟩ := two3.2.1 _ (List.getElem_mem hk')
    have hit : (srcOf qs.length (fun k => qs.getD k V.none) fun _ σ6 => σ6 R = some (.list qs)).item k = .tup [.str u, .int j] := by
      show qs.getD k V.none = _
      rw [← e]; simp [hk']
    rw [hit]
    refine WA.tup (by rfl) (by rfl) ?_
    change WN _ _ _ _ _ _ _
    refine WN.loc (by rfl) ?_
    change WN _ _ _ _ _ _ _
    refine WN.loc (by rfl) ?_
    change _ ∧ _
    refine ⟨fun _ => ?_, (fun q => nomatch q)⟩
    refine WE.loc (by rfl) (by rfl) (hKt _ _ ⟨rfl, ?_⟩) (by rfl)
    rw [List.take_succ_eq_append_getElem hk2, List.map_append, List.getElem_map, e]; rfl
  · rintro out σ' ⟨rfl, rfl⟩ b hb
    change σ' b = none at hb
    have e : (qs.map fstS).take qs.length = qs.map fstS := List.take_of_length_le (by simp)
    change Q (.ref b) (σ'.set b (.list (((qs.map fstS).take qs.length).map .str)))
    rw [e]
    exact h b _ _ m (le3.set hb) (Sto.set_self _ _ _) hm (by rw [List.length_map, two3.1]; lia) mx
end

section
open Builtin.Str
theorem slt_eq : ∀ xs ys : List Str, slt xs ys = listLt strO xs ys
  | [], [] => rfl
  | [], _ :: _ => rfl
  | _ :: _, [] => rfl
  | x :: xs, y :: ys => by
    unfold slt listLt
    rw [slt_eq xs ys]
    exact lex_beq strO (eq := fun a b => a == b) (fun a b => beq_iff_eq) x y (listLt strO xs ys)
theorem best_le {O : KeyOrd} (f : Nat → O.α) : ∀ (k : Nat) (j : Nat), j ≤ k → O.kle (f (argBest (fun i j => O.blt (f i) (f j)) k)) (f j)
  | 0, j, h => by obtain rfl : j = 0 := by lia
                  exact KeyOrd.kle_refl _
  | k + 1, j, h => by
    unfold argBest
    split
    · rename_i q
      by_cases e : j = k + 1
      · subst e; exact KeyOrd.kle_refl _
      · exact KeyOrd.kle_trans (KeyOrd.kle_of_klt q) (best_le f k j (by lia))
    · rename_i q
      by_cases e : j = k + 1
      · subst e; exact KeyOrd.kle_of_not_klt q
      · exact best_le f k j (by lia)
theorem best_ge {O : KeyOrd} (f : Nat → O.α) : ∀ (k : Nat) (j : Nat), j ≤ k → O.kle (f j) (f (argBest (fun i j => O.blt (f j) (f i)) k))
  | 0, j, h => by obtain rfl : j = 0 := by lia
                  exact KeyOrd.kle_refl _
  | k + 1, j, h => by
    unfold argBest
    split
    · rename_i q
      by_cases e : j = k + 1
      · subst e; exact KeyOrd.kle_refl _
      · exact KeyOrd.kle_trans (best_ge f k j (by lia)) (KeyOrd.kle_of_klt q)
    · rename_i q
      by_cases e : j = k + 1
      · subst e; exact KeyOrd.kle_of_not_klt q
      · exact best_ge f k j (by lia)
theorem getD_of_mem {rows : List (List Str)} {r : List Str} (h : r ∈ rows) : ∃ j, j ≤ rows.length - 1 ∧ rows.getD j [] = r := by
  obtain ⟨j, hj, e⟩ := List.mem_iff_getElem.mp h
  exact ⟨j, by lia, by rw [List.getD_eq_getElem?_getD, List.getElem?_eq_getElem hj, e]; rfl⟩
theorem minRow_le {rows : List (List Str)} {r : List Str} (h : r ∈ rows) : namesO.kle (minRow rows) r := by
  obtain ⟨j, hj, rfl⟩ := getD_of_mem h
  have := best_le (O := namesO) (fun i => rows.getD i []) (rows.length - 1) j hj
  unfold minRow
  rw [show (fun i j => slt (rows.getD i []) (rows.getD j [])) = fun i j => namesO.blt (rows.getD i []) (rows.getD j []) by funext i j; exact slt_eq _ _]
  exact this
theorem maxRow_ge {rows : List (List Str)} {r : List Str} (h : r ∈ rows) : namesO.kle r (maxRow rows) := by
  obtain ⟨j, hj, rfl⟩ := getD_of_mem h
  have := best_ge (O := namesO) (fun i => rows.getD i []) (rows.length - 1) j hj
  unfold maxRow
  rw [show (fun i j => slt (rows.getD j []) (rows.getD i [])) = fun i j => namesO.blt (rows.getD j []) (rows.getD i []) by funext i j; exact slt_eq _ _]
  exact this
theorem minRow_eq {rows : List (List Str)} {m : List Str} (h : m ∈ rows) (k : ∀ r ∈ rows, namesO.kle m r) : minRow rows = m :=
  KeyOrd.kle_antisymm (minRow_le h) (k _ (minRow_mem (by cases rows with | nil => cases h | cons _ _ => simp)))
theorem maxRow_eq {rows : List (List Str)} {m : List Str} (h : m ∈ rows) (k : ∀ r ∈ rows, namesO.kle r m) : maxRow rows = m :=
  KeyOrd.kle_antisymm (k _ (maxRow_mem (by cases rows with | nil => cases h | cons _ _ => simp))) (maxRow_ge h)
theorem row_perm {rows rows' : List (List Str)} (p : rows.Perm rows') (h : 0 < rows.length) : minRow rows = minRow rows' ∧ maxRow rows = maxRow rows' := by
  have h' : 0 < rows'.length := by rw [← p.length_eq]; exact h
  exact ⟨minRow_eq (p.mem_iff.mpr (minRow_mem h')) fun r hr => minRow_le (p.mem_iff.mp hr), maxRow_eq (p.mem_iff.mpr (maxRow_mem h')) fun r hr => maxRow_ge (p.mem_iff.mp hr)⟩
theorem commonF_perm {rows rows' : List (List Str)} (p : rows.Perm rows') (h : 0 < rows.length) : commonF rows = commonF rows' := by
  obtain ⟨e1, e2⟩ := row_perm p h
  unfold commonF; rw [e1, e2]
theorem listLt_take (O : KeyOrd) : ∀ (s : List O.α) (k : Nat), k < s.length → listLt O (s.take k) s = true
  | [], k, h => by simp at h
  | x :: s, 0, _ => rfl
  | x :: s, k + 1, h => by
    simp only [List.take_succ_cons, listLt, O.irrefl, Bool.not_false, Bool.true_and, Bool.false_or]
    exact listLt_take O s k (by simpa using h)
theorem take_short {s1 s2 : List Str} (h : namesO.kle s1 s2) : ∀ k, k < s1.length → s1.take k = s2.take k → k < s2.length := fun k hk e => by
  refine Nat.lt_of_not_le fun q => ?_
  rw [List.take_of_length_le q] at e
  have h1 := listLt_take strO s1 k hk
  rw [e] at h1
  have h2 : listLt strO s2 s1 = false := h
  rw [h1] at h2; cases h2
theorem front_pre : ∀ xs ys : List Str, ∃ j, j ≤ xs.length ∧ front xs ys = xs.take j
  | [], ys => ⟨0, Nat.le_refl _, by cases ys <;> rfl⟩
  | x :: xs, [] => ⟨0, Nat.zero_le _, rfl⟩
  | x :: xs, y :: ys => by
    unfold front
    split
    · obtain ⟨j, h1, h2⟩ := front_pre xs ys
      exact ⟨j + 1, by simpa using h1, by rw [h2]; rfl⟩
    · exact ⟨0, Nat.zero_le _, rfl⟩
theorem mulOk_slash {n : Nat} (h : n ≤ 1000) : MulOk slash (n : Int) := by
  refine ⟨?_, fun h1 h2 => ?_, fun h1 h2 => ?_⟩
  · simp only [Bool.or_eq_false_iff, decide_eq_false_iff_not]; lia
  · have : (1 : Int) ≤ (2 ^ 63 - 1) / (n : Int) := by
      rw [Int.le_ediv_iff_mul_le (by lia)]; lia
    show ¬ ((1 : Int) > _)
    lia
  · show tooLong (1 * (n : Int).toNat) = false
    unfold tooLong; rw [sizeLine_eq]; simp; lia
theorem mul_fits {n : Nat} (h : n ≤ 1000) : (Txt.mul slash (n : Int)).length ≤ sizeLine := by
  have sz := sizeLine_eq
  unfold Txt.mul
  split
  · show 0 ≤ _; lia
  · split
    · show 1 ≤ _; lia
    · exact fits_reps (by show tooLong (1 * (n : Int).toNat) = false; unfold tooLong; rw [sz]; simp; lia)
/-- all that is asked of a laid path -/
noncomputable def dirOk (x : Str) : Bool := decide (0 ≤ Txt.rfind x slash + 1) && decide (x.length ≤ 1000) && decide ((headOf x).length ≤ 1000) && PyData.strOk x
noncomputable def frontsOk (s : List Str) : Bool := (List.range (s.length + 1)).all fun k => JoinOk slash (s.take k) && decide ((slash ++ Txt.join slash (s.take k)).length ≤ 1000)
noncomputable def pathOk (x : Str) : Bool := cpOk x && dirOk x && frontsOk (splitF x)
theorem pathOk.str {x : Str} (h : pathOk x = true) : PyData.strOk x = true := by simp only [pathOk, dirOk, Bool.and_eq_true] at h; exact h.1.2.2
theorem pathOk.cp {x : Str} (h : pathOk x = true) : cpOk x = true := by simp only [pathOk, Bool.and_eq_true] at h; exact h.1.1
theorem pathOk.fronts {x : Str} (h : pathOk x = true) {k : Nat} (hk : k ≤ (splitF x).length) : JoinOk slash ((splitF x).take k) = true ∧ (slash ++ Txt.join slash ((splitF x).take k)).length ≤ 1000 := by
  simp only [pathOk, Bool.and_eq_true] at h
  have := List.all_eq_true.mp h.2 k (by simp; lia)
  simpa using this
end
section
variable {B : Bs} {N : Nat} {σ : Sto}
/-- commonpath -/
theorem C169' (H : Base B) {l : Addr} {xs : List Str} {Q : V → Sto → Prop} (hl : σ l = some (.list (xs.map .str))) (hn : 0 < xs.length) (hn2 : xs.length ≤ 1000) (ok : ∀ x ∈ xs, pathOk x = true)
    (h : ∀ σ', sle σ σ' → Q (.str (commonF (xs.map splitF))) σ') : WC B (N + 6) (.ref 169) [.ref l] [] σ Q := by
  have hr : 0 < (xs.map splitF).length := by simpa using hn
  obtain ⟨x, hx, ex⟩ := List.mem_map.mp (minRow_mem hr)
  obtain ⟨j, hj, ej⟩ := front_pre (minRow (xs.map splitF)) (maxRow (xs.map splitF))
  have hp := pathOk.fronts (ok x hx) (k := j) (by rw [ex]; exact hj)
  rw [ex, ← ej] at hp
  exact C169 H hl hn hn2 (fun x hx => pathOk.cp (ok x hx)) (take_short (minRow_le (maxRow_mem hr))) hp.1 (by rw [sizeLine_eq]; unfold commonF; lia) h
/-- dirname -/
theorem C164' (H : Base B) {x : Str} {Q : V → Sto → Prop} (ok : pathOk x = true) (h : Q (.str (dirF x)) σ) : WC B (N + 2) (.ref 164) [.str x] [] σ Q := by
  simp only [pathOk, dirOk, Bool.and_eq_true, decide_eq_true_eq] at ok
  have sz := sizeLine_eq
  exact C164 H ok.1.2.1.1.1 (by lia) (by lia) (mulOk_slash ok.1.2.1.2) (mul_fits ok.1.2.1.2) h
end

section
open PyProof PySem.SeqAt
noncomputable def rowV (r : List Str) : V := .tup (r.map .str)
noncomputable def lastS (xs : List Str) : Str := xs.getLastD ⟨#[]⟩
noncomputable def tellRow (m M : Str) (all : List Str) : List Str := [m, M, dirF m, commonF [splitF m, splitF M], commonF (all.map splitF)]
noncomputable def tellAll : List Str → List (List Str)
  | [] => []
  | m :: r => tellRow m (lastS (m :: r)) (m :: r) :: tellAll r
theorem tell_length : ∀ ss, (tellAll ss).length = ss.length
  | [] => rfl
  | m :: r => by simp [tellAll, tell_length r]
theorem tell_drop : ∀ (ss : List Str) (k : Nat), (tellAll ss).drop k = tellAll (ss.drop k)
  | [], k => by simp [tellAll]
  | m :: r, 0 => rfl
  | m :: r, k + 1 => by
    simp only [tellAll, List.drop_succ_cons]
    exact tell_drop r k
theorem tell_take {ss : List Str} {k : Nat} {m : Str} {r : List Str} (h : ss.drop k = m :: r) : (tellAll ss).take (k + 1) = (tellAll ss).take k ++ [tellRow m (lastS (m :: r)) (m :: r)] := by
  have e : (tellAll ss)[k]? = some (tellRow m (lastS (m :: r)) (m :: r)) := by
    have h1 : ((tellAll ss).drop k)[0]? = (tellAll ss)[k]? := by simp
    rw [← h1, tell_drop, h]; rfl
  rw [List.take_add_one, e]; rfl
theorem perm_strs {ys : List V} {xs : List Str} (p : ys.Perm (xs.map V.str)) : ∃ hs : List Str, ys = hs.map V.str ∧ hs.Perm xs := by
  have hs : ∀ y ∈ ys, ∃ t, y = V.str t := fun y hy => by
    obtain ⟨t, _, e⟩ := List.mem_map.mp (p.mem_iff.mp hy)
    exact ⟨t, e.symm⟩
  refine ⟨ys.map strK, strs_map hs, ?_⟩
  have := p.map strK
  rw [List.map_map] at this
  have e : xs.map (strK ∘ V.str) = xs := List.map_id' xs
  rw [e] at this; exact this
theorem kf_strs {hs : List Str} {i : Nat} {x : Str} (h : hs[i]? = some x) : kf (O := strO) strK (hs.map V.str) i = x := by
  unfold kf
  rw [List.getD_eq_getElem?_getD, List.getElem?_map, h]; rfl
/-- the first of a heap and the first of the same things in their order -/
theorem heap_first {hs : List Str} {m : Str} {r : List Str} (hf : HeapFrom (O := strO) 0 hs.length (kf strK (hs.map V.str))) (pm : hs.Perm (m :: r)) (so : (m :: r).Pairwise strO.kle) : hs[0]? = some m := by
  cases hs with
  | nil => have := pm.length_eq; simp at this
  | cons x hs =>
    have e : x = m := by
      refine KeyOrd.kle_antisymm (O := strO) ?_ ?_
      · have hm : m ∈ x :: hs := pm.mem_iff.mpr (by simp)
        obtain ⟨i, e⟩ := List.mem_iff_getElem?.mp hm
        have hi := (List.getElem?_eq_some_iff.mp e).1
        have := heap_least hf i hi
        rw [kf_strs (i := 0) (x := x) rfl, kf_strs e] at this
        exact this
      · rcases List.mem_cons.mp (pm.mem_iff.mp (List.mem_cons_self (a := x) (l := hs))) with q | q
        · rw [q]; exact KeyOrd.kle_refl _
        · exact (List.pairwise_cons.mp so).1 _ q
    rw [e]; rfl
theorem last_max : ∀ {m : Str} {r : List Str}, (m :: r).Pairwise strO.kle → IsMax (m :: r) (lastS (m :: r))
  | m, [], _ => ⟨by simp [lastS], fun x hx => by obtain rfl : x = m := by simpa using hx
                                                 exact KeyOrd.kle_refl _⟩
  | m, y :: r, h => by
    obtain ⟨h1, h2⟩ := List.pairwise_cons.mp h
    obtain ⟨a, b⟩ := last_max h2
    have e : lastS (m :: y :: r) = lastS (y :: r) := by simp [lastS]
    rw [e]
    refine ⟨List.mem_cons_of_mem _ a, fun x hx => ?_⟩
    rcases List.mem_cons.mp hx with q | q
    · subst q; exact h1 _ a
    · exact b x q
theorem max_unique {xs ys : List Str} {m M : Str} (p : xs.Perm ys) (h : IsMax xs m) (k : IsMax ys M) : m = M :=
  KeyOrd.kle_antisymm (O := strO) (k.2 _ (p.mem_iff.mp h.1)) (h.2 _ (p.mem_iff.mpr k.1))
theorem lay_strs : ∀ (xs : List Str), (∀ x ∈ xs, PyData.strOk x = true) → PyData.canLayAll0 (xs.map PyData.str) = true
  | [], _ => rfl
  | x :: xs, h => by
    have h1 := h x (by simp)
    have h2 := lay_strs xs fun y hy => h y (by simp [hy])
    simp [PyData.canLayAll0, PyData.canLay0, h1, h2]
theorem dep_strs : ∀ (xs : List Str), PyData.depthAll (xs.map PyData.str) ≤ 1
  | [] => by simp [PyData.depthAll]
  | x :: xs => by
    have := dep_strs xs
    simp only [List.map_cons, PyData.depthAll, PyData.depth] at *
    lia
theorem shaped_strs {xs : List Str} (h : ∀ x ∈ xs, PyData.strOk x = true) : shaped (.list (xs.map PyData.str)) = true := by
  unfold shaped
  rw [Bool.and_eq_true, decide_eq_true_eq]
  refine ⟨lay_strs xs h, ?_⟩
  have := dep_strs xs
  simp only [PyData.depth]
  lia
theorem RDL.strs {σ : Sto} : ∀ (xs : List Str), RDL σ (xs.map V.str) (xs.map PyData.str)
  | [] => .nil
  | x :: xs => .cons (.str x) (RDL.strs xs)
end

section
open PyProof PySem.SeqAt
variable {B : Bs} {N : Nat} {σ : Sto}
theorem W2.ne_nil {a b : Addr} {xs : List Str} {Q : V → Sto → Prop} (ha : σ a = some (.list (xs.map .str))) (hb : σ b = some (.list [])) (ok : ∀ x ∈ xs, PyData.strOk x = true) (hN : 4 ≤ N) (h : Q (.bool (!xs.isEmpty)) σ) : W2 B N (compareOp .NotEq) (.ref a) (.ref b) σ Q := by
  refine W2.ne_rd (.lst ha (RDL.strs xs)) (.lst hb .nil) (shaped_strs ok) (shaped_strs (xs := []) (fun _ h => nomatch h)) ?_ hN ?_
  · cases xs <;> rfl
  · have e : Spec.same (.list (xs.map PyData.str)) (.list []) = xs.isEmpty := by cases xs <;> rfl
    rw [e]; exact h
theorem C243 (H : Base B) {l : Addr} {kd : Int} {paths : List (List Str)} {ss : List Str} {Q : V → Sto → Prop} (hl : σ l = some (.list (paths.map fun n => .tup (n.map .str)))) (hn : paths.length < 64)
    (ok1 : ∀ n ∈ paths, laidOk kd slash n = true) (ok2 : ∀ n ∈ paths, pathOk (laidFrom kd slash n) = true) (hp : ss.Perm (paths.map (laidFrom kd slash))) (so : ss.Pairwise strO.kle)
    (h : ∀ c σ', sle σ σ' → σ' c = some (.list ((tellAll ss).map rowV)) → Q (.ref c) σ') : WC B (N + 8) (.ref 243) [.ref l, .int kd] [] σ Q := by
  refine WC.def_ (H.def_ f243) (WBind.pos2 (fun v u => by rfl)) (by walk_at "kinds") ?_
  have sz := sizeLine_eq
  refine WS.cons (WX.asgComp (WIt.of (K := _) ?_ (by lia)) (by rfl) (fun env x => by rfl) (by lia) (by walk_at "sw"))
  refine WE.loc (by rfl) (by rfl) ?_ (by rfl)
  refine ⟨_, GetIter.list hl, CompTurns.of ⟨by show (paths.map fun n => V.tup (n.map .str)).length ≤ 1000; simp; lia, fun k out σ' => σ' = σ ∧ out = ((paths.map (laidFrom kd slash)).take k).map .str, ⟨rfl, rfl⟩, fun k out σ' e => by rw [e.1]; exact hl, ?_, ?_⟩⟩
  · rintro k out σ' Kt Kf hk ⟨rfl, rfl⟩ hKt _
    have hk' : k < paths.length := by simpa using hk
    have hk2 : k < (paths.map (laidFrom kd slash)).length := by simpa using hk'
    have hit : (srcOf (paths.map fun n => V.tup (n.map .str)).length (fun k => (paths.map fun n => V.tup (n.map .str)).getD k V.none) fun _ σ6 => σ6 l = some (.list (paths.map fun n => .tup (n.map .str)))).item k = .tup (paths[k].map .str) := by
      show (paths.map fun n => V.tup (n.map .str)).getD k V.none = _
      simp [hk']
    rw [hit]
    refine WA.name (WN.loc (by rfl) ?_)
    change _ ∧ _
    refine ⟨fun _ => ?_, (fun q => nomatch q)⟩
    walk_at "call"
    walk_at "nm"
    refine ⟨H.cal f238, ?_⟩
    walk_at "arg"
    refine WE.cel (by rfl) (by rfl) ?_ (by rfl)
    walk_at "arg"
    refine WE.loc (by rfl) (by rfl) ?_ (by rfl)
    refine WL.nil (WK.nil ((C238 (N := N) H (ok1 _ (List.getElem_mem hk')) (hKt _ _ ⟨rfl, ?_⟩)).room (by lia)))
    rw [List.take_succ_eq_append_getElem hk2, List.map_append, List.getElem_map]; rfl
  rintro out σ' ⟨rfl, rfl⟩ hp0 hhp
  change σ' hp0 = none at hhp
  have e1 : (paths.map (laidFrom kd slash)).take (paths.map fun n => V.tup (n.map .str)).length = paths.map (laidFrom kd slash) := List.take_of_length_le (by simp)
  change WN _ _ _ _ _ (σ'.set hp0 (.list (((paths.map (laidFrom kd slash)).take (paths.map fun n => V.tup (n.map .str)).length).map .str))) _
  rw [e1]
  generalize hxs : paths.map (laidFrom kd slash) = xs at *
  have ok3 : ∀ x ∈ xs, pathOk x = true := fun x hx => by
    rw [← hxs] at hx
    obtain ⟨n, hn, rfl⟩ := List.mem_map.mp hx
    exact ok2 n hn
  have hxl : xs.length < 64 := by rw [← hxs]; simpa using hn
  have ok4 : ∀ x ∈ ss, pathOk x = true := fun x hx => ok3 x (hp.mem_iff.mp hx)
  have hsl : ss.length < 64 := by rw [hp.length_eq]; exact hxl
  refine WN.loc (by rfl) ?_
  refine WS.cons (WX.expr (WE.call ?_ (fun env => by rfl) (fun env => by rfl) (fun env pos => by rfl)) (by walk_at "sw"))
  walk_at "nm"
  refine ⟨H.cal f190, ?_⟩
  walk_at "arg"
  refine WE.loc (by rfl) (by rfl) ?_ (by rfl)
  refine WL.nil (WK.nil (C190 (N := N + 4) (O := strO) (key := strK) H (Sto.set_self _ _ _) (by simp; lia) (LtOk.strs fun z hz => ?_) fun ys σ2 pm hf hs => ?_))
  · obtain ⟨t, _, e⟩ := List.mem_map.mp hz
    exact ⟨t, e.symm⟩
  obtain ⟨hs0, rfl, pm0⟩ := perm_strs pm
  have hf : HeapFrom (O := strO) 0 hs0.length (kf strK (hs0.map V.str)) := by
    have : hs0.length = (xs.map V.str).length := by rw [pm0.length_eq]; simp
    rw [this]; exact hf
  have le2 : sle σ' σ2 := fun b d e => hs.2 b d (by rintro rfl; rw [hhp] at e; cases e) (by rw [Sto.set_ne _ _ (by rintro rfl; rw [hhp] at e; cases e)]; exact e)
  have r2 := hs.1
  clear hs pm
  walk_at "asg"
  refine WE.lst (WL.nil ⟨by decide, fun td htd => ?_⟩)
  have hne : td ≠ hp0 := by rintro rfl; rw [r2] at htd; cases htd
  have htd0 : σ' td = none := by
    cases e : σ' td with
    | none => rfl
    | some c => have := le2 _ _ e; rw [htd] at this; cases this
  walk_at "set"
  have le3 := le2.set (c := .list []) htd
  have r3 : (σ2.set td (.list [])) hp0 = some (.list (hs0.map .str)) := by rw [Sto.set_ne _ _ (Ne.symm hne)]; exact r2
  have t3 : (σ2.set td (.list [])) td = some (.list []) := Sto.set_self _ _ _
  generalize (σ2.set td (.list [])) = σ3 at le3 r3 t3
  clear le2 r2 htd
  refine WS.cons (WX.monoT (P := fun f ρ' σ4 => f = .next ∧ σ4 td = some (.list ((tellAll ss).map rowV)) ∧ sle σ' σ4 ∧ ρ' (Str.ofString "told") = some (.ref td))
    (fun Pw hPw => WX.whileT (fun m ρ' σ4 => ∃ k hs, m = ss.length - k ∧ k ≤ ss.length ∧ hs.Perm (ss.drop k) ∧ σ4 hp0 = some (.list (hs.map V.str)) ∧ HeapFrom (O := strO) 0 hs.length (kf strK (hs.map V.str)) ∧ σ4 td = some (.list (((tellAll ss).take k).map rowV)) ∧ sle σ' σ4 ∧ ρ' (Str.ofString "heap") = some (.ref hp0) ∧ ρ' (Str.ofString "told") = some (.ref td)) ss.length
      ⟨0, hs0, rfl, Nat.zero_le _, by simpa using pm0.trans hp.symm, r3, hf, by simpa using t3, le3, by rfl, by rfl⟩ ?_) ?_)
  · clear r3 t3 le3 hf pm0
    intro m ρ' σ4 Qt qa hQt _ _
    refine ex2 (fun k hs qb => un9 (fun em hk pm r3 hf t3 le3 n1 n2 => ?_) qb) qa
    clear qb qa
    subst em
    have okh : ∀ x ∈ hs, pathOk x = true := fun x hx => ok4 x (List.mem_of_mem_drop (pm.mem_iff.mp hx))
    have hhl : hs.length ≤ 63 := by have := pm.length_eq; simp at this; lia
    refine WI.cmp (WE.loc (by rfl) n1 (WE.lst (WL.nil ⟨by decide, fun e he => ?_⟩)) (by rfl)) (by rfl)
    have nee : e ≠ hp0 := by rintro rfl; rw [r3] at he; cases he
    refine W2.ne_nil (by rw [Sto.set_ne _ _ (Ne.symm nee)]; exact r3) (Sto.set_self _ _ _) (fun x hx => pathOk.str (okh x hx)) (by lia) (WT.bool ?_)
    have le4 := le3.set (c := .list []) he
    have r4 : (σ4.set e (.list [])) hp0 = some (.list (hs.map .str)) := by rw [Sto.set_ne _ _ (Ne.symm nee)]; exact r3
    have t4 : (σ4.set e (.list [])) td = some (.list (((tellAll ss).take k).map rowV)) := by rw [Sto.set_ne _ _ (by rintro rfl; rw [t3] at he; cases he)]; exact t3
    generalize (σ4.set e (.list [])) = σ5 at le4 r4 t4
    clear le3 r3 t3 he nee
    refine ⟨fun q => ?_, fun q => ?_⟩
    · obtain ⟨m, r, hd⟩ : ∃ m r, ss.drop k = m :: r := by
        cases e : ss.drop k with
        | nil => rw [e] at pm; have := pm.length_eq; simp at this; rw [this] at q; simp at q
        | cons m r => exact ⟨m, r, rfl⟩
      rw [hd] at pm
      have so' : (m :: r).Pairwise strO.kle := hd ▸ so.sublist (List.drop_sublist k ss)
      have f0 := heap_first hf pm so'
      have h0 : 0 < hs.length := (List.getElem?_eq_some_iff.mp f0).1
      have f0' : (hs.map V.str)[0]? = some (.str m) := by rw [List.getElem?_map, f0]; rfl
      have mm : m ∈ hs := List.mem_of_getElem? f0
      have lM := last_max so'
      have hkl : k < ss.length := by
        have : (ss.drop k).length = (m :: r).length := by rw [hd]
        simp at this; lia
      walk_at "asg"
      refine WE.sub ?_ (fun o i => by rfl)
      walk_at "call"
      walk_at "nm"
      refine ⟨H.cal fn210, ?_⟩
      walk_at "arg"
      refine WE.int ?_
      walk_at "arg"
      refine WE.loc (by rfl) n1 ?_ (by rfl)
      refine WL.nil (WK.nil (C210 (N := N + 2) H r4 h0 (by lia) fun c σ6 ys gM le hc hM hyl mx => ?_))
      have eM : gM = lastS (m :: r) := max_unique pm mx lM
      have hM' : (ys.map V.str)[0]? = some (.str gM) := by rw [List.getElem?_map, hM]; rfl
      refine WE.int ⟨Sub.list hc, W2.item hc (k := 0) hM' (by simp; lia) ?_⟩
      walk_at "set"
      have le6 := le4.trans le
      have r6 := le _ _ r4
      have t6 := le _ _ t4
      clear le4 r4 t4 le hc
      have n1' := set_kept (d := .str gM) (y := Str.ofString "greatest") n1 (by decide)
      have n2' := set_kept (d := .str gM) (y := Str.ofString "greatest") n2 (by decide)
      have n3' : (ρ'.set (Str.ofString "greatest") (.str gM)) (Str.ofString "greatest") = some (.str gM) := by rw [Loc.set, if_pos rfl]
      generalize (ρ'.set (Str.ofString "greatest") (.str gM)) = ρ2 at n1' n2' n3'
      refine WS.cons (WX.expr (WE.meth (fun _ => "list.append") ?_ (fun env => ⟨_, by rfl⟩) (fun env => by rfl) (fun env pos => by rfl)) (by walk_at "sw"))
      refine WE.loc (by rfl) n2' ⟨M.append t6, ?_⟩ (by rfl)
      walk_at "arg"
      refine WE.tup ?_
      walk_at "arg"
      refine WE.sub (WE.loc (by rfl) n1' (WE.int ⟨Sub.list r6, W2.item r6 (k := 0) f0' (by simp; lia) ?_⟩) (by rfl)) (fun o i => by rfl)
      walk_at "arg"
      refine WE.loc (by rfl) n3' ?_ (by rfl)
      walk_at "arg"
      walk_at "call"
      walk_at "nm"
      refine ⟨H.cal f164, ?_⟩
      walk_at "arg"
      refine WE.sub (WE.loc (by rfl) n1' (WE.int ⟨Sub.list r6, W2.item r6 (k := 0) f0' (by simp; lia) ?_⟩) (by rfl)) (fun o i => by rfl)
      refine WL.nil (WK.nil (C164' (N := N + 5) H (okh _ mm) ?_))
      walk_at "arg"
      walk_at "call"
      walk_at "nm"
      refine ⟨H.cal f169, ?_⟩
      walk_at "arg"
      refine WE.lst ?_
      walk_at "arg"
      refine WE.sub (WE.loc (by rfl) n1' (WE.int ⟨Sub.list r6, W2.item r6 (k := 0) f0' (by simp; lia) ?_⟩) (by rfl)) (fun o i => by rfl)
      walk_at "arg"
      refine WE.loc (by rfl) n3' ?_ (by rfl)
      refine WL.nil ⟨by show 2 ≤ 1000; lia, fun b hb => ?_⟩
      have le7 := le6.set (c := .list [.str m, .str gM]) hb
      have sb : sle σ6 (σ6.set b (.list [.str m, .str gM])) := sle.new hb
      refine WL.nil (WK.nil (C169' (N := N + 1) H (xs := [m, gM]) (Sto.set_self _ _ _) (by simp) (by simp) (fun x hx => ?_) fun σ7 s7 => ?_))
      · rcases List.mem_cons.mp hx with e | e
        · rw [e]; exact okh _ mm
        · rw [show x = gM by simpa using e]; exact okh _ mx.1
      walk_at "arg"
      walk_at "call"
      walk_at "nm"
      refine ⟨H.cal f169, ?_⟩
      walk_at "arg"
      refine WE.loc (by rfl) n1' ?_ (by rfl)
      have s67 := sb.trans s7
      refine WL.nil (WK.nil (C169' (N := N + 1) H (xs := hs) (s67 _ _ r6) h0 (by lia) okh fun σ8 s8 => ?_))
      have s68 := s67.trans s8
      refine WL.nil ⟨by show 5 ≤ 1000; lia, ?_⟩
      have t8 := s68 _ _ t6
      have r8 := s68 _ _ r6
      have tl : (((tellAll ss).take k).map rowV).length ≤ 1000 := by simp [tell_length]; lia
      refine WL.nil (WK.nil (WC.append t8 tl ?_))
      have erow : V.tup [.str m, .str gM, .str (dirF m), .str (commonF ([m, gM].map splitF)), .str (commonF (hs.map splitF))] = rowV (tellRow m (lastS (m :: r)) (m :: r)) := by
        rw [commonF_perm (pm.map splitF) (by simpa using h0), eM]; rfl
      have et : ((tellAll ss).take k).map rowV ++ [V.tup [.str m, .str gM, .str (dirF m), .str (commonF ([m, gM].map splitF)), .str (commonF (hs.map splitF))]] = ((tellAll ss).take (k + 1)).map rowV := by
        rw [tell_take hd, List.map_append, erow]; rfl
      rw [et]
      have t9 := Sto.set_self σ8 td (.list (((tellAll ss).take (k + 1)).map rowV))
      have r9 : (σ8.set td (.list (((tellAll ss).take (k + 1)).map rowV))) hp0 = some (.list (hs.map .str)) := by rw [Sto.set_ne _ _ (Ne.symm hne)]; exact r8
      have le9 : sle σ' (σ8.set td (.list (((tellAll ss).take (k + 1)).map rowV))) := fun b d e => by
        rw [Sto.set_ne _ _ (by rintro rfl; rw [htd0] at e; cases e)]; exact s68 _ _ (le6 _ _ e)
      generalize (σ8.set td (.list (((tellAll ss).take (k + 1)).map rowV))) = σ9 at t9 r9 le9
      refine WS.cons (WX.expr (WE.call ?_ (fun env => by rfl) (fun env => by rfl) (fun env pos => by rfl)) (by walk_at "sw"))
      walk_at "nm"
      refine ⟨H.cal f176, ?_⟩
      walk_at "arg"
      refine WE.loc (by rfl) n1' ?_ (by rfl)
      refine WL.nil (WK.nil (C176 (N := N + 4) (O := strO) (key := strK) H r9 (by simp; lia) f0' (LtOk.strs fun z hz => ?_) (by simpa using hf) fun zs pz hz => ?_))
      · obtain ⟨t, _, e⟩ := List.mem_map.mp hz
        exact ⟨t, e.symm⟩
      have pz' : zs.Perm (r.map V.str) := (pz.trans (pm.map V.str)).cons_inv
      obtain ⟨hs', rfl, pm'⟩ := perm_strs pz'
      have hd' : ss.drop (k + 1) = r := by
        have : ss.drop (k + 1) = (ss.drop k).drop 1 := by rw [List.drop_drop]
        rw [this, hd]; rfl
      refine WS.nil (hQt (ss.length - (k + 1)) _ _ (by lia) ⟨k + 1, hs', rfl, hkl, by rw [hd']; exact pm', Sto.set_self _ _ _, by simpa using hz, ?_, ?_, n1', n2'⟩).1
      · rw [Sto.set_ne _ _ hne]; exact t9
      · intro b d e; rw [Sto.set_ne _ _ (by rintro rfl; rw [hhp] at e; cases e)]; exact le9 b d e
    · have hs0 : hs = [] := by cases hs with | nil => rfl | cons _ _ => simp at q
      subst hs0
      have hkl : k = ss.length := by have := pm.length_eq; simp at this; lia
      refine hPw _ _ _ ⟨rfl, ?_, le4, n2⟩
      rw [hkl, List.take_of_length_le (by rw [tell_length]; exact Nat.le_refl _)] at t4
      exact t4
  rintro f ρ' σ4 ⟨rfl, t4, le4, n2⟩
  walk_at "ret"
  refine WE.loc (by rfl) n2 ?_ (by rfl)
  exact h _ _ le4 t4
end

section
variable {B : Bs} {N : Nat} {σ : Sto}
noncomputable def pool : List Str := [Str.ofString "a", Str.ofString "a<", Str.ofString "a>", Str.ofString "a-", Str.ofString "b"]
noncomputable def drawn (x : Nat) : List Str := [pool.getD (x / 3 % 5) ⟨#[]⟩, pool.getD (x / 15 % 5) ⟨#[]⟩, pool.getD (x / 75 % 5) ⟨#[]⟩]
noncomputable def pathOf (x : Nat) : List Str := (drawn x).take (x % 3 + 1)
noncomputable def always : List (List Str) := [[Str.ofString "a"], [Str.ofString "a", Str.ofString "b"], [Str.ofString "a<"]]
noncomputable def pathsOf (ns : List Nat) : List (List Str) := always ++ ns.map pathOf
noncomputable abbrev tupV (n : List Str) : V := .tup (n.map .str)
theorem fdiv_nat (x m : Nat) : Int.fdiv (x : Int) (m : Int) = ((x / m : Nat) : Int) := by
  rw [Int.fdiv_eq_ediv_of_nonneg _ (by lia)]; rfl
theorem fmod_nat (x m : Nat) : Int.fmod (x : Int) (m : Int) = ((x % m : Nat) : Int) := by
  rw [Int.fmod_eq_emod_of_nonneg _ (by lia)]; rfl
theorem pick_pool {i : Nat} (h : i < 5) : (pool.map V.str)[i]? = some (.str (pool.getD i ⟨#[]⟩)) := by
  rw [List.getElem?_map, List.getElem?_eq_getElem (by exact h), List.getD_eq_getElem?_getD, List.getElem?_eq_getElem (by exact h)]; rfl
local macro_rules | `(tactic| walk_at "divmod") => `(tactic| (refine WE.bin (WE.bin (WE.loc (by rfl) (by rfl) (WE.int (W2.div_int (by lia) (PyProof.noPylong_small (by lia)) (WE.int (W2.mod_int (by lia) ?_)))) (by rfl)))))
theorem C231 (H : Base B) {l : Addr} {ns : List Nat} {Q : V → Sto → Prop} (hl : σ l = some (.list (ns.map fun n : Nat => V.int (n : Int)))) (hn : ns.length ≤ 900)
    (h : ∀ c σ', sle σ σ' → σ' c = some (.list ((pathsOf ns).map tupV)) → Q (.ref c) σ') : WC B (N + 2) (.ref 231) [.ref l] [] σ Q := by
  refine WC.def_ (H.def_ f231) (WBind.pos1 (fun v => by rfl)) (by walk_at "kinds") ?_
  have sz := sizeLine_eq
  walk_at "asg"
  refine WE.lst ?_
  walk_at "arg"
  refine WE.str ?_
  walk_at "arg"
  refine WE.str ?_
  walk_at "arg"
  refine WE.str ?_
  walk_at "arg"
  refine WE.str ?_
  walk_at "arg"
  refine WE.str ?_
  refine WL.nil ⟨by decide, fun p hp => ?_⟩
  walk_at "set"
  have pl : (σ.set p (.list (pool.map V.str))) p = some (.list (pool.map V.str)) := Sto.set_self _ _ _
  have le1 : sle σ (σ.set p (.list (pool.map V.str))) := sle.new hp
  change WS _ _ _ _ _ (σ.set p (.list (pool.map V.str))) _
  generalize (σ.set p (.list (pool.map V.str))) = σ1 at pl le1
  walk_at "asg"
  refine WE.lst ?_
  walk_at "arg"
  refine WE.tup ?_
  walk_at "arg"
  refine WE.str ?_
  refine WL.nil ⟨by decide, ?_⟩
  walk_at "arg"
  refine WE.tup ?_
  walk_at "arg"
  refine WE.str ?_
  walk_at "arg"
  refine WE.str ?_
  refine WL.nil ⟨by decide, ?_⟩
  walk_at "arg"
  refine WE.tup ?_
  walk_at "arg"
  refine WE.str ?_
  refine WL.nil ⟨by decide, ?_⟩
  refine WL.nil ⟨by decide, fun c hc => ?_⟩
  walk_at "set"
  change WS _ _ _ _ _ (σ1.set c (.list (always.map tupV))) _
  have cl : (σ1.set c (.list (always.map tupV))) c = some (.list (always.map tupV)) := Sto.set_self _ _ _
  have le2 : sle σ (σ1.set c (.list (always.map tupV))) := le1.set hc
  have hcp : c ≠ p := by rintro rfl; rw [pl] at hc; cases hc
  have pl2 : (σ1.set c (.list (always.map tupV))) p = some (.list (pool.map V.str)) := by rw [Sto.set_ne _ _ (Ne.symm hcp)]; exact pl
  have hc0 : σ c = none := by
    cases e : σ c with
    | none => rfl
    | some d => have := le1 _ _ e; rw [hc] at this; cases this
  generalize (σ1.set c (.list (always.map tupV))) = σ2 at cl le2 pl2
  refine WS.cons (WX.forT (WIt.of (K := _) ?_ (by lia)) (by lia) (fun env x => by rfl))
  refine WE.loc (by rfl) (by rfl) ?_ (by rfl)
  refine ⟨_, GetIter.list (le2 _ _ hl), fun k ρ' σ' => sle σ σ' ∧ σ' p = some (.list (pool.map V.str)) ∧ σ' c = some (.list ((always ++ (ns.take k).map pathOf).map tupV)) ∧ ρ' (Str.ofString "pool") = some (.ref p) ∧ ρ' (Str.ofString "paths") = some (.ref c),
    ⟨le2, pl2, by simpa using cl, by rfl, by rfl⟩, fun k ρ' σ' q => q.1 _ _ hl, ?_, ?_⟩
  · intro k ρ' σ' Qt hk q hQt _ _
    refine un5 (fun le p1 c1 n1 n2 => ?_) q
    clear q
    have hk' : k < ns.length := by simpa using hk
    change WA _ _ _ _ ((ns.map fun n : Nat => V.int (n : Int)).getD k .none) _ σ' _
    rw [show (ns.map fun n : Nat => V.int (n : Int)).getD k .none = .int (ns[k] : Nat) by simp [hk']]
    have tk : ns.take (k + 1) = ns.take k ++ [ns[k]] := List.take_succ_eq_append_getElem hk'
    generalize ns[k] = x at tk
    refine WA.name (WN.loc (by rfl) ?_)
    have i1 : x / 3 % 5 < 5 := Nat.mod_lt _ (by lia)
    have i2 : x / 15 % 5 < 5 := Nat.mod_lt _ (by lia)
    have i3 : x / 75 % 5 < 5 := Nat.mod_lt _ (by lia)
    walk_at "asg"
    refine WE.tup ?_
    walk_at "arg"
    refine WE.sub (WE.loc (by rfl) (set_kept n1 (by decide)) ?_ (by rfl)) (fun o i => by rfl)
    walk_at "divmod"
    rw [show Int.fmod (Int.fdiv (x : Int) 3) 5 = ((x / 3 % 5 : Nat) : Int) by rw [show (3 : Int) = ((3 : Nat) : Int) from rfl, fdiv_nat, show (5 : Int) = ((5 : Nat) : Int) from rfl, fmod_nat]]
    refine ⟨Sub.list p1, W2.item p1 (pick_pool i1) (by show 5 ≤ sizeLine; lia) ?_⟩
    walk_at "arg"
    refine WE.sub (WE.loc (by rfl) (set_kept n1 (by decide)) ?_ (by rfl)) (fun o i => by rfl)
    walk_at "divmod"
    rw [show Int.fmod (Int.fdiv (x : Int) 15) 5 = ((x / 15 % 5 : Nat) : Int) by rw [show (15 : Int) = ((15 : Nat) : Int) from rfl, fdiv_nat, show (5 : Int) = ((5 : Nat) : Int) from rfl, fmod_nat]]
    refine ⟨Sub.list p1, W2.item p1 (pick_pool i2) (by show 5 ≤ sizeLine; lia) ?_⟩
    walk_at "arg"
    refine WE.sub (WE.loc (by rfl) (set_kept n1 (by decide)) ?_ (by rfl)) (fun o i => by rfl)
    walk_at "divmod"
    rw [show Int.fmod (Int.fdiv (x : Int) 75) 5 = ((x / 75 % 5 : Nat) : Int) by rw [show (75 : Int) = ((75 : Nat) : Int) from rfl, fdiv_nat, show (5 : Int) = ((5 : Nat) : Int) from rfl, fmod_nat]]
    refine ⟨Sub.list p1, W2.item p1 (pick_pool i3) (by show 5 ≤ sizeLine; lia) ?_⟩
    refine WL.nil ⟨by show 3 ≤ 1000; lia, ?_⟩
    walk_at "set"
    refine WS.cons (WX.expr (WE.meth (fun _ => "list.append") ?_ (fun env => ⟨_, by rfl⟩) (fun env => by rfl) (fun env pos => by rfl)) (by walk_at "sw"))
    refine WE.loc (by rfl) (set_kept (set_kept n2 (by decide)) (by decide)) ⟨M.append c1, ?_⟩ (by rfl)
    walk_at "arg"
    refine WE.slice (WE.loc (by rfl) (by rfl) ?_ (by rfl))
    change WE _ _ _ _ _ _ _
    refine WE.bin (WE.bin (WE.loc (by rfl) (by rfl) (WE.int (W2.mod_int (by lia) (WE.int (W2.add_int ?_)))) (by rfl)))
    rw [show Int.fmod (x : Int) 3 + 1 = ((x % 3 + 1 : Nat) : Int) by rw [show (3 : Int) = ((3 : Nat) : Int) from rfl, fmod_nat]; lia]
    refine ⟨_, rfl, Sub.tup, WSl.tup_upto (m := x % 3 + 1) ?_ (by show 3 ≤ sizeLine; lia) ?_⟩
    · show (if ((x % 3 + 1 : Nat) : Int) < 0 then _ else min ((x % 3 + 1 : Nat) : Int) 3) = _
      rw [if_neg (by lia)]; lia
    refine WL.nil (WK.nil (WC.append c1 (by simp [always]; lia) ?_))
    refine WS.nil (hQt _ _ ⟨fun b d e => ?_, ?_, ?_, set_kept (set_kept n1 (by decide)) (by decide), set_kept (set_kept n2 (by decide)) (by decide)⟩).1
    · rw [Sto.set_ne _ _ (by rintro rfl; rw [hc0] at e; cases e)]; exact le _ _ e
    · rw [Sto.set_ne _ _ (Ne.symm hcp)]; exact p1
    · have e : (always ++ (ns.take k ++ [x]).map pathOf).map tupV = (always ++ (ns.take k).map pathOf).map tupV ++ [tupV (pathOf x)] := by simp
      have e2 : tupV (pathOf x) = .tup (((drawn x).map V.str).take (x % 3 + 1)) := by
        show V.tup (((drawn x).take _).map V.str) = _
        rw [List.map_take]
      rw [Sto.set_self, tk, e, e2]; rfl
  · rintro ρ' σ' ⟨le, p1, c1, n1, n2⟩
    walk_at "ret"
    refine WE.loc (by rfl) n2 ?_ (by rfl)
    have e : ns.take (ns.map fun n : Nat => V.int (n : Int)).length = ns := List.take_of_length_le (by simp)
    change σ' c = some (.list ((always ++ (ns.take (ns.map fun n : Nat => V.int (n : Int)).length).map pathOf).map tupV)) at c1
    rw [e] at c1
    exact h c σ' le c1
end

section
open PyProof PySem.SeqAt
noncomputable def placeOf (es : List (Str × Str)) (n : List Str) : List (Int × Int) × List Str := (rowOf es (textOf n), n)
noncomputable def unPair : V → Int × Int
  | .tup [.int a, .int b] => (a, b)
  | _ => (0, 0)
noncomputable def rowRead : Option Cell → List (Int × Int)
  | some (.list ps) => ps.map unPair
  | _ => []
noncomputable def placeK (σ : Sto) : V → List (Int × Int) × List Str
  | .tup [.ref r, .tup ns] => (rowRead (σ r), ns.map strK)
  | _ => ([], [])
noncomputable def namesOf : V → List Str
  | .tup [_, .tup ns] => ns.map strK
  | _ => []
theorem strK_map (n : List Str) : (n.map V.str).map strK = n := by
  rw [List.map_map]; exact List.map_id' n
theorem unPair_map (r : List (Int × Int)) : (r.map pairV).map unPair = r := by
  rw [List.map_map]; exact List.map_id' r
/-- a place and its row -/
noncomputable def PlaceAt (σ : Sto) (es : List (Str × Str)) (n : List Str) (x : V) : Prop := ∃ r, x = .tup [.ref r, tupV n] ∧ σ r = some (.list ((rowOf es (textOf n)).map pairV))
theorem PlaceAt.key {σ : Sto} {es : List (Str × Str)} {n : List Str} {x : V} (h : PlaceAt σ es n x) : placeK σ x = placeOf es n ∧ namesOf x = n := by
  obtain ⟨r, rfl, hr⟩ := h
  refine ⟨?_, strK_map n⟩
  show (rowRead (σ r), (n.map V.str).map strK) = _
  rw [hr, strK_map]
  show ((((rowOf es (textOf n)).map pairV).map unPair), n) = _
  rw [unPair_map]; rfl
inductive PlacesAt (σ : Sto) (es : List (Str × Str)) : List V → List (List Str) → Prop
  | nil : PlacesAt σ es [] []
  | cons {x xs n ns} : PlaceAt σ es n x → PlacesAt σ es xs ns → PlacesAt σ es (x :: xs) (n :: ns)
theorem PlacesAt.mono {σ σ' : Sto} {es : List (Str × Str)} (le : sle σ σ') : ∀ {xs : List V} {ns : List (List Str)}, PlacesAt σ es xs ns → PlacesAt σ' es xs ns
  | _, _, .nil => .nil
  | _, _, .cons ⟨r, e, h⟩ k => .cons ⟨r, e, le _ _ h⟩ (k.mono le)
theorem PlacesAt.snoc {σ : Sto} {es : List (Str × Str)} {x : V} {n : List Str} (h : PlaceAt σ es n x) : ∀ {xs : List V} {ns : List (List Str)}, PlacesAt σ es xs ns → PlacesAt σ es (xs ++ [x]) (ns ++ [n])
  | _, _, .nil => .cons h .nil
  | _, _, .cons a k => .cons a (k.snoc h)
theorem PlacesAt.names {σ : Sto} {es : List (Str × Str)} : ∀ {xs : List V} {ns : List (List Str)}, PlacesAt σ es xs ns → xs.map namesOf = ns ∧ ∀ x ∈ xs, ∃ n ∈ ns, PlaceAt σ es n x
  | _, _, .nil => ⟨rfl, fun _ h => nomatch h⟩
  | _, _, .cons (x := x) (n := n) a k => by
    obtain ⟨h1, h2⟩ := k.names
    refine ⟨by rw [List.map_cons, a.key.2, h1], fun y hy => ?_⟩
    rcases List.mem_cons.mp hy with e | e
    · exact ⟨n, by simp, e ▸ a⟩
    · obtain ⟨m, hm, p⟩ := h2 y e
      exact ⟨m, by simp [hm], p⟩
theorem places_sorted {σ : Sto} {es : List (Str × Str)} {xs ys : List V} {ns : List (List Str)} (h : PlacesAt σ es xs ns) (so : SortOut placeO (placeK σ) false xs ys) :
    (ys.map namesOf).Perm ns ∧ (ys.map namesOf).Pairwise (fun n g => placeO.kle (placeOf es n) (placeOf es g)) ∧ ∀ y ∈ ys, ∃ n, PlaceAt σ es n y := by
  obtain ⟨h1, h2⟩ := h.names
  obtain ⟨pm, pw⟩ := so
  have hy : ∀ y ∈ ys, ∃ n ∈ ns, PlaceAt σ es n y := fun y hy => h2 y (pm.mem_iff.mp hy)
  refine ⟨by rw [← h1]; exact pm.map _, ?_, fun y q => let ⟨n, _, p⟩ := hy y q; ⟨n, p⟩⟩
  rw [List.pairwise_map]
  refine pw.imp_of_mem fun {a b} ha hb r => ?_
  obtain ⟨n, _, pn⟩ := hy a ha
  obtain ⟨m, _, pm⟩ := hy b hb
  rw [if_neg Bool.false_ne_true] at r
  rw [pn.key.1, pm.key.1] at r
  rw [pn.key.2, pm.key.2]; exact r
noncomputable def spellF (es : List (Str × Str)) (n : List Str) : Str := Txt.join (Str.ofString "") (spelt es (textOf n))
noncomputable def spellOk (es : List (Str × Str)) (n : List Str) : Bool := JoinOk slash n && decide ((textOf n).length ≤ 1000) && decide ((textOf n).cps.size ≤ 1000) && JoinOk (Str.ofString "") (spelt es (textOf n)) && n.all PyData.strOk && decide (n.length ≤ 100)
noncomputable def everyOf (least both : List Str) (rest : List (List Str)) : List Str := if (both == least && rest.any fun n => n.take least.length != least) = true then least.dropLast else both
noncomputable def dueFive (l g : List Str) (rest : List (List Str)) : List (List Str) := [l, g, l.dropLast, front l g, everyOf l (front l g) rest]
noncomputable def dueRow (es : List (Str × Str)) (l g : List Str) (rest : List (List Str)) : List Str := (dueFive l g rest).map (spellF es)
noncomputable def dueAll (es : List (Str × Str)) (g : List Str) : List (List Str) → List (List Str)
  | [] => []
  | n :: r => dueRow es n g (n :: r) :: dueAll es g r
theorem due_length (es : List (Str × Str)) (g : List Str) : ∀ ss, (dueAll es g ss).length = ss.length
  | [] => rfl
  | m :: r => by simp [dueAll, due_length es g r]
theorem due_drop (es : List (Str × Str)) (g : List Str) : ∀ (ss : List (List Str)) (k : Nat), (dueAll es g ss).drop k = dueAll es g (ss.drop k)
  | [], k => by simp [dueAll]
  | m :: r, 0 => rfl
  | m :: r, k + 1 => by
    simp only [dueAll, List.drop_succ_cons]
    exact due_drop es g r k
theorem due_take {es : List (Str × Str)} {g : List Str} {ss : List (List Str)} {k : Nat} {m : List Str} {r : List (List Str)} (h : ss.drop k = m :: r) : (dueAll es g ss).take (k + 1) = (dueAll es g ss).take k ++ [dueRow es m g (m :: r)] := by
  have e : (dueAll es g ss)[k]? = some (dueRow es m g (m :: r)) := by
    have h1 : ((dueAll es g ss).drop k)[0]? = (dueAll es g ss)[k]? := by simp
    rw [← h1, due_drop, h]; rfl
  rw [List.take_add_one, e]; rfl
theorem same_strs : ∀ xs ys : List Str, Spec.same (.tuple (xs.map PyData.str)) (.tuple (ys.map PyData.str)) = (xs == ys) := fun xs ys => by
  have key : ∀ xs ys : List Str, PyData.eqvAll (xs.map PyData.str) (ys.map PyData.str) = (xs == ys) := by
    intro xs
    induction xs with
    | nil => intro ys; cases ys <;> simp [PyData.eqvAll]
    | cons x xs ih =>
      intro ys
      cases ys with
      | nil => simp [PyData.eqvAll]
      | cons y ys => simp only [List.map_cons, PyData.eqvAll, PyData.eqv, ih ys]; rfl
  rw [same_eq_eqv]
  · rw [PyData.eqv]; exact key xs ys
  · rw [noMix]
    induction xs generalizing ys with
    | nil => cases ys <;> rfl
    | cons x xs ih => cases ys with
      | nil => rfl
      | cons y ys => exact ih ys
theorem shaped_tup {xs : List Str} (h : ∀ x ∈ xs, PyData.strOk x = true) : shaped (.tuple (xs.map PyData.str)) = true := by
  unfold shaped
  rw [Bool.and_eq_true, decide_eq_true_eq]
  refine ⟨lay_strs xs h, ?_⟩
  have := dep_strs xs
  simp only [PyData.depth]
  lia
noncomputable def rowD (r : List Str) : PyData := .tuple (r.map .str)
theorem lay_rows : ∀ (xs : List (List Str)), (∀ x ∈ xs, ∀ t ∈ x, PyData.strOk t = true) → PyData.canLayAll0 (xs.map rowD) = true
  | [], _ => rfl
  | x :: xs, h => by
    have h1 := lay_strs x (h x (by simp))
    have h2 := lay_rows xs fun y hy => h y (by simp [hy])
    simp [PyData.canLayAll0, PyData.canLay0, rowD, h1, h2]
theorem dep_rows : ∀ (xs : List (List Str)), PyData.depthAll (xs.map rowD) ≤ 2
  | [] => by simp [PyData.depthAll]
  | x :: xs => by
    have := dep_rows xs
    have h1 := dep_strs x
    simp only [List.map_cons, PyData.depthAll, rowD, PyData.depth] at *
    lia
theorem shaped_rows {xs : List (List Str)} (h : ∀ x ∈ xs, ∀ t ∈ x, PyData.strOk t = true) : shaped (.list (xs.map rowD)) = true := by
  unfold shaped
  rw [Bool.and_eq_true, decide_eq_true_eq]
  refine ⟨lay_rows xs h, ?_⟩
  have := dep_rows xs
  simp only [PyData.depth]
  lia
theorem RDL.rows {σ : Sto} : ∀ (xs : List (List Str)), RDL σ (xs.map tupV) (xs.map rowD)
  | [] => .nil
  | x :: xs => .cons (.tup (RDL.strs x)) (RDL.rows xs)
theorem mix_strs : ∀ xs ys : List Str, noMixAll (xs.map PyData.str) (ys.map PyData.str) = true
  | [], ys => by cases ys <;> rfl
  | x :: xs, [] => rfl
  | x :: xs, y :: ys => mix_strs xs ys
theorem mix_rows : ∀ xs ys : List (List Str), noMixAll (xs.map rowD) (ys.map rowD) = true
  | [], ys => by cases ys <;> rfl
  | x :: xs, [] => rfl
  | x :: xs, y :: ys => by
    show (noMixAll (x.map PyData.str) (y.map PyData.str) && noMixAll (xs.map rowD) (ys.map rowD)) = true
    rw [mix_strs, mix_rows]; rfl
theorem eqv_row (x : List Str) : PyData.eqv (rowD x) (rowD x) = true := by
  have h := same_strs x x
  rw [same_eq_eqv _ _ (by rw [noMix]; exact mix_strs x x)] at h
  exact h.trans (beq_self_eq_true x)
theorem eqv_rows : ∀ xs : List (List Str), PyData.eqvAll (xs.map rowD) (xs.map rowD) = true
  | [] => by simp [PyData.eqvAll]
  | x :: xs => by simp only [List.map_cons, PyData.eqvAll, eqv_row x, eqv_rows xs, Bool.and_true]
end
section
open PyProof PySem.SeqAt
variable {B : Bs} {N : Nat} {σ : Sto}
theorem W2.eq_names {xs ys : List Str} {Q : V → Sto → Prop} (hx : ∀ x ∈ xs, PyData.strOk x = true) (hy : ∀ x ∈ ys, PyData.strOk x = true) (hN : 4 ≤ N) (h : Q (.bool (xs == ys)) σ) : W2 B N (compareOp .Eq) (tupV xs) (tupV ys) σ Q := by
  refine W2.eq_rd (.tup (RDL.strs xs)) (.tup (RDL.strs ys)) (shaped_tup hx) (shaped_tup hy) (mix_strs xs ys) hN ?_
  rw [same_strs]; exact h
theorem W2.ne_names {xs ys : List Str} {Q : V → Sto → Prop} (hx : ∀ x ∈ xs, PyData.strOk x = true) (hy : ∀ x ∈ ys, PyData.strOk x = true) (hN : 4 ≤ N) (h : Q (.bool (xs != ys)) σ) : W2 B N (compareOp .NotEq) (tupV xs) (tupV ys) σ Q := by
  refine W2.ne_rd (.tup (RDL.strs xs)) (.tup (RDL.strs ys)) (shaped_tup hx) (shaped_tup hy) (mix_strs xs ys) hN ?_
  rw [same_strs]; exact h
theorem W2.ne_nilN {a b : Addr} {xs : List (List Str)} {Q : V → Sto → Prop} (ha : σ a = some (.list (xs.map tupV))) (hb : σ b = some (.list [])) (ok : ∀ x ∈ xs, ∀ t ∈ x, PyData.strOk t = true) (hN : 4 ≤ N) (h : Q (.bool (!xs.isEmpty)) σ) : W2 B N (compareOp .NotEq) (.ref a) (.ref b) σ Q := by
  refine W2.ne_rd (.lst ha (RDL.rows xs)) (.lst hb .nil) (shaped_rows ok) (shaped_strs (xs := []) (fun _ h => nomatch h)) ?_ hN ?_
  · cases xs <;> rfl
  · have e : Spec.same (.list (xs.map rowD)) (.list []) = xs.isEmpty := by cases xs <;> rfl
    rw [e]; exact h
/-- two lists of the same rows -/
theorem W2.eq_rows {a b : Addr} {xs : List (List Str)} {Q : V → Sto → Prop} (ha : σ a = some (.list (xs.map tupV))) (hb : σ b = some (.list (xs.map tupV))) (ok : ∀ x ∈ xs, ∀ t ∈ x, PyData.strOk t = true) (hN : 4 ≤ N) (h : Q (.bool true) σ) : W2 B N (compareOp .Eq) (.ref a) (.ref b) σ Q := by
  refine W2.eq_rd (.lst ha (RDL.rows xs)) (.lst hb (RDL.rows xs)) (shaped_rows ok) (shaped_rows ok) (mix_rows xs xs) hN ?_
  have e : Spec.same (.list (xs.map rowD)) (.list (xs.map rowD)) = true := by
    rw [same_eq_eqv _ _ (by rw [noMix]; exact mix_rows xs xs), PyData.eqv]
    exact eqv_rows xs
  rw [e]; exact h
end

section
variable {B : Bs} {N : Nat} {σ : Sto}
noncomputable def lastN (xs : List (List Str)) : List Str := xs.getLastD []
theorem lastN_get {xs : List (List Str)} (h : xs ≠ []) : xs[xs.length - 1]? = some (lastN xs) := by
  unfold lastN
  rw [List.getLastD_eq_getLast?, ← List.getLast?_eq_getElem?]
  cases xs with
  | nil => exact absurd rfl h
  | cons x r => rw [List.getLast?_cons]; rfl
theorem lastN_rel {R : List Str → List Str → Prop} (hr : ∀ x, R x x) : ∀ {xs : List (List Str)}, xs.Pairwise R → ∀ x ∈ xs, R x (lastN xs)
  | [], _, x, hx => nomatch hx
  | [y], _, x, hx => by obtain rfl : x = y := by simpa using hx
                        exact hr x
  | y :: z :: r, h, x, hx => by
    obtain ⟨h1, h2⟩ := List.pairwise_cons.mp h
    have e : lastN (y :: z :: r) = lastN (z :: r) := by simp [lastN]
    have hz : lastN (z :: r) ∈ z :: r := List.mem_of_getElem? (lastN_get (by simp))
    rw [e]
    rcases List.mem_cons.mp hx with q | q
    · subst q; exact h1 _ hz
    · exact lastN_rel hr h2 x q
theorem rng_small {n : Nat} (h : n < 64) : Builtin.Range.small 0 (n : Int) 1 = true ∧ Builtin.Range.rangeSize 0 (n : Int) 1 = (n : Int) := by
  have key : ∀ n : Fin 64, Builtin.Range.small 0 ((n.val : Nat) : Int) 1 = true ∧ Builtin.Range.rangeSize 0 ((n.val : Nat) : Int) 1 = ((n.val : Nat) : Int) := by decide +kernel
  exact key ⟨n, h⟩
theorem filter_any {α : Type} (p : α → Bool) (l : List α) : (!(l.filter p).isEmpty) = l.any p := by
  induction l with
  | nil => rfl
  | cons x l ih =>
    rw [List.any_cons, ← ih]
    cases h : p x <;> simp [h]
theorem front_take' (xs ys : List Str) : ∃ j, front xs ys = xs.take j := let ⟨j, _, e⟩ := front_pre xs ys; ⟨j, e⟩
theorem dropLast_take' (xs : List Str) : xs.dropLast = xs.take (xs.length - 1) := List.dropLast_eq_take
theorem spellOk.j1 {es : List (Str × Str)} {n : List Str} (h : spellOk es n = true) : JoinOk slash n = true := by simp only [spellOk, Bool.and_eq_true] at h; exact h.1.1.1.1.1
theorem spellOk.l1 {es : List (Str × Str)} {n : List Str} (h : spellOk es n = true) : (textOf n).length ≤ 1000 := by simp only [spellOk, Bool.and_eq_true, decide_eq_true_eq] at h; exact h.1.1.1.1.2
theorem spellOk.l2 {es : List (Str × Str)} {n : List Str} (h : spellOk es n = true) : (textOf n).cps.size ≤ 1000 := by simp only [spellOk, Bool.and_eq_true, decide_eq_true_eq] at h; exact h.1.1.1.2
theorem spellOk.j2 {es : List (Str × Str)} {n : List Str} (h : spellOk es n = true) : JoinOk (Str.ofString "") (spelt es (textOf n)) = true := by simp only [spellOk, Bool.and_eq_true, decide_eq_true_eq] at h; exact h.1.1.2
theorem spellOk.str {es : List (Str × Str)} {n : List Str} (h : spellOk es n = true) : ∀ x ∈ n, PyData.strOk x = true := by simp only [spellOk, Bool.and_eq_true, decide_eq_true_eq] at h; exact List.all_eq_true.mp h.1.2
theorem spellOk.len {es : List (Str × Str)} {n : List Str} (h : spellOk es n = true) : n.length ≤ 100 := by simp only [spellOk, Bool.and_eq_true, decide_eq_true_eq] at h; exact h.2
theorem C267 (H : Base B) {l tb : Addr} {es : List (Str × Str)} {paths : List (List Str)} {Q : V → Sto → Prop} (hl : σ l = some (.list (paths.map tupV))) (ht : σ tb = some (.dict es))
    (hes : ∀ c, (es.lookup c).isSome = true → c = Str.ofString "<" ∨ c = Str.ofString ">") (hn0 : 0 < paths.length) (hn : paths.length < 64) (ok : ∀ n ∈ paths, ∀ k, spellOk es (n.take k) = true)
    (hfr : ∀ n ∈ paths, ∀ g ∈ paths, placeO.kle (placeOf es n) (placeOf es g) → ∀ k, k < n.length → n.take k = g.take k → k < g.length)
    (h : ∀ ord c σ', ord.Perm paths → ord.Pairwise (fun n g => placeO.kle (placeOf es n) (placeOf es g)) → sle σ σ' → σ' c = some (.list ((dueAll es (lastN ord) ord).map rowV)) → Q (.ref c) σ') :
    WC B (N + 8) (.ref 267) [.ref l, .ref tb] [] σ Q := by
  refine WC.def_ (H.def_ f267) (WBind.pos2 (fun v u => by rfl)) (by walk_at "kinds") ?_
  have sz := sizeLine_eq
  have okn : ∀ n ∈ paths, spellOk es n = true := fun n hn => by have := ok n hn n.length; rw [List.take_length] at this; exact this
  refine WS.cons (WX.asgComp (WIt.of (K := _) ?_ (by lia)) (by rfl) (fun env x => by rfl) (by lia) (by walk_at "sw"))
  walk_at "call"
  walk_at "nm"
  refine ⟨trivial, ?_⟩
  walk_at "arg"
  refine WE.comp (WIt.of (K := _) ?_ (by lia)) (by rfl) (fun env x => by rfl) (by lia)
  refine WE.loc (by rfl) (by rfl) ?_ (by rfl)
  refine ⟨_, GetIter.list hl, CompTurns.of ⟨by show (paths.map tupV).length ≤ 1000; simp; lia, fun k out σ' => sle σ σ' ∧ PlacesAt σ' es out (paths.take k), ⟨.refl, by simpa using PlacesAt.nil⟩, fun k out σ' q => q.1 _ _ hl, ?_, ?_⟩⟩
  · intro k out σ' Kt Kf hk q hKt _
    have le := q.1
    have pl := q.2
    clear q
    have hk' : k < paths.length := by simpa using hk
    change WA _ _ _ _ ((paths.map tupV).getD k .none) _ σ' _
    rw [show (paths.map tupV).getD k .none = tupV paths[k] by simp [hk']]
    have okk := okn _ (List.getElem_mem hk')
    refine WA.name (WN.loc (by rfl) ?_)
    change _ ∧ _
    refine ⟨fun _ => ?_, (fun q => nomatch q)⟩
    walk_at "call"
    walk_at "nm"
    refine ⟨H.cal f250, ?_⟩
    walk_at "arg"
    refine WE.loc (by rfl) (by rfl) ?_ (by rfl)
    walk_at "arg"
    refine WE.cel (by rfl) (by rfl) ?_ (by rfl)
    refine WL.nil (WK.nil ((C250 (N := N) H (le _ _ ht) hes (spellOk.j1 okk) (by have := spellOk.l1 okk; lia) (spellOk.l2 okk) fun b hb => ?_).room (by lia)))
    refine hKt _ _ ⟨le.set hb, ?_⟩
    rw [List.take_succ_eq_append_getElem hk']
    exact (pl.mono (sle.new hb)).snoc ⟨b, rfl, Sto.set_self _ _ _⟩
  rintro out σ1 ⟨le1, pl⟩ D0 hD0
  change σ1 D0 = none at hD0
  change PlacesAt σ1 es out (paths.take (paths.map tupV).length) at pl
  rw [List.length_map, List.take_length] at pl
  change WL _ _ _ _ _ (σ1.set D0 (.list out)) _
  have le2 := le1.set (c := .list out) hD0
  have pl2 := pl.mono (sle.new (c := .list out) hD0)
  have d2 : (σ1.set D0 (.list out)) D0 = some (.list out) := Sto.set_self _ _ _
  generalize (σ1.set D0 (.list out)) = σ2 at le2 pl2 d2
  have hol : out.length = paths.length := by rw [← pl.names.1]; simp
  refine WL.nil (WK.nil (WC.sorted (N := N + 5) (O := placeO) (key := placeK σ2) d2 (by lia) (fun D hD => Cmps.places (by lia) fun x hx => ?_) fun D ys hD so => ?_))
  · obtain ⟨n, _, p⟩ := pl2.names.2 x hx
    have pk := p.key
    obtain ⟨r, rfl, hr⟩ := p
    exact ⟨r, _, n, rfl, sle.new hD _ _ hr, pk.1⟩
  obtain ⟨pm, pw, hy⟩ := places_sorted pl2 so
  generalize hord : ys.map namesOf = ord at pm pw
  have le3 := le2.set (c := .list ys) hD
  have d3 : (σ2.set D (.list ys)) D = some (.list ys) := Sto.set_self _ _ _
  generalize (σ2.set D (.list ys)) = σ3 at le3 d3
  have hyl : ys.length = ord.length := by rw [← hord]; simp
  have hol2 : ord.length = paths.length := pm.length_eq
  refine ⟨_, GetIter.list d3, CompTurns.of ⟨by show ys.length ≤ 1000; lia, fun k out σ' => σ' = σ3 ∧ out = (ord.take k).map tupV, ⟨rfl, rfl⟩, fun k out σ' e => by rw [e.1]; exact d3, ?_, ?_⟩⟩
  · rintro k out σ' Kt Kf hk ⟨rfl, rfl⟩ hKt _
    have hk' : k < ys.length := hk
    have hk2 : k < ord.length := hyl ▸ hk'
    change WA _ _ _ _ (ys.getD k .none) _ σ' _
    obtain ⟨n, p⟩ := hy _ (List.getElem_mem hk')
    have pk := p.key.2
    obtain ⟨r, er, _⟩ := p
    have eo : ord[k] = n := by rw [← pk]; simp [← hord]
    rw [show ys.getD k .none = .tup [.ref r, tupV n] by rw [← er]; simp [hk']]
    refine WA.name (WN.loc (by rfl) ?_)
    change _ ∧ _
    refine ⟨fun _ => ?_, (fun q => nomatch q)⟩
    refine WE.sub (WE.loc (by rfl) (by rfl) (WE.int ⟨Sub.tup, W2.item_tup (j := 1) (d := tupV n) (by rfl) (by rfl) (by lia) (by lia) (hKt _ _ ⟨rfl, ?_⟩)⟩) (by rfl)) (fun o i => by rfl)
    rw [List.take_succ_eq_append_getElem hk2, List.map_append, eo]; rfl
  rintro out σ' ⟨rfl, rfl⟩ o ho
  change σ' o = none at ho
  have e1 : ord.take ys.length = ord := List.take_of_length_le (by lia)
  change WN _ _ _ _ _ (σ'.set o (.list ((ord.take ys.length).map tupV))) _
  rw [e1]
  have le4 := le3.set (c := .list (ord.map tupV)) ho
  have o4 : (σ'.set o (.list (ord.map tupV))) o = some (.list (ord.map tupV)) := Sto.set_self _ _ _
  generalize (σ'.set o (.list (ord.map tupV))) = σ4 at le4 o4
  clear le3 d3 ho hy so pl2 d2 le2 hol hord hyl e1
  have h0 : ord ≠ [] := by intro e; rw [e] at hol2; simp at hol2; lia
  have okm : ∀ n ∈ ord, n ∈ paths := fun n q => pm.mem_iff.mp q
  have lg := lastN_get h0
  have gm : lastN ord ∈ ord := List.mem_of_getElem? lg
  have hll : (ord.map tupV).length ≤ sizeLine := by simp; lia
  refine WN.loc (by rfl) ?_
  walk_at "asg"
  refine WE.sub (WE.loc (by rfl) (by rfl) (WE.un (WE.int (W1.neg_int ⟨Sub.list o4, W2.item_neg o4 (d := tupV (lastN ord)) (by rw [List.length_map, List.getElem?_map, lg]; rfl) hll ?_⟩))) (by rfl)) (fun o i => by rfl)
  generalize hg : lastN ord = g at *
  walk_at "set"
  walk_at "asg"
  refine WE.lst (WL.nil ⟨by decide, fun d hd => ?_⟩)
  walk_at "set"
  have hdo : d ≠ o := by rintro rfl; rw [o4] at hd; cases hd
  have hd0 : σ d = none := by
    cases e : σ d with
    | none => rfl
    | some c => have := le4 _ _ e; rw [hd] at this; cases this
  have le5 := le4.set (c := .list []) hd
  have o5 : (σ4.set d (.list [])) o = some (.list (ord.map tupV)) := by rw [Sto.set_ne _ _ (Ne.symm hdo)]; exact o4
  have d5 : (σ4.set d (.list [])) d = some (.list []) := Sto.set_self _ _ _
  generalize (σ4.set d (.list [])) = σ5 at le5 o5 d5
  clear le4 o4 hd
  refine WS.cons (WX.forT (WIt.of (K := _) ?_ (by lia)) (by lia) (fun env x => by rfl))
  walk_at "call"
  walk_at "nm"
  refine ⟨trivial, ?_⟩
  walk_at "arg"
  walk_at "call"
  walk_at "nm"
  refine ⟨trivial, ?_⟩
  walk_at "arg"
  refine WE.loc (by rfl) (by rfl) ?_ (by rfl)
  refine WL.nil (WK.nil (WC.len_list o5 hll ?_))
  refine WL.nil (WK.nil (WC.range1 ?_))
  rw [List.length_map]
  refine ⟨_, GetIter.rng (n := ord.length) (rng_small (by lia)).1 (rng_small (by lia)).2, fun k ρ' σ' => sle σ σ' ∧ σ' o = some (.list (ord.map tupV)) ∧ σ' d = some (.list (((dueAll es g ord).take k).map rowV)) ∧ ρ' (Str.ofString "order") = some (.ref o) ∧ ρ' (Str.ofString "greatest") = some (tupV g) ∧ ρ' (Str.ofString "due") = some (.ref d) ∧ ρ' (Str.ofString "table") = some (.ref tb),
    ⟨le5, o5, d5, by rfl, by rfl, by rfl, by rfl⟩, fun k ρ' σ' _ => trivial, ?_, ?_⟩
  · clear le5 o5 d5
    intro k ρ' σ' Qt hk q hQt _ _
    refine un7 (fun le o1 d1 n1 n2 n3 n4 => ?_) q
    clear q
    have hk' : k < ord.length := hk
    obtain ⟨m, r, hdk⟩ : ∃ m r, ord.drop k = m :: r := ⟨_, _, List.drop_eq_getElem_cons hk'⟩
    have hm : ord[k]? = some m := by
      have h1 : (ord.drop k)[0]? = ord[k]? := by simp
      rw [← h1, hdk]; rfl
    have mm : m ∈ ord := List.mem_of_getElem? hm
    have okk := okn m (okm m mm)
    have okg := okn g (okm g gm)
    have hmg : placeO.kle (placeOf es m) (placeOf es g) := by
      rw [← hg]; exact lastN_rel (R := fun n g => placeO.kle (placeOf es n) (placeOf es g)) (fun x => KeyOrd.kle_refl _) pw m mm
    obtain ⟨j, ej⟩ := front_take' m g
    have okb : spellOk es (front m g) = true := by rw [ej]; exact ok m (okm m mm) j
    have okd : spellOk es m.dropLast = true := by rw [dropLast_take']; exact ok m (okm m mm) _
    have oke : spellOk es (everyOf m (front m g) (m :: r)) = true := by unfold everyOf; split; exact okd; exact okb
    change WA _ _ _ _ (.int (0 + (k : Int) * 1)) _ σ' _
    rw [show (0 : Int) + (k : Int) * 1 = (k : Int) by lia]
    have ml := spellOk.len okk
    have gl := spellOk.len okg
    walk_at "set"
    walk_at "asg"
    refine WE.sub (WE.loc (by rfl) (set_kept n1 (by decide)) (WE.loc (by rfl) (by rfl) ⟨Sub.list o1, W2.item o1 (d := tupV m) (by rw [List.getElem?_map, hm]; rfl) hll ?_⟩ (by rfl)) (by rfl)) (fun o i => by rfl)
    refine WA.name (WN.cel (by rfl) (by rfl) ?_)
    walk_at "asg"
    walk_at "call"
    walk_at "nm"
    refine ⟨H.cal f262, ?_⟩
    walk_at "arg"
    refine WE.cel (by rfl) (by rfl) ?_ (by rfl)
    walk_at "arg"
    refine WE.loc (by rfl) (set_kept (set_kept n2 (by decide)) (by decide)) ?_ (by rfl)
    refine WL.nil (WK.nil (C262 (N := N + 5) H (hfr m (okm m mm) g (okm g gm) hmg) ml gl ?_))
    walk_at "set"
    walk_at "asg"
    refine WE.loc (by rfl) (by rfl) ?_ (by rfl)
    walk_at "set"
    have m1 := set_kept (x := Str.ofString "order") (y := Str.ofString "every") (d := tupV (front m g)) (set_kept (y := Str.ofString "both") (d := tupV (front m g)) (set_kept (y := Str.ofString "least") (d := tupV m) (set_kept (y := Str.ofString "k") (d := .int (k : Int)) n1 (by decide)) (by decide)) (by decide)) (by decide)
    have m2 := set_kept (x := Str.ofString "greatest") (y := Str.ofString "every") (d := tupV (front m g)) (set_kept (y := Str.ofString "both") (d := tupV (front m g)) (set_kept (y := Str.ofString "least") (d := tupV m) (set_kept (y := Str.ofString "k") (d := .int (k : Int)) n2 (by decide)) (by decide)) (by decide)) (by decide)
    have m3 := set_kept (x := Str.ofString "due") (y := Str.ofString "every") (d := tupV (front m g)) (set_kept (y := Str.ofString "both") (d := tupV (front m g)) (set_kept (y := Str.ofString "least") (d := tupV m) (set_kept (y := Str.ofString "k") (d := .int (k : Int)) n3 (by decide)) (by decide)) (by decide)) (by decide)
    have m4 := set_kept (x := Str.ofString "table") (y := Str.ofString "every") (d := tupV (front m g)) (set_kept (y := Str.ofString "both") (d := tupV (front m g)) (set_kept (y := Str.ofString "least") (d := tupV m) (set_kept (y := Str.ofString "k") (d := .int (k : Int)) n4 (by decide)) (by decide)) (by decide)) (by decide)
    have m5 : ((((ρ'.set (Str.ofString "k") (.int (k : Int))).set (Str.ofString "least") (tupV m)).set (Str.ofString "both") (tupV (front m g))).set (Str.ofString "every") (tupV (front m g))) (Str.ofString "least") = some (tupV m) := by rfl
    have m6 : ((((ρ'.set (Str.ofString "k") (.int (k : Int))).set (Str.ofString "least") (tupV m)).set (Str.ofString "both") (tupV (front m g))).set (Str.ofString "every") (tupV (front m g))) (Str.ofString "both") = some (tupV (front m g)) := by rfl
    have m7 : ((((ρ'.set (Str.ofString "k") (.int (k : Int))).set (Str.ofString "least") (tupV m)).set (Str.ofString "both") (tupV (front m g))).set (Str.ofString "every") (tupV (front m g))) (Str.ofString "every") = some (tupV (front m g)) := by rfl
    have m8 : ((((ρ'.set (Str.ofString "k") (.int (k : Int))).set (Str.ofString "least") (tupV m)).set (Str.ofString "both") (tupV (front m g))).set (Str.ofString "every") (tupV (front m g))) (Str.ofString "k") = some (.int (k : Int)) := by rfl
    generalize ((((ρ'.set (Str.ofString "k") (.int (k : Int))).set (Str.ofString "least") (tupV m)).set (Str.ofString "both") (tupV (front m g))).set (Str.ofString "every") (tupV (front m g))) = ρ2 at m1 m2 m3 m4 m5 m6 m7 m8
    refine WS.cons (WX.monoT (P := fun f ρ₃ σ₃ => f = .next ∧ sle σ' σ₃ ∧ ρ₃ (Str.ofString "order") = some (.ref o) ∧ ρ₃ (Str.ofString "greatest") = some (tupV g) ∧ ρ₃ (Str.ofString "due") = some (.ref d) ∧ ρ₃ (Str.ofString "table") = some (.ref tb) ∧ ρ₃ (Str.ofString "least") = some (tupV m) ∧ ρ₃ (Str.ofString "both") = some (tupV (front m g)) ∧ ρ₃ (Str.ofString "every") = some (tupV (everyOf m (front m g) (m :: r)))) (fun Pu hPu => WX.ite ?_) ?_)
    · refine WI.and2 (WI.cmp (WE.loc (by rfl) m6 (WE.cel (by rfl) m5 (W2.eq_names (spellOk.str okb) (spellOk.str okk) (by lia) (WT.bool ⟨fun q => ?_, fun q => ?_⟩)) (by rfl)) (by rfl)) (by rfl))
      · refine WI.cmp (WE.comp (WIt.of (K := _) ?_ (by lia)) (by rfl) (fun env x => by rfl) (by lia)) (by rfl)
        refine WE.slice (WE.loc (by rfl) m1 ?_ (by rfl))
        change WE _ _ _ _ _ _ _
        refine WE.loc (by rfl) m8 ⟨_, rfl, Sub.list o1, WSl.list_from o1 (j := k) (by simp; lia) hll fun s hs => ?_⟩ (by rfl)
        rw [← List.map_drop, hdk]
        have le1 : sle σ' (σ'.set s (.list ((m :: r).map tupV))) := sle.new hs
        have s1 : (σ'.set s (.list ((m :: r).map tupV))) s = some (.list ((m :: r).map tupV)) := Sto.set_self _ _ _
        generalize (σ'.set s (.list ((m :: r).map tupV))) = σa at le1 s1
        have hrl : (m :: r).length = ord.length - k := by rw [← hdk]; simp
        have okr : ∀ n ∈ m :: r, spellOk es n = true := fun n hn => okn n (okm n (by rw [← hdk] at hn; exact List.mem_of_mem_drop hn))
        generalize (m :: r) = rest at *
        refine ⟨_, GetIter.list s1, CompTurns.of ⟨by show (rest.map tupV).length ≤ 1000; simp; lia, fun i out σ₃ => σ₃ = σa ∧ out = ((rest.take i).filter fun n => n.take m.length != m).map tupV, ⟨rfl, by simp⟩, fun i out σ₃ e => by rw [e.1]; exact s1, ?_, ?_⟩⟩
        · rintro i out σ₃ Kt Kf hi ⟨rfl, rfl⟩ hKt hKf
          have hi' : i < rest.length := by simpa using hi
          have ft := filter_take (fun n => n.take m.length != m) rest hi'
          have okn' := okr _ (List.getElem_mem hi')
          change WA _ _ _ _ ((rest.map tupV).getD i .none) _ σ₃ _
          rw [show (rest.map tupV).getD i .none = tupV rest[i] by simp [hi']]
          generalize rest[i] = n at ft okn'
          have nl := spellOk.len okn'
          refine WA.name (WN.loc (by rfl) ?_)
          change WI _ _ _ _ _ _ _
          refine WI.cmp (WE.slice (WE.loc (by rfl) (by rfl) ?_ (by rfl))) (by rfl)
          change WE _ _ _ _ _ _ _
          walk_at "call"
          walk_at "nm"
          refine ⟨trivial, ?_⟩
          walk_at "arg"
          refine WE.cel (by rfl) m5 ?_ (by rfl)
          refine WL.nil (WK.nil (WC.len_tup (by simp; lia) ⟨_, rfl, Sub.tup, WSl.tup_upto (m := min m.length n.length) ?_ (by simp; lia) ?_⟩))
          · rw [if_neg (by lia), List.length_map, List.length_map]; lia
          have et : (n.map V.str).take (min m.length n.length) = (n.take m.length).map V.str := by
            rw [← List.map_take]; congr 1
            rw [Nat.min_def]; split
            · rfl
            · rw [List.take_of_length_le (by lia), List.take_of_length_le (by lia)]
          rw [et]
          refine WE.cel (by rfl) m5 (W2.ne_names (fun x hx => spellOk.str okn' x (List.mem_of_mem_take hx)) (spellOk.str okk) (by lia) (WT.bool ⟨fun q => ?_, fun q => ?_⟩)) (by rfl)
          · refine WE.loc (by rfl) (by rfl) (hKt _ _ ⟨rfl, ?_⟩) (by rfl)
            rw [ft, if_pos q, List.map_append]; rfl
          · refine hKf _ ⟨rfl, ?_⟩
            rw [ft, if_neg (by rw [q]; decide), List.append_nil]
        rintro out σ₃ ⟨rfl, rfl⟩ c hc
        change σ₃ c = none at hc
        have e1 : rest.take (rest.map tupV).length = rest := List.take_of_length_le (by simp)
        change WE _ _ _ _ _ (σ₃.set c (.list (((rest.take (rest.map tupV).length).filter fun n => n.take m.length != m).map tupV))) _
        rw [e1]
        have le2 := le1.set (c := .list ((rest.filter fun n => n.take m.length != m).map tupV)) hc
        have c2 : (σ₃.set c (.list ((rest.filter fun n => n.take m.length != m).map tupV))) c = some (.list ((rest.filter fun n => n.take m.length != m).map tupV)) := Sto.set_self _ _ _
        generalize (σ₃.set c (.list ((rest.filter fun n => n.take m.length != m).map tupV))) = σb at le2 c2
        refine WE.lst (WL.nil ⟨by decide, fun e he => ?_⟩)
        have hec : e ≠ c := by rintro rfl; rw [c2] at he; cases he
        refine W2.ne_nilN (by rw [Sto.set_ne _ _ (Ne.symm hec)]; exact c2) (Sto.set_self _ _ _) (fun x hx => spellOk.str (okr x (List.mem_filter.mp hx).1)) (by lia) (WT.bool ?_)
        rw [filter_any]
        have le3 := le2.set (c := .list []) he
        generalize (σb.set e (.list [])) = σc at le3
        refine ⟨fun q2 => ?_, fun q2 => ?_⟩
        · have ev : everyOf m (front m g) rest = m.dropLast := by
            have q' : (front m g == m) = true := q
            unfold everyOf; rw [if_pos (by rw [q', q2]; rfl)]
          walk_at "asg"
          refine WE.slice (WE.cel (by rfl) m5 ?_ (by rfl))
          change WE _ _ _ _ _ _ _
          refine WE.un (WE.int (W1.neg_int ⟨_, rfl, Sub.tup, WSl.tup_upto (m := m.length - 1) ?_ (by simp; lia) ?_⟩))
          · rw [if_pos (by lia), List.length_map]; lia
          rw [← List.map_take, ← List.dropLast_eq_take]
          refine WA.name (WN.loc (by rfl) (WS.nil (hPu _ _ _ ⟨rfl, le3, ?_, ?_, ?_, ?_, ?_, ?_, by rw [ev]; rfl⟩)))
          · exact set_kept m1 (by decide)
          · exact set_kept m2 (by decide)
          · exact set_kept m3 (by decide)
          · exact set_kept m4 (by decide)
          · exact set_kept m5 (by decide)
          · exact set_kept m6 (by decide)
        · have ev : everyOf m (front m g) rest = front m g := by
            unfold everyOf; rw [if_neg (by rw [q2]; simp)]
          exact WS.nil (hPu _ _ _ ⟨rfl, le3, m1, m2, m3, m4, m5, m6, by rw [ev]; exact m7⟩)
      · have ev : everyOf m (front m g) (m :: r) = front m g := by
          have q' : (front m g == m) = false := q
          unfold everyOf; rw [if_neg (by rw [q']; simp)]
        exact ⟨(fun q2 => nomatch q2), fun _ => WS.nil (hPu _ _ _ ⟨rfl, .refl, m1, m2, m3, m4, m5, m6, by rw [ev]; exact m7⟩)⟩
    clear m1 m2 m3 m4 m5 m6 m7 m8 n1 n2 n3 n4
    rintro f ρ₃ σ₃ ⟨rfl, le3, m1, m2, m3, m4, m5, m6, m7⟩
    have o3 := le3 _ _ o1
    have d3 := le3 _ _ d1
    refine WS.cons (WX.expr (WE.meth (fun _ => "list.append") ?_ (fun env => ⟨_, by rfl⟩) (fun env => by rfl) (fun env pos => by rfl)) (by walk_at "sw"))
    refine WE.loc (by rfl) m3 ⟨M.append d3, ?_⟩ (by rfl)
    walk_at "arg"
    walk_at "call"
    walk_at "nm"
    refine ⟨trivial, ?_⟩
    walk_at "arg"
    refine WE.comp (WIt.of (K := _) ?_ (by lia)) (by rfl) (fun env x => by rfl) (by lia)
    refine WE.lst ?_
    walk_at "arg"
    refine WE.cel (by rfl) m5 ?_ (by rfl)
    walk_at "arg"
    refine WE.loc (by rfl) m2 ?_ (by rfl)
    walk_at "arg"
    refine WE.slice (WE.cel (by rfl) m5 ?_ (by rfl))
    change WE _ _ _ _ _ _ _
    refine WE.un (WE.int (W1.neg_int ⟨_, rfl, Sub.tup, WSl.tup_upto (m := m.length - 1) ?_ (by simp; lia) ?_⟩))
    · rw [if_pos (by lia), List.length_map]; lia
    rw [← List.map_take, ← List.dropLast_eq_take]
    walk_at "arg"
    refine WE.loc (by rfl) m6 ?_ (by rfl)
    walk_at "arg"
    refine WE.loc (by rfl) m7 ?_ (by rfl)
    refine WL.nil ⟨by show 5 ≤ 1000; lia, fun q hq => ?_⟩
    change ∃ _, _
    have ok5 : ∀ n ∈ dueFive m g (m :: r), spellOk es n = true := by
      intro n hn
      simp only [dueFive, List.mem_cons, List.not_mem_nil, or_false] at hn
      rcases hn with rfl | rfl | rfl | rfl | rfl
      · exact okk
      · exact okg
      · exact okd
      · exact okb
      · exact oke
    have le4 : sle σ₃ (σ₃.set q (.list ((dueFive m g (m :: r)).map tupV))) := sle.new hq
    have q4 : (σ₃.set q (.list ((dueFive m g (m :: r)).map tupV))) q = some (.list ((dueFive m g (m :: r)).map tupV)) := Sto.set_self _ _ _
    have e5 : (σ₃.set q (.list [tupV m, tupV g, .tup (m.dropLast.map .str), tupV (front m g), tupV (everyOf m (front m g) (m :: r))])) = (σ₃.set q (.list ((dueFive m g (m :: r)).map tupV))) := rfl
    rw [e5]
    have f5 : (dueFive m g (m :: r)).length = 5 := rfl
    have er : rowV (dueRow es m g (m :: r)) = .tup (((dueFive m g (m :: r)).map (spellF es)).map .str) := rfl
    generalize dueFive m g (m :: r) = five at *
    generalize (σ₃.set q (.list (five.map tupV))) = σ4 at le4 q4
    refine ⟨_, GetIter.list q4, CompTurns.of ⟨by show (five.map tupV).length ≤ 1000; simp; lia, fun i out σ6 => sle σ4 σ6 ∧ out = ((five.map (spellF es)).take i).map .str, ⟨.refl, rfl⟩, fun i out σ6 e => e.1 _ _ q4, ?_, ?_⟩⟩
    · rintro i out σ6 Kt Kf hi ⟨le6, rfl⟩ hKt _
      have hi' : i < five.length := by simpa using hi
      have hi2 : i < (five.map (spellF es)).length := by simpa using hi'
      have okn' := ok5 _ (List.getElem_mem hi')
      change WA _ _ _ _ ((five.map tupV).getD i .none) _ σ6 _
      rw [show (five.map tupV).getD i .none = tupV five[i] by simp [hi']]
      refine WA.name (WN.loc (by rfl) ?_)
      change _ ∧ _
      refine ⟨fun _ => ?_, (fun q => nomatch q)⟩
      walk_at "call"
      walk_at "nm"
      refine ⟨H.cal f255, ?_⟩
      walk_at "arg"
      refine WE.loc (by rfl) (by rfl) ?_ (by rfl)
      walk_at "arg"
      refine WE.cel (by rfl) m4 ?_ (by rfl)
      have t6 := le6 _ _ (le4 _ _ (le3 _ _ (le _ _ ht)))
      refine WL.nil (WK.nil ((C255 (N := N) H t6 (spellOk.j1 okn') (by have := spellOk.l1 okn'; lia) (spellOk.l2 okn') (spellOk.j2 okn') fun b hb => ?_).room (by lia)))
      refine hKt _ _ ⟨le6.set hb, ?_⟩
      rw [List.take_succ_eq_append_getElem hi2, List.map_append, List.getElem_map]; rfl
    rintro out σ6 ⟨le6, rfl⟩ c hc
    change σ6 c = none at hc
    have e1 : (five.map (spellF es)).take (five.map tupV).length = five.map (spellF es) := List.take_of_length_le (by simp)
    change WL _ _ _ _ _ (σ6.set c (.list (((five.map (spellF es)).take (five.map tupV).length).map .str))) _
    rw [e1]
    have le7 := (le4.trans le6).set (c := .list ((five.map (spellF es)).map .str)) hc
    have c7 : (σ6.set c (.list ((five.map (spellF es)).map .str))) c = some (.list ((five.map (spellF es)).map .str)) := Sto.set_self _ _ _
    generalize (σ6.set c (.list ((five.map (spellF es)).map .str))) = σ7 at le7 c7
    refine WL.nil (WK.nil (WC.tuple_list c7 (by simp; lia) ?_))
    have le37 := le3.trans le7
    refine WL.nil (WK.nil (WC.append (le37 _ _ d1) (by simp [due_length]; lia) ?_))
    refine WS.nil (hQt _ _ ⟨fun b c e => ?_, ?_, ?_, m1, m2, m3, m4⟩).1
    · rw [Sto.set_ne _ _ (by rintro rfl; rw [hd0] at e; cases e)]; exact le37 _ _ (le _ _ e)
    · rw [Sto.set_ne _ _ (Ne.symm hdo)]; exact le37 _ _ o1
    · rw [Sto.set_self, due_take hdk, List.map_append]
      show _ = some (Cell.list (_ ++ [rowV (dueRow es m g (m :: r))]))
      rw [er]
  · rintro ρ' σ' ⟨le, o1, d1, n1, n2, n3, n4⟩
    walk_at "ret"
    refine WE.loc (by rfl) n3 ?_ (by rfl)
    change σ' d = some (.list (((dueAll es g ord).take ord.length).map rowV)) at d1
    rw [List.take_of_length_le (by rw [due_length]; exact Nat.le_refl _)] at d1
    rw [← hg] at d1
    exact h ord d σ' pm pw le d1
end

section
open Builtin Builtin.Str StrLaws
/-! ## texts as lists of codes -/
noncomputable def cl (x : Str) : List Nat := x.cps.toList
theorem cl_inj {x y : Str} (h : cl x = cl y) : x = y := Str.ext' (Array.toList_inj.mp h)
theorem cl_append (x y : Str) : cl (x ++ y) = cl x ++ cl y := by show (x.cps ++ y.cps).toList = _; simp [cl]
theorem cl_length (x : Str) : (cl x).length = x.length := rfl
theorem cl_size (x : Str) : (cl x).length = x.cps.size := rfl
theorem cl_slash : cl slash = [47] := rfl
noncomputable def idxs (c : Nat) : Nat → List Nat → List Nat
  | _, [] => []
  | k, a :: l => if a = c then k :: idxs c (k + 1) l else idxs c (k + 1) l
theorem occ_loop (x : Str) (c : Nat) : ∀ (m i : Nat) (acc : Array Nat) (free : Nat), i + m = x.length + 1 → acc.size ≤ i → free ≤ i →
    (forIn (List.range' i m) (acc, free) (occBody x ⟨#[c]⟩ x.length (x.length + 1))).run.fst.toList = acc.toList ++ idxs c i ((cl x).drop i)
  | 0, i, acc, free, hm, _, _ => by
    have : (cl x).drop i = [] := List.drop_of_length_le (by rw [cl_length]; lia)
    rw [this]; simp [idxs]
  | m + 1, i, acc, free, hm, ha, hf => by
    rw [List.range'_succ, List.forIn_cons]
    have one := subAt_one x c i
    by_cases hc : (cl x)[i]? = some c
    · have hb := one.mpr hc
      have e : occBody x ⟨#[c]⟩ x.length (x.length + 1) i (acc, free) = pure (ForInStep.yield (acc.push i, i + 1)) := by
        unfold occBody; rw [if_pos ⟨⟨⟨by show acc.size < _; lia, hf⟩, hb.1⟩, hb.2⟩]; rfl
      rw [e]
      have ih := occ_loop x c m (i + 1) (acc.push i) (i + 1) (by lia) (by simp; lia) (Nat.le_refl _)
      have hd : (cl x).drop i = c :: (cl x).drop (i + 1) := by
        obtain ⟨hlt, he⟩ := List.getElem?_eq_some_iff.mp hc
        rw [List.drop_eq_getElem_cons hlt, he]
      rw [hd]
      simp only [idxs, if_true]
      refine Eq.trans ih ?_
      simp
    · have e : occBody x ⟨#[c]⟩ x.length (x.length + 1) i (acc, free) = pure (ForInStep.yield (acc, free)) := by
        unfold occBody; rw [if_neg (fun q => hc (one.mp ⟨q.1.2, q.2⟩))]
      rw [e]
      have ih := occ_loop x c m (i + 1) acc free (by lia) (by lia) (by lia)
      refine Eq.trans ih ?_
      congr 1
      by_cases hlt : i < (cl x).length
      · rw [List.drop_eq_getElem_cons hlt]
        simp only [idxs]
        rw [if_neg (fun q => hc (by rw [List.getElem?_eq_getElem hlt, q]))]
      · rw [List.drop_of_length_le (by lia), List.drop_of_length_le (by lia)]; rfl
theorem occ_one (x : Str) (c : Nat) : occurrences x ⟨#[c]⟩ 0 x.length (x.length + 1) = idxs c 0 (cl x) := by
  rw [occ_eq]
  have := occ_loop x c (x.length + 1) 0 #[] 0 (by lia) (by simp) (Nat.le_refl _)
  rw [Nat.sub_zero]
  refine Eq.trans this ?_
  simp
noncomputable def lastBody (s sub : Str) (hi : Nat) (i : Nat) (st : Option Nat) : Id (ForInStep (Option Nat)) :=
  if i + sub.length ≤ hi ∧ subAt s sub i = true then pure (ForInStep.yield (some i)) else pure (ForInStep.yield st)
theorem last_eq (s sub : Str) (lo hi : Nat) : lastOccurrence s sub lo hi = (forIn (List.range' lo (hi + 1 - lo)) none (lastBody s sub hi)).run := by
  unfold lastOccurrence lastBody
  simp
theorem last_loop (x : Str) (c : Nat) : ∀ (m i : Nat) (st : Option Nat), i + m = x.length + 1 →
    (forIn (List.range' i m) st (lastBody x ⟨#[c]⟩ x.length)).run = ((idxs c i ((cl x).drop i)).getLast?).or st
  | 0, i, st, hm => by
    have : (cl x).drop i = [] := List.drop_of_length_le (by rw [cl_length]; lia)
    rw [this]; simp [idxs]
  | m + 1, i, st, hm => by
    rw [List.range'_succ, List.forIn_cons]
    have one := subAt_one x c i
    by_cases hc : (cl x)[i]? = some c
    · have hb := one.mpr hc
      have e : lastBody x ⟨#[c]⟩ x.length i st = pure (ForInStep.yield (some i)) := by
        unfold lastBody; rw [if_pos hb]
      rw [e]
      refine Eq.trans (last_loop x c m (i + 1) (some i) (by lia)) ?_
      have hd : (cl x).drop i = c :: (cl x).drop (i + 1) := by
        obtain ⟨hlt, he⟩ := List.getElem?_eq_some_iff.mp hc
        rw [List.drop_eq_getElem_cons hlt, he]
      rw [hd]
      simp only [idxs, if_true]
      rw [List.getLast?_cons]
      cases (idxs c (i + 1) ((cl x).drop (i + 1))).getLast? <;> simp
    · have e : lastBody x ⟨#[c]⟩ x.length i st = pure (ForInStep.yield st) := by
        unfold lastBody; rw [if_neg (fun q => hc (one.mp q))]
      rw [e]
      refine Eq.trans (last_loop x c m (i + 1) st (by lia)) ?_
      congr 2
      by_cases hlt : i < (cl x).length
      · rw [List.drop_eq_getElem_cons hlt]
        simp only [idxs]
        rw [if_neg (fun q => hc (by rw [List.getElem?_eq_getElem hlt, q]))]
      · rw [List.drop_of_length_le (by lia), List.drop_of_length_le (by lia)]; rfl
theorem last_one (x : Str) (c : Nat) : lastOccurrence x ⟨#[c]⟩ 0 x.length = (idxs c 0 (cl x)).getLast? := by
  rw [last_eq]
  have := last_loop x c (x.length + 1) 0 none (by lia)
  rw [Nat.sub_zero]
  refine Eq.trans this ?_
  simp
theorem idxs_none {c : Nat} : ∀ {l : List Nat} {k : Nat}, c ∉ l → idxs c k l = []
  | [], _, _ => rfl
  | a :: l, k, h => by
    simp only [List.mem_cons, not_or] at h
    unfold idxs; rw [if_neg (Ne.symm h.1)]; exact idxs_none h.2
theorem idxs_append (c : Nat) : ∀ (u v : List Nat) (k : Nat), idxs c k (u ++ v) = idxs c k u ++ idxs c (k + u.length) v
  | [], v, k => by simp [idxs]
  | a :: u, v, k => by
    simp only [List.cons_append, idxs, List.length_cons]
    rw [idxs_append c u v (k + 1), show k + 1 + u.length = k + (u.length + 1) by lia]
    split <;> simp
theorem rfind_last {x : Str} {a e : List Nat} (h : cl x = a ++ 47 :: e) (he : 47 ∉ e) : Txt.rfind x slash = (a.length : Int) := by
  unfold Txt.rfind
  have e1 : lastOccurrence x slash 0 x.length = some a.length := by
    show lastOccurrence x ⟨#[47]⟩ 0 x.length = _
    rw [last_one, h, idxs_append]
    simp [idxs, idxs_none he]
  rw [e1]
noncomputable def lsplit (c : Nat) : List Nat → List (List Nat)
  | [] => [[]]
  | a :: l => if a = c then [] :: lsplit c l else match lsplit c l with
    | [] => [[a]]
    | h :: t => (a :: h) :: t
theorem lsplit_ne (c : Nat) : ∀ l, lsplit c l ≠ []
  | [] => by simp [lsplit]
  | a :: l => by
    unfold lsplit; split
    · simp
    · split <;> simp
theorem lsplit_none {c : Nat} : ∀ {u : List Nat}, c ∉ u → lsplit c u = [u]
  | [], _ => rfl
  | a :: u, h => by
    simp only [List.mem_cons, not_or] at h
    unfold lsplit; rw [if_neg (Ne.symm h.1), lsplit_none h.2]
theorem lsplit_app {c : Nat} (v : List Nat) : ∀ {u : List Nat}, c ∉ u → lsplit c (u ++ c :: v) = u :: lsplit c v
  | [], _ => by simp [lsplit]
  | a :: u, h => by
    simp only [List.mem_cons, not_or] at h
    rw [List.cons_append]
    simp only [lsplit]
    rw [if_neg (Ne.symm h.1), lsplit_app v h.2]
theorem lsplit_words (c : Nat) : ∀ (r : List (List Nat)) (w : List Nat), c ∉ w → (∀ x ∈ r, c ∉ x) → lsplit c (w ++ r.flatMap (c :: ·)) = w :: r
  | [], w, h, _ => by simpa using lsplit_none h
  | y :: r, w, h, k => by
    rw [List.flatMap_cons]
    show lsplit c (w ++ (c :: (y ++ r.flatMap (c :: ·)))) = _
    rw [lsplit_app _ h, lsplit_words c r y (k y (by simp)) fun x hx => k x (by simp [hx])]
noncomputable def seg (l : List Nat) (st : Nat) (cuts : List Nat) : List (List Nat) := ((st :: cuts.map (· + 1)).zip (cuts ++ [l.length])).map fun p => (l.drop p.1).take (p.2 - p.1)
theorem seg_idxs (c : Nat) (l : List Nat) : ∀ (d : List Nat) (i st : Nat), l.drop i = d → st ≤ i → i ≤ l.length → seg l st (idxs c i d) = match lsplit c d with
    | [] => []
    | h :: t => ((l.drop st).take (i - st) ++ h) :: t
  | [], i, st, hd, hs, hi => by
    have hl : l.length ≤ i := List.drop_eq_nil_iff.mp hd
    simp [seg, idxs, lsplit, show l.length - st = i - st by lia]
  | a :: d, i, st, hd, hs, hi => by
    have hlt : i < l.length := by
      refine Nat.lt_of_not_le fun q => ?_
      rw [List.drop_of_length_le q] at hd; cases hd
    have hd' : l.drop (i + 1) = d := by
      rw [List.drop_eq_getElem_cons hlt] at hd; exact (List.cons.inj hd).2
    have ha : l[i] = a := by
      rw [List.drop_eq_getElem_cons hlt] at hd; exact (List.cons.inj hd).1
    by_cases h : a = c
    · have ih := seg_idxs c l d (i + 1) (i + 1) hd' (Nat.le_refl _) (by lia)
      have e1 : idxs c i (a :: d) = i :: idxs c (i + 1) d := by simp [idxs, h]
      have e2 : lsplit c (a :: d) = [] :: lsplit c d := by simp [lsplit, h]
      have e3 : seg l st (i :: idxs c (i + 1) d) = (l.drop st).take (i - st) :: seg l (i + 1) (idxs c (i + 1) d) := by simp [seg]
      rw [e1, e2, e3, ih]
      cases q : lsplit c d with
      | nil => exact absurd q (lsplit_ne c d)
      | cons x t => simp
    · have ih := seg_idxs c l d (i + 1) st hd' (by lia) (by lia)
      have e1 : idxs c i (a :: d) = idxs c (i + 1) d := by simp [idxs, h]
      rw [e1, ih]
      have e2 : lsplit c (a :: d) = match lsplit c d with | [] => [[a]] | h :: t => (a :: h) :: t := by simp [lsplit, h]
      rw [e2]
      cases q : lsplit c d with
      | nil => exact absurd q (lsplit_ne c d)
      | cons x t =>
        have e3 : (l.drop st).take (i + 1 - st) = (l.drop st).take (i - st) ++ [a] := by
          rw [show i + 1 - st = (i - st) + 1 by lia, List.take_succ_eq_append_getElem (by simp; lia), List.getElem_drop]
          congr 2
          rw [← ha]; congr 1; lia
        simp [e3]
theorem cl_sub (x : Str) (i j : Nat) : cl (strSub x i j) = ((cl x).drop i).take (j - i) := by
  unfold strSub cl
  simp
theorem parts_cl (x : Str) (c : Nat) : (partsBetween x (idxs c 0 (cl x)) 1).map cl = lsplit c (cl x) := by
  have h := seg_idxs c (cl x) (cl x) 0 0 rfl (Nat.le_refl _) (Nat.zero_le _)
  have e : (partsBetween x (idxs c 0 (cl x)) 1).map cl = seg (cl x) 0 (idxs c 0 (cl x)) := by
    unfold partsBetween seg
    rw [List.map_map]
    refine List.map_congr_left fun p _ => ?_
    exact cl_sub x p.1 p.2
  rw [e, h]
  cases q : lsplit c (cl x) with
  | nil => exact absurd q (lsplit_ne c _)
  | cons y t => simp
theorem kind_slash (x : Str) : decide (Builtin.Str.strKind x < Builtin.Str.strKind slash) = false := by
  have h1 : Builtin.Str.strKind slash = 1 := by decide +kernel
  have h2 : 1 ≤ Builtin.Str.strKind x := by unfold Builtin.Str.strKind; split; lia; split <;> lia
  rw [h1, decide_eq_false_iff_not]; lia
theorem split_cl (x : Str) : (Txt.split x slash).map cl = lsplit 47 (cl x) := by
  have ho : occurrences x slash 0 x.length (x.length + 1) = idxs 47 0 (cl x) := occ_one x 47
  unfold Txt.split
  rw [kind_slash, Bool.or_false, ho]
  by_cases h1 : x.length < slash.length
  · rw [if_pos (decide_eq_true h1)]
    have : cl x = [] := by
      have h2 : slash.length = 1 := rfl
      exact List.length_eq_zero_iff.mp (by rw [cl_length]; lia)
    simp [this, lsplit]
  · rw [if_neg (by simpa using h1)]
    by_cases h2 : (idxs 47 0 (cl x)).isEmpty = true
    · rw [if_pos h2]
      have hn : 47 ∉ cl x := by
        intro hm
        obtain ⟨u, v, e⟩ := List.append_of_mem hm
        rw [e, idxs_append] at h2
        simp [idxs] at h2
      rw [lsplit_none hn]; rfl
    · rw [if_neg h2]
      exact parts_cl x 47
theorem parts_length (x : Str) : (partsBetween x (occurrences x slash 0 x.length (x.length + 1)) slash.length).length = (lsplit 47 (cl x)).length := by
  have ho : occurrences x slash 0 x.length (x.length + 1) = idxs 47 0 (cl x) := occ_one x 47
  rw [ho, ← parts_cl]; simp; rfl
theorem cl_join_slash : ∀ (xs : List Str), xs ≠ [] → cl (slash ++ Txt.join slash xs) = (xs.map cl).flatMap (47 :: ·) := by
  have key : ∀ (r : List Str) (x : Str), 47 :: cl (Str.join slash (x :: r)) = ((x :: r).map cl).flatMap (47 :: ·) := by
    intro r
    induction r with
    | nil => intro x; simp [Str.join]
    | cons y r ih =>
      intro x
      have e : Str.join slash (x :: y :: r) = x ++ slash ++ Str.join slash (y :: r) := rfl
      rw [e, cl_append, cl_append, cl_slash, List.append_assoc, List.singleton_append, ih y]
      simp
  intro xs hx
  cases xs with
  | nil => exact absurd rfl hx
  | cons x r =>
    rw [cl_append, cl_slash]
    show 47 :: cl (glued slash (x :: r)) = _
    rw [glued_eq_join]; exact key r x
theorem cl_join_empty : ∀ xs : List Str, cl (Txt.join (Str.ofString "") xs) = xs.flatMap cl := by
  have key : ∀ (xs : List Str), cl (Str.join (Str.ofString "") xs) = xs.flatMap cl := by
    intro xs
    induction xs with
    | nil => rfl
    | cons x r ih =>
      cases r with
      | nil => simp [Str.join]
      | cons y r =>
        have e : Str.join (Str.ofString "") (x :: y :: r) = x ++ Str.ofString "" ++ Str.join (Str.ofString "") (y :: r) := rfl
        have e0 : cl (Str.ofString "") = [] := rfl
        rw [e, cl_append, cl_append, ih, e0]; simp
  intro xs
  show cl (glued (Str.ofString "") xs) = _
  rw [glued_eq_join]; exact key xs
end

section
open Builtin Builtin.Str StrLaws
variable {es : List (Str × Str)} {E : Str → Str}
noncomputable def encC (es : List (Str × Str)) (ch : Nat) : List Nat := cl ((es.lookup ⟨#[ch]⟩).getD ⟨#[ch]⟩)
noncomputable def prK (es : List (Str × Str)) (ch : Nat) : Int × Int := signK es ⟨#[ch]⟩
noncomputable def alpha : List Nat := [47, 97, 60, 62, 45, 98]
/-- the first place where two rows of codes part -/
noncomputable def diffAt : List Nat → List Nat → Option Bool
  | a :: u, b :: v => if a < b then some true else if b < a then some false else diffAt u v
  | _, _ => none
/-- what is asked of a table and of the escape that goes with it -/
structure Enc (es : List (Str × Str)) (E : Str → Str) : Prop where
  enc : ∀ x ∈ pool, (cl x).flatMap (encC es) = cl (E x)
  sl : encC es 47 = [47]
  no : ∀ x ∈ pool, 47 ∉ cl (E x)
  ne : ∀ x ∈ pool, cl (E x) ≠ []
  keep : ∀ x ∈ pool, keepC (E x) = true
  len : ∀ x ∈ pool, (cl (E x)).length ≤ 5
  lenS : ∀ a ∈ alpha, (encC es a).length ≤ 4
  codes : ∀ x ∈ pool, (cl (E x)).all (· < 0x110000) = true
  inj : ∀ x ∈ pool, ∀ y ∈ pool, E x = E y → x = y
  ord : ∀ a ∈ alpha, ∀ b ∈ alpha, a ≠ b → diffAt (encC es a) (encC es b) = some ((pairO intO intO).blt (prK es a) (prK es b))
  prne : ∀ a ∈ alpha, ∀ b ∈ alpha, a ≠ b → prK es a ≠ prK es b
  encne : ∀ a ∈ alpha, encC es a ≠ []
theorem pool_alpha : ∀ x ∈ pool, ∀ a ∈ cl x, a ∈ alpha := by decide +kernel
theorem pool_no : ∀ x ∈ pool, 47 ∉ cl x := by decide +kernel
theorem pool_len : ∀ x ∈ pool, (cl x).length ≤ 2 := by decide +kernel
theorem pool_ok : ∀ x ∈ pool, PyData.strOk x = true := by decide +kernel

theorem range_getC (l : List Nat) : (List.range l.length).map (fun k => l.getD k 0) = l := by
  refine List.ext_getElem (by simp) fun i h1 h2 => ?_
  simp [List.getD_eq_getElem?_getD, h2]
theorem size_getD (t : Str) : (List.range t.cps.size).map (fun k => t.cps.getD k 0) = cl t := by
  have h := range_getC (cl t)
  rw [cl_size] at h
  rw [← h]
  refine List.map_congr_left fun k _ => ?_
  show t.cps.getD k 0 = (t.cps.toList).getD k 0
  rw [List.getD_eq_getElem?_getD, Array.getElem?_toList, Array.getD_eq_getD_getElem?]
theorem spell_cl (n : List Str) : cl (spellF es n) = (cl (textOf n)).flatMap (encC es) := by
  unfold spellF
  rw [cl_join_empty]
  unfold spelt
  rw [List.flatMap_map, ← size_getD, List.flatMap_map]
  rfl
theorem row_cl (t : Str) : rowOf es t = (cl t).map (prK es) := by
  unfold rowOf
  rw [← size_getD, List.map_map]
  rfl
theorem text_cl {n : List Str} (h : n ≠ []) : cl (textOf n) = (n.map cl).flatMap (47 :: ·) := cl_join_slash n h
theorem text_nil : cl (textOf []) = [47] := rfl
/-- the written path's codes -/
noncomputable def words (E : Str → Str) (n : List Str) : List Nat := (n.map fun x => cl (E x)).flatMap (47 :: ·)
theorem words_cons (x : Str) (n : List Str) : words E (x :: n) = 47 :: (cl (E x) ++ words E n) := by simp [words]
theorem words_append (n m : List Str) : words E (n ++ m) = words E n ++ words E m := by simp [words]
theorem enc_words (G : Enc es E) : ∀ {n : List Str}, (∀ x ∈ n, x ∈ pool) → ((n.map cl).flatMap (47 :: ·)).flatMap (encC es) = words E n
  | [], _ => rfl
  | x :: n, h => by
    have ih := enc_words G (n := n) fun y hy => h y (by simp [hy])
    rw [words_cons, List.map_cons, List.flatMap_cons, List.flatMap_append, ih, List.flatMap_cons, G.sl, G.enc x (h x (by simp))]
    rfl
theorem spell_words (G : Enc es E) {n : List Str} (h : ∀ x ∈ n, x ∈ pool) (hn : n ≠ []) : cl (spellF es n) = words E n := by
  rw [spell_cl, text_cl hn, enc_words G h]
theorem spell_nil (G : Enc es E) : spellF es [] = slash := cl_inj (by rw [spell_cl, text_nil]; simp [G.sl]; rfl)
theorem endswith_cl (x : Str) : Txt.endswith x slash = decide ((cl x).getLast? = some 47) := by
  have one := subAt_one x 47 (x.length - 1)
  have hs : slash.length = 1 := rfl
  unfold Txt.endswith
  rw [Bool.eq_iff_iff, Bool.and_eq_true, decide_eq_true_eq, decide_eq_true_eq, hs, List.getLast?_eq_getElem?, cl_length]
  constructor
  · rintro ⟨h1, h2⟩
    exact one.mp ⟨by show x.length - 1 + 1 ≤ _; lia, h2⟩
  · intro h
    have hl : x.length - 1 < x.length := (List.getElem?_eq_some_iff.mp h).1
    exact ⟨by lia, (one.mpr h).2⟩
theorem startswith_cl (x : Str) : Txt.startswith x slash = decide ((cl x)[0]? = some 47) := by
  have one := subAt_one x 47 0
  have hs : slash.length = 1 := rfl
  unfold Txt.startswith
  rw [Bool.eq_iff_iff, Bool.and_eq_true, decide_eq_true_eq, decide_eq_true_eq, hs]
  constructor
  · rintro ⟨h1, h2⟩
    exact one.mp ⟨by show 0 + 1 ≤ _; lia, h2⟩
  · intro h
    have hl : 0 < x.length := (List.getElem?_eq_some_iff.mp h).1
    exact ⟨by lia, (one.mpr h).2⟩
theorem last_app {u v : List Nat} (h : v ≠ []) (hn : 47 ∉ v) : (u ++ v).getLast? ≠ some 47 := by
  intro q
  rw [List.getLast?_append, List.getLast?_eq_some_getLast h] at q
  have : 47 = v.getLast h := by simpa using q.symm
  exact hn (this ▸ List.getLast_mem h)
theorem words_last (G : Enc es E) {n : List Str} (h : ∀ x ∈ n, x ∈ pool) (hn : n ≠ []) : (words E n).getLast? ≠ some 47 := by
  have e : n = n.dropLast ++ [n.getLast hn] := (List.dropLast_concat_getLast hn).symm
  have hm := h _ (List.getLast_mem hn)
  rw [e, words_append]
  have e2 : words E [n.getLast hn] = [47] ++ cl (E (n.getLast hn)) := by simp [words]
  rw [e2, ← List.append_assoc]
  exact last_app (G.ne _ hm) (G.no _ hm)
theorem words_len (G : Enc es E) : ∀ {n : List Str}, (∀ x ∈ n, x ∈ pool) → (words E n).length ≤ 6 * n.length
  | [], _ => by simp [words]
  | x :: n, h => by
    have ih := words_len G (n := n) fun y hy => h y (by simp [hy])
    have := G.len x (h x (by simp))
    rw [words_cons]; simp; lia
theorem words_codes (G : Enc es E) : ∀ {n : List Str}, (∀ x ∈ n, x ∈ pool) → (words E n).all (· < 0x110000) = true
  | [], _ => rfl
  | x :: n, h => by
    have ih := words_codes G (n := n) fun y hy => h y (by simp [hy])
    have := G.codes x (h x (by simp))
    rw [words_cons, List.all_cons, List.all_append, this, ih]; rfl
/-- the laying of a path -/
theorem laid_words {k : Int} (G : Enc es (escs (rules k))) (hE : ∀ x ∈ pool, escOk (rules k) x = true) : ∀ (n : List Str) (p : Str), (∀ x ∈ n, x ∈ pool) → (cl p).getLast? ≠ some 47 → cl p ≠ [] → (cl p).length + 6 * n.length ≤ 900 →
    laidOk k p n = true ∧ cl (laidFrom k p n) = cl p ++ words (escs (rules k)) n
  | [], p, _, _, _, _ => ⟨rfl, by simp [laidFrom, words]⟩
  | x :: n, p, h, hl, hne, hb => by
    have hx := h x (by simp)
    have nx := G.no x hx
    have ex := G.ne x hx
    have lx := G.len x hx
    have ej : joined p (escs (rules k) x) = p ++ (slash ++ escs (rules k) x) := by
      unfold joined; rw [endswith_cl, if_neg (by simpa using hl)]
    have cj : cl (p ++ (slash ++ escs (rules k) x)) = cl p ++ (47 :: cl (escs (rules k) x)) := by rw [cl_append, cl_append, cl_slash]; rfl
    have e1 : cl p ++ (47 :: cl (escs (rules k) x)) = (cl p ++ [47]) ++ cl (escs (rules k) x) := by simp
    simp only [List.length_cons] at hb
    obtain ⟨a, b⟩ := laid_words G hE n (p ++ (slash ++ escs (rules k) x)) (fun y hy => h y (by simp [hy])) (by rw [cj, e1]; exact last_app ex nx) (by rw [cj]; simp) (by rw [cj]; simp; lia)
    have hp0 : (p.length != 0) = true := by
      have : (cl p).length ≠ 0 := fun q => hne (List.length_eq_zero_iff.mp q)
      rw [cl_length] at this; simpa using this
    have hs : Txt.startswith (escs (rules k) x) slash = false := by
      rw [startswith_cl, decide_eq_false_iff_not]
      exact fun q => nx (List.mem_of_getElem? q)
    have b1 : (cl p).length = p.length := rfl
    have b2 : (cl (escs (rules k) x)).length = (escs (rules k) x).length := rfl
    have b3 : (p ++ escs (rules k) x).length = p.length + (escs (rules k) x).length := by rw [← cl_length, cl_append, List.length_append]; rfl
    have b4 : (slash ++ escs (rules k) x).length = 1 + (escs (rules k) x).length := by rw [← cl_length, cl_append, List.length_append]; rfl
    have b5 : (p ++ (slash ++ escs (rules k) x)).length = p.length + (1 + (escs (rules k) x).length) := by rw [← cl_length, cj]; simp [cl_length]; lia
    refine ⟨?_, ?_⟩
    · unfold laidOk
      rw [ej, a, hE x hx, hp0, hs, decide_eq_true (by lia), decide_eq_true (by lia), decide_eq_true (by lia), decide_eq_true (by lia)]; rfl
    · show cl (laidFrom k (joined p (escs (rules k) x)) n) = _
      rw [ej, b, cj, words_cons]; simp
theorem laid_first {k : Int} (G : Enc es (escs (rules k))) (hE : ∀ x ∈ pool, escOk (rules k) x = true) {n : List Str} (h : ∀ x ∈ n, x ∈ pool) (hn : n ≠ []) (hl : n.length ≤ 100) :
    laidOk k slash n = true ∧ cl (laidFrom k slash n) = words (escs (rules k)) n := by
  cases n with
  | nil => exact absurd rfl hn
  | cons x n =>
    have hx := h x (by simp)
    have nx := G.no x hx
    have ex := G.ne x hx
    have lx := G.len x hx
    have ej : joined slash (escs (rules k) x) = slash ++ escs (rules k) x := by
      unfold joined; rw [endswith_cl, if_pos (by decide)]
    have cj : cl (slash ++ escs (rules k) x) = [47] ++ cl (escs (rules k) x) := by rw [cl_append, cl_slash]
    simp only [List.length_cons] at hl
    obtain ⟨a, b⟩ := laid_words G hE n (slash ++ escs (rules k) x) (fun y hy => h y (by simp [hy])) (by rw [cj]; exact last_app ex nx) (by rw [cj]; simp) (by rw [cj]; simp; lia)
    have hs : Txt.startswith (escs (rules k) x) slash = false := by
      rw [startswith_cl, decide_eq_false_iff_not]
      exact fun q => nx (List.mem_of_getElem? q)
    have b2 : (cl (escs (rules k) x)).length = (escs (rules k) x).length := rfl
    have b4 : (slash ++ escs (rules k) x).length = 1 + (escs (rules k) x).length := by rw [← cl_length, cl_append, List.length_append]; rfl
    have b5 : (slash ++ (slash ++ escs (rules k) x)).length = 1 + (1 + (escs (rules k) x).length) := by rw [← cl_length, cl_append, List.length_append, cl_length (slash ++ _), b4]; rfl
    have b0 : slash.length = 1 := rfl
    refine ⟨?_, ?_⟩
    · unfold laidOk
      rw [ej, a, hE x hx, hs, decide_eq_true (by lia), decide_eq_true (by lia), decide_eq_true (by lia)]; rfl
    · show cl (laidFrom k (joined slash (escs (rules k) x)) n) = _
      rw [ej, b, cj, words_cons]; simp
end

section
open Builtin Builtin.Str StrLaws
variable {es : List (Str × Str)} {E : Str → Str}
theorem cl_map_inj : ∀ {xs ys : List Str}, xs.map cl = ys.map cl → xs = ys
  | [], [], _ => rfl
  | [], _ :: _, h => by cases h
  | _ :: _, [], h => by cases h
  | x :: xs, y :: ys, h => by
    simp only [List.map_cons, List.cons.injEq] at h
    rw [cl_inj h.1, cl_map_inj h.2]
noncomputable def noTxt : Str := ⟨#[]⟩
theorem split_words (G : Enc es E) {t : Str} {n : List Str} (h : ∀ x ∈ n, x ∈ pool) (ht : cl t = words E n) : Txt.split t slash = noTxt :: n.map E := by
  refine cl_map_inj ?_
  rw [split_cl, ht]
  have := lsplit_words 47 (n.map fun x => cl (E x)) [] (by simp) (fun w hw => by
    obtain ⟨x, hx, rfl⟩ := List.mem_map.mp hw
    exact G.no x (h x hx))
  rw [List.nil_append] at this
  refine Eq.trans this ?_
  simp [noTxt]; rfl
theorem splitF_words (G : Enc es E) {t : Str} {n : List Str} (h : ∀ x ∈ n, x ∈ pool) (ht : cl t = words E n) : splitF t = n.map E := by
  unfold splitF
  rw [split_words G h ht, List.filter_cons, if_neg (by decide), List.filter_eq_self]
  intro w hw
  obtain ⟨x, hx, rfl⟩ := List.mem_map.mp hw
  exact G.keep x (h x hx)
theorem sum_small {sep : Str} (hs : sep.length ≤ 10) : ∀ (xs : List Str) (acc : Nat), (∀ x ∈ xs, x.length ≤ 10) → xs.foldl (fun a x => a + x.length + sep.length) acc ≤ acc + 20 * xs.length
  | [], acc, _ => by simp
  | x :: xs, acc, h => by
    have h1 := h x (by simp)
    have h2 := sum_small hs xs (acc + x.length + sep.length) fun y hy => h y (by simp [hy])
    simp only [List.foldl_cons, List.length_cons]; lia
theorem joinOk_small {sep : Str} {xs : List Str} (hs : sep.length ≤ 10) (h : ∀ x ∈ xs, x.length ≤ 10) (hl : xs.length ≤ 1000) : JoinOk sep xs = true := by
  unfold JoinOk tooLong
  have := sum_small hs xs 0 h
  rw [List.foldl_toArray, sizeLine_eq]
  simp
  lia
theorem words_snoc (x : Str) (n : List Str) : words E (n ++ [x]) = words E n ++ 47 :: cl (E x) := by rw [words_append]; simp [words]
theorem head_cl {t : Str} {a e : List Nat} (h : cl t = a ++ 47 :: e) (he : 47 ∉ e) : cl (headOf t) = a ++ [47] := by
  unfold headOf
  rw [rfind_last h he]
  show ((t.cps.toList).take ((a.length : Int) + 1).toNat) = _
  have : t.cps.toList = a ++ 47 :: e := h
  rw [this, show ((a.length : Int) + 1).toNat = a.length + 1 by lia]
  rw [show a ++ 47 :: e = (a ++ [47]) ++ e by simp, List.take_left' (by simp)]
theorem snoc_of {n : List Str} (hn : n ≠ []) : ∃ m x, n = m ++ [x] := ⟨n.dropLast, n.getLast hn, (List.dropLast_concat_getLast hn).symm⟩
theorem pathOk_words (G : Enc es E) {t : Str} {n : List Str} (h : ∀ x ∈ n, x ∈ pool) (hn : n ≠ []) (hl : n.length ≤ 3) (ht : cl t = words E n) : pathOk t = true := by
  have wl := words_len G h
  have tl : t.length = (words E n).length := by rw [← ht]; rfl
  have sp := split_words G h ht
  have f1 : Txt.startswith t slash = true := by
    rw [startswith_cl, decide_eq_true_eq, ht]
    cases n with
    | nil => exact absurd rfl hn
    | cons x n => rw [words_cons]; rfl
  have f2 : (partsBetween t (occurrences t slash 0 t.length (t.length + 1)) slash.length).length ≤ 1000 := by
    rw [parts_length, ← split_cl, List.length_map, sp]; simp; lia
  have f3 : (Txt.split t slash).length ≤ 1000 := by rw [sp]; simp; lia
  have f4 : ((Txt.split t slash).all fun c => decide (c.length ≤ 1000)) = true := by
    rw [sp, List.all_eq_true]
    intro c hc
    rcases List.mem_cons.mp hc with q | q
    · rw [q]; rfl
    · obtain ⟨x, hx, rfl⟩ := List.mem_map.mp q
      have := G.len x (h x hx)
      rw [cl_length] at this
      exact decide_eq_true (by lia)
  have c1 : cpOk t = true := by
    unfold cpOk
    rw [f1, f4, decide_eq_true f2, decide_eq_true f3, decide_eq_true (by lia)]; rfl
  obtain ⟨m, x, rfl⟩ := snoc_of hn
  have hx := h x (by simp)
  have ht' := ht
  rw [words_snoc] at ht'
  have hh := head_cl ht' (G.no x hx)
  have hhl : (headOf t).length = (words E m).length + 1 := by rw [← cl_length, hh]; simp
  have wm := words_len G (n := m) fun y hy => h y (by simp [hy])
  have d1 : dirOk t = true := by
    unfold dirOk
    have so : PyData.strOk t = true := by
      unfold PyData.strOk
      have := words_codes G h
      rw [← ht] at this
      rw [← Array.all_toList]; exact this
    rw [rfind_last ht' (G.no x hx), so, decide_eq_true (by lia), decide_eq_true (by lia), decide_eq_true (by simp at hl; lia)]; rfl
  have fr : frontsOk (splitF t) = true := by
    rw [splitF_words G h ht]
    unfold frontsOk
    rw [List.all_eq_true]
    intro k _
    rw [← List.map_take]
    have hk : ∀ y ∈ (m ++ [x]).take k, y ∈ pool := fun y hy => h y (List.mem_of_mem_take hy)
    have hkl : ((m ++ [x]).take k).length ≤ 3 := by rw [List.length_take]; lia
    generalize (m ++ [x]).take k = q at hk hkl
    rw [Bool.and_eq_true, decide_eq_true_eq]
    refine ⟨joinOk_small (by decide) (fun y hy => ?_) (by simp; lia), ?_⟩
    · obtain ⟨z, hz, rfl⟩ := List.mem_map.mp hy
      have := G.len z (hk z hz)
      rw [cl_length] at this; lia
    · by_cases hq : q = []
      · subst hq; show (slash ++ Txt.join slash []).length ≤ 1000; decide
      · have := words_len G hk
        rw [← cl_length, cl_join_slash _ (by simpa using hq), List.map_map]
        show (words E q).length ≤ 1000
        lia
  unfold pathOk; rw [c1, d1, fr]; rfl
theorem mul_all (k : Nat) : ∀ c ∈ cl (Txt.mul slash (k : Int)), c = 47 := by
  unfold Txt.mul
  split
  · intro c hc; cases hc
  · split
    · intro c hc
      have hc' : c ∈ ([47] : List Nat) := hc
      simpa using hc'
    · have key : ∀ (j : Nat) (acc : Array Nat), (∀ c ∈ acc.toList, c = 47) → ∀ c ∈ ((List.replicate j slash.cps).foldl (· ++ ·) acc).toList, c = 47 := by
        intro j
        induction j with
        | zero => intro acc h; exact h
        | succ j ih =>
          intro acc h
          rw [List.replicate_succ, List.foldl_cons]
          refine ih _ fun c hc => ?_
          rw [Array.toList_append, List.mem_append] at hc
          rcases hc with q | q
          · exact h c q
          · have q' : c ∈ ([47] : List Nat) := q
            simpa using q'
      exact key _ #[] (by simp)
theorem rstrip_one {y : Str} {a : List Nat} (h : cl y = a ++ [47]) (ha : a ≠ []) (hl : a.getLast? ≠ some 47) : cl (Txt.rstripChars y slash) = a := by
  have hg : ∀ c : Nat, slash.cps.contains c = decide (c = 47) := fun c => by
    show (#[47] : Array Nat).contains c = _
    rw [Bool.eq_iff_iff]; simp
  have hlen : y.length = a.length + 1 := by rw [← cl_length, h]; simp
  have hi : stripHi slash.cps.contains true y 0 = a.length := by
    unfold stripHi
    rw [if_pos rfl, List.drop_zero]
    have : y.cps.toList = a ++ [47] := h
    rw [this, List.reverse_append]
    have e : ([47] : List Nat).reverse ++ a.reverse = 47 :: a.reverse := rfl
    rw [e, List.takeWhile_cons, if_pos (by rw [hg]; rfl)]
    have e2 : a.reverse.takeWhile slash.cps.contains = [] := by
      obtain ⟨z, hz⟩ : ∃ z, a.getLast? = some z := by
        rw [List.getLast?_eq_some_getLast ha]; exact ⟨_, rfl⟩
      have hz' : z ≠ 47 := fun q => hl (q ▸ hz)
      have : a.reverse.head? = some z := by rw [List.head?_reverse]; exact hz
      cases ea : a.reverse with
      | nil => rw [ea] at this; cases this
      | cons u v =>
        rw [ea] at this
        obtain rfl : u = z := by simpa using this
        rw [List.takeWhile_cons, if_neg (by rw [hg]; simpa using hz')]
    rw [e2, hlen]; rfl
  unfold Txt.rstripChars Txt.stripBy
  have lo : stripLo slash.cps.contains false y = 0 := rfl
  have ns : stripSame slash.cps.contains false true y = false := by
    unfold stripSame
    rw [lo, hi, hlen]; simp
  rw [ns, if_neg Bool.false_ne_true]
  unfold PySem.stripped
  rw [lo, hi, cl_sub, h]; simp
theorem dir_words (G : Enc es E) {t : Str} {n : List Str} (h : ∀ x ∈ n, x ∈ pool) (hn : n ≠ []) (ht : cl t = words E n) : dirF t = spellF es n.dropLast := by
  obtain ⟨m, x, rfl⟩ := snoc_of hn
  have hx := h x (by simp)
  have hm : ∀ y ∈ m, y ∈ pool := fun y hy => h y (by simp [hy])
  rw [words_snoc] at ht
  have hh := head_cl ht (G.no x hx)
  rw [List.dropLast_concat]
  unfold dirF
  by_cases hm0 : m = []
  · subst hm0
    have e : headOf t = slash := cl_inj hh
    rw [e, if_neg (by decide), spell_nil G]
  · have hw : words E m ≠ [] := by
      cases m with
      | nil => exact absurd rfl hm0
      | cons y m => rw [words_cons]; simp
    have hl := words_last G hm hm0
    have ne : headOf t ≠ Txt.mul slash ((headOf t).length : Int) := fun q => by
      have all := mul_all (headOf t).length
      rw [← q, hh] at all
      obtain ⟨z, hz⟩ : ∃ z, (words E m).getLast? = some z := by
        rw [List.getLast?_eq_some_getLast hw]; exact ⟨_, rfl⟩
      have := all z (by simp [List.mem_of_getLast? hz])
      exact hl (this ▸ hz)
    have h0 : ((headOf t).length != 0) = true := by
      have : (headOf t).length = (words E m).length + 1 := by rw [← cl_length, hh]; simp
      rw [this]; simp
    rw [if_pos ⟨h0, by simpa using ne⟩]
    exact cl_inj ((rstrip_one hh hw hl).trans (spell_words G hm hm0).symm)
/-- spelled names -/
theorem text_alpha {n : List Str} (h : ∀ x ∈ n, x ∈ pool) : ∀ a ∈ cl (textOf n), a ∈ alpha := by
  intro a ha
  by_cases hn : n = []
  · subst hn; rw [text_nil] at ha; obtain rfl : a = 47 := by simpa using ha
    decide
  · rw [text_cl hn] at ha
    obtain ⟨w, hw, ha⟩ := List.mem_flatMap.mp ha
    obtain ⟨x, hx, rfl⟩ := List.mem_map.mp hw
    rcases List.mem_cons.mp ha with q | q
    · subst q; decide
    · exact pool_alpha x (h x hx) a q
theorem text_len {n : List Str} (h : ∀ x ∈ n, x ∈ pool) : (cl (textOf n)).length ≤ 1 + 3 * n.length := by
  by_cases hn : n = []
  · subst hn; decide
  · rw [text_cl hn]
    have key : ∀ m : List Str, (∀ x ∈ m, x ∈ pool) → ((m.map cl).flatMap (47 :: ·)).length ≤ 3 * m.length := by
      intro m
      induction m with
      | nil => intro _; simp
      | cons x m ih =>
        intro hm
        have h1 := ih fun y hy => hm y (by simp [hy])
        have h2 := pool_len x (hm x (by simp))
        simp only [List.map_cons, List.flatMap_cons, List.length_append, List.length_cons]; lia
    have := key n h
    lia
theorem spell_ok (G : Enc es E) {n : List Str} (h : ∀ x ∈ n, x ∈ pool) (hl : n.length ≤ 3) : spellOk es n = true := by
  have tl := text_len h
  have e1 : (textOf n).length = (cl (textOf n)).length := rfl
  have e2 : (textOf n).cps.size = (cl (textOf n)).length := rfl
  have j1 : JoinOk slash n = true := joinOk_small (by decide) (fun x hx => by
    have := pool_len x (h x hx)
    rw [cl_length] at this; lia) (by lia)
  have j2 : JoinOk (Str.ofString "") (spelt es (textOf n)) = true := by
    refine joinOk_small (by decide) (fun y hy => ?_) (by unfold spelt; simp; lia)
    unfold spelt at hy
    obtain ⟨k, hk, rfl⟩ := List.mem_map.mp hy
    have hk' : k < (cl (textOf n)).length := by rw [cl_size]; simpa using hk
    have ha := text_alpha h _ (List.getElem_mem hk')
    have e : (textOf n).cps.getD k 0 = (cl (textOf n))[k] := by
      rw [Array.getD_eq_getD_getElem?, ← Array.getElem?_toList]
      show ((cl (textOf n))[k]?).getD 0 = _
      rw [List.getElem?_eq_getElem hk']; rfl
    have := G.lenS _ ha
    unfold encC at this
    rw [cl_length] at this
    unfold signOf; rw [e]; lia
  unfold spellOk
  rw [j1, j2, decide_eq_true (by lia), decide_eq_true (by lia), decide_eq_true (by lia), List.all_eq_true.mpr fun x hx => pool_ok x (h x hx)]; rfl
end

section
variable {es : List (Str × Str)} {E : Str → Str}
noncomputable abbrev natO : KeyOrd := KO.mk Nat (fun a b => decide (a < b)) (fun a => by simp) (fun a b c h1 h2 => by simp only [decide_eq_true_eq] at *; lia) (fun a b h1 h2 => by simp only [decide_eq_false_iff_not] at *; lia)
theorem lt_codes : ∀ u v : List Nat, decide (u < v) = listLt natO u v
  | [], [] => by simp [listLt]
  | [], b :: v => by simp [listLt]
  | a :: u, [] => by simp [listLt]
  | a :: u, b :: v => by
    have ih := lt_codes u v
    have e : listLt natO (a :: u) (b :: v) = (decide (a < b) || (!decide (b < a) && listLt natO u v)) := rfl
    rw [e, ← ih, Bool.eq_iff_iff, decide_eq_true_eq, List.cons_lt_cons_iff]
    simp only [Bool.or_eq_true, Bool.and_eq_true, Bool.not_eq_true', decide_eq_true_eq, decide_eq_false_iff_not]
    constructor
    · rintro (h | ⟨rfl, h⟩)
      · exact .inl h
      · exact .inr ⟨Nat.lt_irrefl _, h⟩
    · rintro (h | ⟨h1, h2⟩)
      · exact .inl h
      · by_cases q : a < b
        · exact .inl q
        · exact .inr ⟨by lia, h2⟩
theorem str_lt (x y : Str) : strO.blt x y = listLt natO (cl x) (cl y) := lt_codes _ _
theorem diff_lt : ∀ {a b : List Nat} {t : Bool}, diffAt a b = some t → ∀ r s, listLt natO (a ++ r) (b ++ s) = t
  | [], [], _, h, _, _ => by simp [diffAt] at h
  | [], _ :: _, _, h, _, _ => by simp [diffAt] at h
  | _ :: _, [], _, h, _, _ => by simp [diffAt] at h
  | a :: u, b :: v, t, h, r, s => by
    have e : listLt natO ((a :: u) ++ r) ((b :: v) ++ s) = (decide (a < b) || (!decide (b < a) && listLt natO (u ++ r) (v ++ s))) := rfl
    rw [e]
    unfold diffAt at h
    split at h
    · rename_i q; cases h; simp [q]
    · rename_i q
      split at h
      · rename_i q2; cases h; simp [q, q2]
      · rename_i q2
        rw [diff_lt h r s]; simp [q, q2]
theorem listLt_same (O : KeyOrd) : ∀ p u v : List O.α, listLt O (p ++ u) (p ++ v) = listLt O u v
  | [], _, _ => rfl
  | a :: p, u, v => by
    have e : listLt O ((a :: p) ++ u) ((a :: p) ++ v) = (O.blt a a || (!O.blt a a && listLt O (p ++ u) (p ++ v))) := rfl
    rw [e, O.irrefl, listLt_same O p u v]; rfl
theorem listLt_nil (O : KeyOrd) {v : List O.α} (h : v ≠ []) : listLt O [] v = true := by
  cases v with
  | nil => exact absurd rfl h
  | cons _ _ => rfl
theorem listLt_nil' (O : KeyOrd) (v : List O.α) : listLt O v [] = false := by cases v <;> rfl
theorem pr_lt (G : Enc es E) : ∀ u v : List Nat, (∀ a ∈ u, a ∈ alpha) → (∀ a ∈ v, a ∈ alpha) → listLt (pairO intO intO) (u.map (prK es)) (v.map (prK es)) = listLt natO (u.flatMap (encC es)) (v.flatMap (encC es))
  | [], [], _, _ => rfl
  | [], b :: v, _, hv => by
    rw [List.flatMap_cons]
    exact (listLt_nil natO (by intro q; exact G.encne b (hv b (by simp)) (List.append_eq_nil_iff.mp q).1)).symm
  | a :: u, [], _, _ => (listLt_nil' natO _).symm
  | a :: u, b :: v, hu, hv => by
    have ha := hu a (by simp)
    have hb := hv b (by simp)
    have e : listLt (pairO intO intO) ((a :: u).map (prK es)) ((b :: v).map (prK es)) = ((pairO intO intO).blt (prK es a) (prK es b) || (!(pairO intO intO).blt (prK es b) (prK es a) && listLt (pairO intO intO) (u.map (prK es)) (v.map (prK es)))) := rfl
    rw [e, List.flatMap_cons, List.flatMap_cons]
    by_cases q : a = b
    · subst q
      rw [listLt_same, (pairO intO intO).irrefl, pr_lt G u v (fun c hc => hu c (by simp [hc])) (fun c hc => hv c (by simp [hc]))]; rfl
    · rw [diff_lt (G.ord a ha b hb q)]
      rcases KO.tri (pairO intO intO) (prK es a) (prK es b) with ⟨h1, h2, _⟩ | h | ⟨h1, h2, _⟩
      · rw [h1]; rfl
      · exact absurd h (G.prne a ha b hb q)
      · rw [h1, h2]; rfl
theorem row_lt (G : Enc es E) {n m : List Str} (hn : ∀ x ∈ n, x ∈ pool) (hm : ∀ x ∈ m, x ∈ pool) : rowO.blt (rowOf es (textOf n)) (rowOf es (textOf m)) = strO.blt (spellF es n) (spellF es m) := by
  rw [str_lt, spell_cl, spell_cl, row_cl, row_cl]
  exact pr_lt G _ _ (text_alpha hn) (text_alpha hm)
theorem place_kle (G : Enc es E) {n m : List Str} (hn : ∀ x ∈ n, x ∈ pool) (hm : ∀ x ∈ m, x ∈ pool) (h : placeO.kle (placeOf es n) (placeOf es m)) : strO.kle (spellF es n) (spellF es m) := by
  have h1 : (rowO.blt (rowOf es (textOf m)) (rowOf es (textOf n)) || (!rowO.blt (rowOf es (textOf n)) (rowOf es (textOf m)) && namesO.blt m n)) = false := h
  show strO.blt (spellF es m) (spellF es n) = false
  rw [← row_lt G hm hn]
  cases q : rowO.blt (rowOf es (textOf m)) (rowOf es (textOf n)) with
  | false => rfl
  | true => rw [q] at h1; simp at h1
/-- a longer path's text is greater -/
theorem listLt_longer (O : KeyOrd) {u v : List O.α} (h : v ≠ []) : listLt O u (u ++ v) = true := by
  have := listLt_same O u [] v
  rw [List.append_nil] at this
  rw [this]; exact listLt_nil O h
theorem no_prefix (G : Enc es E) {n g : List Str} (hn : ∀ x ∈ n, x ∈ pool) (hg : ∀ x ∈ g, x ∈ pool) (g0 : g ≠ []) (h : strO.kle (spellF es n) (spellF es g)) : ∀ k, k < n.length → n.take k = g.take k → k < g.length := fun k hk e => by
  refine Nat.lt_of_not_le fun q => ?_
  rw [List.take_of_length_le q] at e
  have e2 : n = g ++ n.drop k := by rw [← e, List.take_append_drop]
  have n0 : n ≠ [] := by rintro rfl; simp at hk
  have h1 : strO.blt (spellF es g) (spellF es n) = false := h
  have d0 : n.drop k ≠ [] := by
    intro z; have := List.drop_eq_nil_iff.mp z; lia
  rw [str_lt, spell_words G hn n0, spell_words G hg g0, e2, words_append, listLt_longer natO] at h1
  · cases h1
  · cases z : n.drop k with
    | nil => exact absurd z d0
    | cons x r => rw [words_cons]; simp

/-! ## common prefixes -/
theorem sand (O : KeyOrd) : ∀ (T a r b : List O.α), listLt O r a = false → listLt O b r = false → T <+: a → T <+: b → T <+: r
  | [], _, _, _, _, _, _, _ => List.nil_prefix
  | t :: T, a, r, b, h1, h2, ⟨u, hu⟩, ⟨v, hv⟩ => by
    subst hu hv
    cases r with
    | nil => cases h1
    | cons z r =>
      have e1 : (O.blt z t || (!O.blt t z && listLt O r (T ++ u))) = false := h1
      have e2 : (O.blt t z || (!O.blt z t && listLt O (T ++ v) r)) = false := h2
      rw [Bool.or_eq_false_iff] at e1 e2
      obtain rfl := O.total _ _ e1.1 e2.1
      have e3 := e1.2; have e4 := e2.2
      simp only [O.irrefl, Bool.not_false, Bool.true_and] at e3 e4
      exact List.cons_prefix_cons.mpr ⟨rfl, sand O T (T ++ u) r (T ++ v) e3 e4 (List.prefix_append _ _) (List.prefix_append _ _)⟩
theorem front_left (a b : List Str) : front a b <+: a := by
  obtain ⟨j, _, e⟩ := front_pre a b
  rw [e]; exact List.take_prefix _ _
theorem front_right : ∀ a b : List Str, front a b <+: b
  | [], b => by cases b <;> exact List.nil_prefix
  | x :: a, [] => List.nil_prefix
  | x :: a, y :: b => by
    unfold front
    split
    · rename_i h
      obtain rfl : x = y := by simpa using h
      exact List.cons_prefix_cons.mpr ⟨rfl, front_right a b⟩
    · exact List.nil_prefix
theorem front_max : ∀ q a b : List Str, q <+: a → q <+: b → q <+: front a b
  | [], _, _, _, _ => List.nil_prefix
  | x :: q, a, b, ⟨u, hu⟩, ⟨v, hv⟩ => by
    subst hu hv
    simp only [List.cons_append, front, beq_self_eq_true, if_true]
    exact List.cons_prefix_cons.mpr ⟨rfl, front_max q _ _ (List.prefix_append _ _) (List.prefix_append _ _)⟩
noncomputable def IsLcp (p : List Str) (rows : List (List Str)) : Prop := (∀ r ∈ rows, p <+: r) ∧ ∀ q, (∀ r ∈ rows, q <+: r) → q <+: p
theorem IsLcp.eq {p q : List Str} {rows : List (List Str)} (h : IsLcp p rows) (k : IsLcp q rows) : p = q := by
  have a := k.2 p h.1
  have b := h.2 q k.1
  exact a.eq_of_length_le b.length_le
theorem lcp_minmax {rows : List (List Str)} (h : 0 < rows.length) : IsLcp (front (minRow rows) (maxRow rows)) rows := by
  refine ⟨fun r hr => ?_, fun q hq => front_max q _ _ (hq _ (minRow_mem h)) (hq _ (maxRow_mem h))⟩
  exact sand strO _ (minRow rows) r (maxRow rows) (minRow_le hr) (maxRow_ge hr) (front_left _ _) (front_right _ _)
theorem lcp_two (a b : List Str) : IsLcp (front a b) [a, b] := by
  refine ⟨fun r hr => ?_, fun q hq => front_max q _ _ (hq a (by simp)) (hq b (by simp))⟩
  rcases List.mem_cons.mp hr with e | e
  · rw [e]; exact front_left _ _
  · rw [show r = b by simpa using e]; exact front_right _ _
theorem map_inj_pool (G : Enc es E) : ∀ {u v : List Str}, (∀ x ∈ u, x ∈ pool) → (∀ x ∈ v, x ∈ pool) → u.map E = v.map E → u = v
  | [], [], _, _, _ => rfl
  | [], _ :: _, _, _, h => by cases h
  | _ :: _, [], _, _, h => by cases h
  | x :: u, y :: v, hu, hv, h => by
    simp only [List.map_cons, List.cons.injEq] at h
    rw [G.inj x (hu x (by simp)) y (hv y (by simp)) h.1, map_inj_pool G (fun z hz => hu z (by simp [hz])) (fun z hz => hv z (by simp [hz])) h.2]
theorem IsLcp.map (G : Enc es E) {p : List Str} {rows : List (List Str)} (h : IsLcp p rows) (h0 : rows ≠ []) (hp : ∀ r ∈ rows, ∀ x ∈ r, x ∈ pool) : IsLcp (p.map E) (rows.map fun r => r.map E) := by
  refine ⟨fun r hr => ?_, fun q hq => ?_⟩
  · obtain ⟨s, hs, rfl⟩ := List.mem_map.mp hr
    exact (h.1 s hs).map E
  · have ht : ∀ r ∈ rows, q = (r.take q.length).map E := fun r hr => by
      rw [List.map_take]
      exact List.prefix_iff_eq_take.mp (hq _ (List.mem_map_of_mem hr))
    obtain ⟨r0, hr0⟩ := List.exists_mem_of_ne_nil rows h0
    have hq0 : r0.take q.length <+: p := h.2 _ fun r hr => by
      have e : r.take q.length = r0.take q.length := map_inj_pool G (fun x hx => hp r hr x (List.mem_of_mem_take hx)) (fun x hx => hp r0 hr0 x (List.mem_of_mem_take hx)) ((ht r hr).symm.trans (ht r0 hr0))
      rw [← e]; exact List.take_prefix _ _
    rw [ht r0 hr0]
    exact hq0.map E
/-- what is common in the spelling is what is common in the names -/
theorem common_words (G : Enc es E) {p : List Str} {rows : List (List Str)} (h : IsLcp p rows) (h0 : rows ≠ []) (hp : ∀ r ∈ rows, ∀ x ∈ r, x ∈ pool) : commonF (rows.map fun r => r.map E) = spellF es p := by
  have h1 := h.map G h0 hp
  have h2 := lcp_minmax (rows := rows.map fun r => r.map E) (by cases rows with | nil => exact absurd rfl h0 | cons _ _ => simp)
  have e := h2.eq h1
  unfold commonF
  rw [e]
  obtain ⟨r0, hr0⟩ := List.exists_mem_of_ne_nil rows h0
  have pp : ∀ x ∈ p, x ∈ pool := fun x hx => hp r0 hr0 x ((h.1 r0 hr0).subset hx)
  by_cases hq : p = []
  · subst hq; rw [spell_nil G]; exact cl_inj rfl
  · refine cl_inj ?_
    rw [cl_join_slash _ (by simpa using hq), spell_words G pp hq, List.map_map]; rfl
end

section
variable {es : List (Str × Str)} {E : Str → Str}
theorem part_words : ∀ {u v s t : List Nat}, 47 ∉ u → 47 ∉ v → (t = [] ∨ ∃ t', t = 47 :: t') → (u ++ 47 :: s) <+: (v ++ t) → u = v ∧ (47 :: s) <+: t
  | [], [], _, _, _, _, _, h => ⟨rfl, h⟩
  | [], b :: v, s, t, _, hv, _, ⟨w, hw⟩ => by
    simp only [List.nil_append, List.cons_append, List.cons.injEq] at hw
    exact absurd (by rw [← hw.1]; simp) hv
  | a :: u, [], s, t, hu, _, ht, ⟨w, hw⟩ => by
    rcases ht with rfl | ⟨t', rfl⟩
    · simp at hw
    · simp only [List.nil_append, List.cons_append, List.cons.injEq] at hw
      exact absurd (by rw [hw.1]; simp) hu
  | a :: u, b :: v, s, t, hu, hv, ht, h => by
    simp only [List.cons_append] at h
    obtain ⟨rfl, h3⟩ := List.cons_prefix_cons.mp h
    simp only [List.mem_cons, not_or] at hu hv
    obtain ⟨rfl, h'⟩ := part_words hu.2 hv.2 ht h3
    exact ⟨rfl, h'⟩
theorem words_head (n : List Str) : words E n = [] ∨ ∃ t', words E n = 47 :: t' := by
  cases n with
  | nil => exact .inl rfl
  | cons x n => exact .inr ⟨_, words_cons x n⟩
theorem names_of_words (G : Enc es E) : ∀ (p n : List Str), (∀ x ∈ p, x ∈ pool) → (∀ x ∈ n, x ∈ pool) → (words E p ++ [47]) <+: words E n → p <+: n
  | [], _, _, _, _ => List.nil_prefix
  | x :: p, [], _, _, h => by
    rw [words_cons] at h
    obtain ⟨w, hw⟩ := h
    simp [words] at hw
  | x :: p, y :: n, hp, hn, h => by
    rw [words_cons, words_cons, List.cons_append] at h
    have h := (List.cons_prefix_cons.mp h).2
    obtain ⟨s, hs⟩ : ∃ s, words E p ++ [47] = 47 :: s := by
      rcases words_head (E := E) p with e | ⟨t', e⟩
      · rw [e]; exact ⟨[], rfl⟩
      · rw [e]; exact ⟨t' ++ [47], rfl⟩
    rw [List.append_assoc, hs] at h
    obtain ⟨e, h2⟩ := part_words (G.no x (hp x (by simp))) (G.no y (hn y (by simp))) (words_head n) h
    have exy := G.inj x (hp x (by simp)) y (hn y (by simp)) (cl_inj e)
    subst exy
    rw [← hs] at h2
    exact List.cons_prefix_cons.mpr ⟨rfl, names_of_words G p n (fun z hz => hp z (by simp [hz])) (fun z hz => hn z (by simp [hz])) h2⟩
theorem words_longer {p n : List Str} (h : p <+: n) (ne : p.length < n.length) : (words E p ++ [47]) <+: words E n := by
  obtain ⟨w, rfl⟩ := h
  cases w with
  | nil => simp at ne
  | cons x w => rw [words_append, words_cons]; exact ⟨cl (E x) ++ words E w, by simp⟩
theorem prefix_dropLast {q l : List Str} (h : q <+: l) (ne : q ≠ l) : q <+: l.dropLast := by
  obtain ⟨w, rfl⟩ := h
  have hw : w ≠ [] := by rintro rfl; simp at ne
  rw [List.dropLast_append_of_ne_nil hw]
  exact List.prefix_append _ _
theorem every_lcp (G : Enc es E) {l g : List Str} {rest : List (List Str)} (hl : l ∈ rest) (hg : g ∈ rest) (hp : ∀ r ∈ rest, ∀ x ∈ r, x ∈ pool) (hne : ∀ r ∈ rest, r ≠ [])
    (h1 : ∀ r ∈ rest, strO.kle (spellF es l) (spellF es r)) (h2 : ∀ r ∈ rest, strO.kle (spellF es r) (spellF es g)) : IsLcp (everyOf l (front l g) rest) rest := by
  have between : ∀ p, (∀ x ∈ p, x ∈ pool) → p <+: l → p.length < l.length → p <+: g → p.length < g.length → ∀ r ∈ rest, p <+: r := fun p pp pl pll pg pgl r hr => by
    refine names_of_words G p r pp (hp r hr) ?_
    have a1 : listLt natO (words E r) (words E l) = false := by rw [← spell_words G (hp r hr) (hne r hr), ← spell_words G (hp l hl) (hne l hl), ← str_lt]; exact h1 r hr
    have a2 : listLt natO (words E g) (words E r) = false := by rw [← spell_words G (hp r hr) (hne r hr), ← spell_words G (hp g hg) (hne g hg), ← str_lt]; exact h2 r hr
    exact sand natO _ _ _ _ a1 a2 (words_longer pl pll) (words_longer pg pgl)
  have sub : ∀ p, p <+: l → ∀ x ∈ p, x ∈ pool := fun p pl x hx => hp l hl x (pl.subset hx)
  by_cases hb : (front l g == l) = true
  · have eb : front l g = l := by simpa using hb
    have lg : l <+: g := by have := front_right l g; rw [eb] at this; exact this
    by_cases ha : (rest.any fun n => n.take l.length != l) = true
    · have ee : everyOf l (front l g) rest = l.dropLast := by unfold everyOf; rw [if_pos (by rw [hb, ha]; rfl)]
      rw [ee]
      have l0 := hne l hl
      have lp : 0 < l.length := List.length_pos_iff.mpr l0
      have dl : l.dropLast <+: l := List.dropLast_prefix l
      have dll : l.dropLast.length < l.length := by rw [List.length_dropLast]; omega
      refine ⟨between _ (sub _ dl) dl dll (dl.trans lg) (Nat.lt_of_lt_of_le dll lg.length_le), fun q hq => ?_⟩
      refine prefix_dropLast (hq l hl) fun e => ?_
      subst e
      obtain ⟨n, hn, hn2⟩ := List.any_eq_true.mp ha
      have := List.prefix_iff_eq_take.mp (hq n hn)
      simp [← this] at hn2
    · have ee : everyOf l (front l g) rest = l := by unfold everyOf; rw [if_neg (by simp only [Bool.and_eq_true]; exact fun q => ha q.2), eb]
      rw [ee]
      refine ⟨fun r hr => ?_, fun q hq => hq l hl⟩
      have : ¬ ((r.take l.length != l) = true) := fun q => ha (List.any_eq_true.mpr ⟨r, hr, q⟩)
      have e : r.take l.length = l := by simpa using this
      rw [← e]; exact List.take_prefix _ _
  · have ee : everyOf l (front l g) rest = front l g := by unfold everyOf; rw [if_neg (by simp only [Bool.and_eq_true]; exact fun q => hb q.1)]
    rw [ee]
    have nb : front l g ≠ l := by simpa using hb
    have fl := front_left l g
    have fr := front_right l g
    have fll : (front l g).length < l.length := Nat.lt_of_le_of_ne fl.length_le fun q => nb (fl.eq_of_length q)
    have frl : (front l g).length < g.length := by
      refine Nat.lt_of_le_of_ne fr.length_le fun q => ?_
      have eg : front l g = g := fr.eq_of_length q
      rw [eg] at fl fll
      have ht := List.prefix_iff_eq_take.mp fl
      have := no_prefix G (hp l hl) (hp g hg) (hne g hg) (h1 g hg) g.length fll (by rw [← ht, List.take_length])
      omega
    exact ⟨between _ (sub _ fl) fl fll fr frl, fun q hq => front_max q l g (hq l hl) (hq g hg)⟩

theorem lastS_map (f : List Str → Str) : ∀ (m : List Str) (r : List (List Str)), lastS ((m :: r).map f) = f (lastN (m :: r))
  | m, [] => rfl
  | m, x :: r => by
    have ih := lastS_map f x r
    have e1 : lastS ((m :: x :: r).map f) = lastS ((x :: r).map f) := by simp [lastS]
    have e2 : lastN (m :: x :: r) = lastN (x :: r) := by simp [lastN]
    rw [e1, e2, ih]
/-- what is told is what is due -/
theorem told_due (G : Enc es E) {P : List Str → Str} : ∀ (ord : List (List Str)), (∀ n ∈ ord, ∀ x ∈ n, x ∈ pool) → (∀ n ∈ ord, n ≠ []) → (∀ n ∈ ord, P n = spellF es n ∧ cl (P n) = words E n) →
    ord.Pairwise (fun n m => strO.kle (spellF es n) (spellF es m)) → tellAll (ord.map P) = dueAll es (lastN ord) ord
  | [], _, _, _, _ => rfl
  | m :: r, hp, hne, hP, pw => by
    have ih := told_due G (P := P) r (fun n hn => hp n (by simp [hn])) (fun n hn => hne n (by simp [hn])) (fun n hn => hP n (by simp [hn])) (List.pairwise_cons.mp pw).2
    have ed : dueAll es (lastN (m :: r)) r = dueAll es (lastN r) r := by
      cases r with
      | nil => rfl
      | cons x r => simp [lastN]
    have mm : m ∈ m :: r := by simp
    have gm : lastN (m :: r) ∈ m :: r := List.mem_of_getElem? (lastN_get (by simp))
    have h1 : ∀ n ∈ m :: r, strO.kle (spellF es m) (spellF es n) := fun n hn => by
      rcases List.mem_cons.mp hn with e | e
      · rw [e]; exact KeyOrd.kle_refl _
      · exact (List.pairwise_cons.mp pw).1 n e
    have h2 : ∀ n ∈ m :: r, strO.kle (spellF es n) (spellF es (lastN (m :: r))) := lastN_rel (R := fun n m => strO.kle (spellF es n) (spellF es m)) (fun x => KeyOrd.kle_refl _) pw
    show tellRow (P m) (lastS ((m :: r).map P)) ((m :: r).map P) :: tellAll (r.map P) = dueRow es m (lastN (m :: r)) (m :: r) :: dueAll es (lastN (m :: r)) r
    rw [ih, ed, lastS_map]
    generalize lastN (m :: r) = g at *
    congr 1
    have sp : ∀ n ∈ m :: r, splitF (P n) = n.map E := fun n hn => splitF_words G (hp n hn) (hP n hn).2
    have c2 : commonF [splitF (P m), splitF (P g)] = spellF es (front m g) := by
      rw [sp m mm, sp g gm]
      exact common_words G (lcp_two m g) (by simp) (fun r hr => by
        rcases List.mem_cons.mp hr with e | e
        · rw [e]; exact hp m mm
        · rw [show r = g by simpa using e]; exact hp g gm)
    have ce : commonF (((m :: r).map P).map splitF) = spellF es (everyOf m (front m g) (m :: r)) := by
      have e1 : ((m :: r).map P).map splitF = (m :: r).map fun n => n.map E := by
        rw [List.map_map]; exact List.map_congr_left fun n hn => sp n hn
      rw [e1]
      exact common_words G (every_lcp G mm gm hp hne h1 h2) (by simp) hp
    unfold tellRow dueRow dueFive
    rw [c2, ce, (hP m mm).1, (hP g gm).1]
    have cd : dirF (spellF es m) = spellF es m.dropLast := by rw [← (hP m mm).1]; exact dir_words G (hp m mm) (hne m mm) (hP m mm).2
    rw [cd]; rfl
/-- the five -/
theorem enc0 : Enc (tab 0) (escs (rules 0)) := ⟨by decide +kernel, by decide +kernel, by decide +kernel, by decide +kernel, by decide +kernel, by decide +kernel, by decide +kernel, by decide +kernel, by decide +kernel, by decide +kernel, by decide +kernel, by decide +kernel⟩
theorem enc1 : Enc (tab 1) (escs (rules 1)) := ⟨by decide +kernel, by decide +kernel, by decide +kernel, by decide +kernel, by decide +kernel, by decide +kernel, by decide +kernel, by decide +kernel, by decide +kernel, by decide +kernel, by decide +kernel, by decide +kernel⟩
theorem enc2 : Enc (tab 2) (escs (rules 2)) := ⟨by decide +kernel, by decide +kernel, by decide +kernel, by decide +kernel, by decide +kernel, by decide +kernel, by decide +kernel, by decide +kernel, by decide +kernel, by decide +kernel, by decide +kernel, by decide +kernel⟩
theorem enc3 : Enc (tab 3) (escs (rules 3)) := ⟨by decide +kernel, by decide +kernel, by decide +kernel, by decide +kernel, by decide +kernel, by decide +kernel, by decide +kernel, by decide +kernel, by decide +kernel, by decide +kernel, by decide +kernel, by decide +kernel⟩
theorem enc4 : Enc (tab 4) (escs (rules 4)) := ⟨by decide +kernel, by decide +kernel, by decide +kernel, by decide +kernel, by decide +kernel, by decide +kernel, by decide +kernel, by decide +kernel, by decide +kernel, by decide +kernel, by decide +kernel, by decide +kernel⟩
theorem esc_ok : ∀ k ∈ ([0, 1, 2, 3, 4] : List Int), ∀ x ∈ pool, escOk (rules k) x = true := by decide +kernel
end

section
variable {B : Bs} {N : Nat} {σ : Sto}
/-! ## the script -/
theorem ints_rep {h : Heap} : ∀ {vs : List Value} {xs : List Int}, IntsAre vs xs → RepL h (xs.map .int) vs
  | _, _, .nil => rfl
  | _, _, .cons n t k => ⟨_, _, rfl, ⟨t, rfl⟩, ints_rep k⟩
theorem Sub.old {a : Addr} {vs : List Value} (hx : B.h₀.IsList a (List.toArray vs)) : Sub B (.ref a) σ := fun s v O r => by
  cases r
  exact ⟨_, _, (hx.at fun o e => O.keep _ o e).typeIs, slot_list_getitem.lookup⟩
theorem WSl.old_upto {a : Addr} {vs : List Value} {xs : List V} {j : Int} {Q : V → Sto → Prop} (hx : B.h₀.IsList a (List.toArray vs)) (rx : RepL B.h₀ xs vs) (hj : 0 ≤ j) (hl : xs.length ≤ sizeLine) (h : ∀ b, σ b = none → Q (.ref b) (σ.set b (.list (xs.take j.toNat)))) : WSl B N (.ref a) none (some j) σ Q := fun A s v sl vl vu R O r hs rl ru => by
  cases r
  have rv : RepL s.heap xs vs := rx.mono (Mono.of_keeps fun b o e => O.keep b o e)
  have pl : s.heap.IsList a (List.toArray vs) := hx.at fun o e => O.keep _ o e
  refine wpAny_getItem_list_slice pl hs rl.part ru.part .none (by simp) ?_ (by rw [List.size_toArray, rv.length]; exact hl)
  have e : slicePick (List.toArray vs) none (some j) none = List.toArray (vs.take j.toNat) := by
    unfold slicePick
    rw [bounds_upto j _ hj]
    dsimp only
    rw [sliceRange_zero, pick_take _ _ (by rw [List.size_toArray]; lia)]
    rw [List.size_toArray]
    congr 1
    rw [← List.take_take]
    simp
  rw [e]
  exact ⟨.ref _, _, PostS.new (tk := s.toks) O (cell_list_new (rv.take j.toNat)), rfl, h _ O.free⟩

/-! ## the law's own body -/
noncomputable def lawS : Stmt := pwS 41
noncomputable def lawBody : List Stmt := match lawS with
  | .FunctionDef _ _ b _ _ _ _ _ _ _ => b
  | _ => []
noncomputable def lawScope : Scope := match lawS with
  | .FunctionDef _ _ _ _ _ _ s _ _ _ => s
  | _ => default
noncomputable def drawsOf (xs : List Int) : List Nat := ((xs.take 6).map fun x => (x.fmod 375).toNat)
theorem draws_len (xs : List Int) : (drawsOf xs).length ≤ 6 := by simp [drawsOf]; lia
theorem fmod_lt (x : Int) : 0 ≤ x.fmod 375 ∧ x.fmod 375 < 375 := ⟨Int.fmod_nonneg_of_pos x (by lia), Int.fmod_lt_of_pos x (by lia)⟩
theorem draws_cell (xs : List Int) : ((xs.take 6).map fun x => V.int (x.fmod 375)) = (drawsOf xs).map fun n : Nat => V.int (n : Int) := by
  unfold drawsOf
  rw [List.map_map]
  refine List.map_congr_left fun x _ => ?_
  show V.int _ = V.int (((x.fmod 375).toNat : Nat) : Int)
  rw [Int.toNat_of_nonneg (fmod_lt x).1]
theorem draws_lt (xs : List Int) : ∀ n ∈ drawsOf xs, n < 375 := by
  intro n hn
  obtain ⟨x, _, rfl⟩ := List.mem_map.mp hn
  have := fmod_lt x
  lia
theorem sum_bound : ∀ (ns : List Nat), (∀ n ∈ ns, n < 375) → ∀ j, 0 ≤ ((ns.map fun n : Nat => (n : Int)).take j).sum ∧ ((ns.map fun n : Nat => (n : Int)).take j).sum ≤ 375 * ns.length
  | [], _, j => by simp
  | n :: ns, h, 0 => by simp; lia
  | n :: ns, h, j + 1 => by
    have h1 := h n (by simp)
    have h2 := sum_bound ns (fun m hm => h m (by simp [hm])) j
    simp only [List.map_cons, List.take_succ_cons, List.sum_cons, List.length_cons]
    lia
theorem draws_fit (xs : List Int) : PyProof.Rows.SumFits ((drawsOf xs).map fun n : Nat => (n : Int)) := fun j hj => by
  have hl := draws_len xs
  have hb := sum_bound (drawsOf xs) (draws_lt xs) (j + 1)
  have hj' : j < (drawsOf xs).length := by simpa using hj
  have hm := draws_lt xs _ (List.getElem_mem hj')
  have e : ((drawsOf xs).map fun n : Nat => (n : Int)).getD j 0 = ((drawsOf xs)[j] : Int) := by simp [hj']
  rw [e]
  unfold InLong
  lia
noncomputable def kindOf (xs : List Int) : Int := Int.fmod ((drawsOf xs).map fun n : Nat => (n : Int)).sum 5
theorem kind_mem (xs : List Int) : kindOf xs ∈ ([0, 1, 2, 3, 4] : List Int) := by
  have h1 : 0 ≤ kindOf xs := Int.fmod_nonneg_of_pos _ (by lia)
  have h2 : kindOf xs < 5 := Int.fmod_lt_of_pos _ (by lia)
  simp only [List.mem_cons, List.not_mem_nil, or_false]
  lia
theorem kind_enc {k : Int} (h : k ∈ ([0, 1, 2, 3, 4] : List Int)) : Enc (tab k) (escs (rules k)) := by
  simp only [List.mem_cons, List.not_mem_nil, or_false] at h
  rcases h with rfl | rfl | rfl | rfl | rfl
  · exact enc0
  · exact enc1
  · exact enc2
  · exact enc3
  · exact enc4
theorem pool_get (i : Nat) : pool.getD (i % 5) ⟨#[]⟩ ∈ pool := by
  have h : i % 5 < pool.length := Nat.mod_lt _ (by decide)
  rw [List.getD_eq_getElem?_getD, List.getElem?_eq_getElem h]
  exact List.getElem_mem h
theorem paths_ok (ns : List Nat) : ∀ n ∈ pathsOf ns, (∀ x ∈ n, x ∈ pool) ∧ n ≠ [] ∧ n.length ≤ 3 := by
  intro n hn
  rcases List.mem_append.mp hn with h | h
  · have key : ∀ n ∈ always, (∀ x ∈ n, x ∈ pool) ∧ n ≠ [] ∧ n.length ≤ 3 := by decide +kernel
    exact key n h
  · obtain ⟨x, _, rfl⟩ := List.mem_map.mp h
    have hd : ∀ y ∈ drawn x, y ∈ pool := by
      intro y hy
      simp only [drawn, List.mem_cons, List.not_mem_nil, or_false] at hy
      rcases hy with rfl | rfl | rfl <;> exact pool_get _
    have hl : (pathOf x).length = x % 3 + 1 := by
      unfold pathOf; rw [List.length_take]
      show min (x % 3 + 1) 3 = _
      lia
    refine ⟨fun y hy => hd y (List.mem_of_mem_take hy), fun q => ?_, by lia⟩
    rw [q] at hl; simp at hl
theorem tab_keys {k : Int} (h : k ∈ ([0, 1, 2, 3, 4] : List Int)) : ∀ c, ((tab k).lookup c).isSome = true → c = Str.ofString "<" ∨ c = Str.ofString ">" := by
  have key : ∀ k ∈ ([0, 1, 2, 3, 4] : List Int), ∀ p ∈ tab k, p.1 = Str.ofString "<" ∨ p.1 = Str.ofString ">" := by decide +kernel
  intro c hc
  have aux : ∀ (es : List (Str × Str)), (es.lookup c).isSome = true → ∃ p ∈ es, p.1 = c := by
    intro es
    induction es with
    | nil => intro h; cases h
    | cons p es ih =>
      intro h
      rw [List.lookup_cons] at h
      cases q : c == p.1 with
      | true => exact ⟨p, by simp, by simpa using (beq_iff_eq.mp q).symm⟩
      | false =>
        rw [q] at h
        obtain ⟨r, hr, e⟩ := ih h
        exact ⟨r, by simp [hr], e⟩
  obtain ⟨p, hp, rfl⟩ := aux _ hc
  exact key k h p hp
theorem sorted_exists (xs : List Str) : ∃ ss : List Str, ss.Perm xs ∧ ss.Pairwise strO.kle := by
  induction xs with
  | nil => exact ⟨[], .refl _, .nil⟩
  | cons x xs ih =>
    obtain ⟨ss, pm, pw⟩ := ih
    have ins : ∀ ss : List Str, ss.Pairwise strO.kle → ∃ ts : List Str, ts.Perm (x :: ss) ∧ ts.Pairwise strO.kle := by
      intro ss
      induction ss with
      | nil => intro _; exact ⟨[x], .refl _, by simp⟩
      | cons y ss ih =>
        intro h
        obtain ⟨h1, h2⟩ := List.pairwise_cons.mp h
        by_cases q : strO.blt y x = true
        · obtain ⟨ts, tp, tw⟩ := ih h2
          refine ⟨y :: ts, (tp.cons y).trans (List.Perm.swap x y ss), List.pairwise_cons.mpr ⟨fun z hz => ?_, tw⟩⟩
          rcases List.mem_cons.mp (tp.mem_iff.mp hz) with e | e
          · rw [e]; exact KeyOrd.kle_of_klt q
          · exact h1 z e
        · have q' : strO.kle x y := KeyOrd.kle_of_not_klt q
          refine ⟨x :: y :: ss, .refl _, List.pairwise_cons.mpr ⟨fun z hz => ?_, h⟩⟩
          rcases List.mem_cons.mp hz with e | e
          · rw [e]; exact q'
          · exact KeyOrd.kle_trans q' (h1 z e)
    obtain ⟨ts, tp, tw⟩ := ins ss pw
    exact ⟨ts, tp.trans (pm.cons x), tw⟩
theorem sorted_unique : ∀ {ss ts : List Str}, ss.Perm ts → ss.Pairwise strO.kle → ts.Pairwise strO.kle → ss = ts
  | [], [], _, _, _ => rfl
  | [], _ :: _, p, _, _ => by have := p.length_eq; simp at this
  | _ :: _, [], p, _, _ => by have := p.length_eq; simp at this
  | s :: ss, t :: ts, p, h1, h2 => by
    have a : strO.kle s t := by
      rcases List.mem_cons.mp (p.mem_iff.mpr (List.mem_cons_self (a := t) (l := ts))) with e | e
      · rw [e]; exact KeyOrd.kle_refl _
      · exact (List.pairwise_cons.mp h1).1 t e
    have b : strO.kle t s := by
      rcases List.mem_cons.mp (p.mem_iff.mp (List.mem_cons_self (a := s) (l := ss))) with e | e
      · rw [e]; exact KeyOrd.kle_refl _
      · exact (List.pairwise_cons.mp h2).1 s e
    obtain rfl := KeyOrd.kle_antisymm (O := strO) a b
    rw [sorted_unique p.cons_inv (List.pairwise_cons.mp h1).2 (List.pairwise_cons.mp h2).2]
end

section
open PyProof
variable {B : Bs} {N : Nat}
theorem spell_strOk {es : List (Str × Str)} {E : Str → Str} (G : Enc es E) {n : List Str} (h : ∀ x ∈ n, x ∈ pool) : PyData.strOk (spellF es n) = true := by
  by_cases hn : n = []
  · subst hn; rw [spell_nil G]; decide +kernel
  · have := words_codes G h
    rw [← spell_words G h hn] at this
    unfold PyData.strOk
    rw [← Array.all_toList]; exact this
theorem due_ok {es : List (Str × Str)} {E : Str → Str} (G : Enc es E) {g : List Str} (hg : ∀ x ∈ g, x ∈ pool) : ∀ ord : List (List Str), (∀ n ∈ ord, ∀ x ∈ n, x ∈ pool) → ∀ row ∈ dueAll es g ord, ∀ t ∈ row, PyData.strOk t = true
  | [], _, row, hr, _, _ => nomatch hr
  | m :: r, hp, row, hr, t, ht => by
    rcases List.mem_cons.mp hr with e | e
    · subst e
      obtain ⟨n, hn, rfl⟩ := List.mem_map.mp ht
      refine spell_strOk G ?_
      have hm := hp m (by simp)
      have hf : ∀ x ∈ front m g, x ∈ pool := fun x hx => hm x ((front_left m g).subset hx)
      have hd : ∀ x ∈ m.dropLast, x ∈ pool := fun x hx => hm x ((List.dropLast_prefix m).subset hx)
      simp only [dueFive, List.mem_cons, List.not_mem_nil, or_false] at hn
      rcases hn with rfl | rfl | rfl | rfl | rfl
      · exact hm
      · exact hg
      · exact hd
      · exact hf
      · unfold everyOf; split
        · exact hd
        · exact hf
    · exact due_ok G hg r (fun n hn => hp n (by simp [hn])) row e t ht
theorem law_walk (H : Base B) {a : Addr} {vs : List Value} {xs : List Int} (ha : B.h₀.IsList a (List.toArray vs)) (hv : RepL B.h₀ (xs.map .int) vs) (hx : xs.length ≤ 63) :
    WS B ⟨lawScope, true⟩ (N + 9) lawBody (locL [(Str.ofString "script", .ref a)] fun _ => none) (fun _ => none) (fun fl _ _ => fl = .ret (.bool true)) := by
  have sz := sizeLine_eq
  refine WS.cons (WX.asgComp (WIt.of (K := _) ?_ (by lia)) (by rfl) (fun env x => by rfl) (by lia) (by walk_at "sw"))
  refine WE.slice (WE.loc (by rfl) (by rfl) ?_ (by rfl))
  change WE _ _ _ _ _ _ _
  refine WE.int ⟨_, rfl, Sub.old ha, WSl.old_upto ha hv (by lia) (by simp; lia) fun s hs => ?_⟩
  have s1 : (Sto.set (fun _ => none) s (.list ((xs.map V.int).take (6 : Int).toNat))) s = some (.list ((xs.map V.int).take 6)) := Sto.set_self _ _ _
  generalize (Sto.set (fun _ => none) s (.list ((xs.map V.int).take (6 : Int).toNat))) = σ1 at s1
  rw [← List.map_take] at s1
  have zl : (xs.take 6).length ≤ 6 := by simp; lia
  have hd := draws_cell xs
  generalize hzs : xs.take 6 = zs at *
  refine ⟨_, GetIter.list s1, by show (zs.map V.int).length ≤ 1000; simp; lia, fun k out σ' => σ' = σ1 ∧ out = (zs.take k).map fun x => V.int (x.fmod 375), ⟨rfl, rfl⟩, fun k out σ' ⟨e, _⟩ => by rw [e]; exact s1, ?_, ?_⟩
  · rintro k out σ' hk ⟨rfl, rfl⟩
    have hk' : k < zs.length := by simpa using hk
    change WA _ _ _ _ ((zs.map V.int).getD k .none) _ σ' _
    rw [show (zs.map V.int).getD k .none = .int zs[k] by simp [hk']]
    refine WA.name (WN.loc (by rfl) ?_)
    change _ ∧ _
    refine ⟨fun _ => ?_, (fun q => nomatch q)⟩
    refine WE.bin (WE.loc (by rfl) (by rfl) (WE.int (W2.mod_int (by lia) ⟨rfl, ?_⟩)) (by rfl))
    rw [List.take_succ_eq_append_getElem hk', List.map_append]; rfl
  rintro out σ' ⟨rfl, rfl⟩ d hd0
  change σ' d = none at hd0
  have e1 : zs.take (zs.map V.int).length = zs := List.take_of_length_le (by simp)
  change WN _ _ _ _ _ (σ'.set d (.list ((zs.take (zs.map V.int).length).map fun x => V.int (x.fmod 375)))) _
  rw [e1, hd]
  have d1 : (σ'.set d (.list ((drawsOf xs).map fun n : Nat => V.int (n : Int)))) d = some (.list ((drawsOf xs).map fun n : Nat => V.int (n : Int))) := Sto.set_self _ _ _
  generalize (σ'.set d (.list ((drawsOf xs).map fun n : Nat => V.int (n : Int)))) = σ2 at d1
  refine WN.loc (by rfl) ?_
  walk_at "asg"
  refine WE.bin ?_
  walk_at "call"
  walk_at "nm"
  refine ⟨trivial, ?_⟩
  walk_at "arg"
  refine WE.loc (by rfl) (by rfl) ?_ (by rfl)
  have ec : ((drawsOf xs).map fun n : Nat => V.int (n : Int)) = ((drawsOf xs).map fun n : Nat => (n : Int)).map V.int := by rw [List.map_map]; rfl
  refine WL.nil (WK.nil (WC.sum_ints (xs := (drawsOf xs).map fun n : Nat => (n : Int)) (by rw [← ec]; exact d1) (draws_fit xs) ?_))
  refine WE.int (W2.mod_int (by lia) ?_)
  have ek : Int.fmod ((drawsOf xs).map fun n : Nat => (n : Int)).sum 5 = kindOf xs := rfl
  rw [ek]
  have km := kind_mem xs
  generalize kindOf xs = k at km
  have dl := draws_len xs
  generalize drawsOf xs = ns at *
  walk_at "set"
  walk_at "asg"
  walk_at "call"
  walk_at "nm"
  refine ⟨H.cal f231, ?_⟩
  walk_at "arg"
  refine WE.loc (by rfl) (by rfl) ?_ (by rfl)
  refine WL.nil (WK.nil (C231 (N := N + 7) H d1 (by lia) fun c σ3 le3 c3 => ?_))
  walk_at "set"
  have G := kind_enc km
  have pok := paths_ok ns
  have pl : (pathsOf ns).length ≤ 9 := by simp [pathsOf, always]; lia
  have pl0 : 0 < (pathsOf ns).length := by simp [pathsOf, always]
  generalize pathsOf ns = paths at *
  have laid : ∀ n ∈ paths, laidOk k slash n = true ∧ cl (laidFrom k slash n) = words (escs (rules k)) n := fun n hn => laid_first G (esc_ok k km) (pok n hn).1 (pok n hn).2.1 (by have := (pok n hn).2.2; lia)
  have lsp : ∀ n ∈ paths, laidFrom k slash n = spellF (tab k) n := fun n hn => cl_inj ((laid n hn).2.trans (spell_words G (pok n hn).1 (pok n hn).2.1).symm)
  obtain ⟨ss, sp, sw⟩ := sorted_exists (paths.map (laidFrom k slash))
  walk_at "asg"
  walk_at "call"
  walk_at "nm"
  refine ⟨H.cal f243, ?_⟩
  walk_at "arg"
  refine WE.loc (by rfl) (by rfl) ?_ (by rfl)
  walk_at "arg"
  refine WE.loc (by rfl) (by rfl) ?_ (by rfl)
  refine WL.nil (WK.nil ((C243 (N := N + 1) H c3 (by lia) (fun n hn => (laid n hn).1) (fun n hn => pathOk_words G (pok n hn).1 (pok n hn).2.1 (pok n hn).2.2 (laid n hn).2) sp sw fun t σ4 le4 t4 => ?_).room (by lia)))
  walk_at "set"
  walk_at "ret"
  refine WE.cmp (WE.loc (by rfl) (by rfl) ?_ (by rfl)) (by rfl)
  walk_at "call"
  walk_at "nm"
  refine ⟨H.cal f267, ?_⟩
  walk_at "arg"
  refine WE.loc (by rfl) (by rfl) ?_ (by rfl)
  walk_at "arg"
  walk_at "call"
  walk_at "nm"
  refine ⟨H.cal f224, ?_⟩
  walk_at "arg"
  refine WE.loc (by rfl) (by rfl) ?_ (by rfl)
  refine WL.nil (WK.nil (C224 (N := N + 8) H fun tb htb => ?_))
  have le5 : sle σ4 (σ4.set tb (.dict (tab k))) := sle.new htb
  have tb5 : (σ4.set tb (.dict (tab k))) tb = some (.dict (tab k)) := Sto.set_self _ _ _
  generalize (σ4.set tb (.dict (tab k))) = σ5 at le5 tb5
  refine WL.nil (WK.nil ((C267 (N := N + 1) H (le5 _ _ (le4 _ _ c3)) tb5 (tab_keys km) pl0 (by lia) (fun n hn j => spell_ok G (fun x hx => (pok n hn).1 x (List.mem_of_mem_take hx)) (by have := (pok n hn).2.2; rw [List.length_take]; lia)) (fun n hn g hg hle => no_prefix G (pok n hn).1 (pok g hg).1 (pok g hg).2.1 (place_kle G (pok n hn).1 (pok g hg).1 hle)) fun ord u σ6 pm pw le6 u6 => ?_).room (by lia)))
  have po : ∀ n ∈ ord, n ∈ paths := fun n hn => pm.mem_iff.mp hn
  have pw2 : ord.Pairwise fun n m => strO.kle (spellF (tab k) n) (spellF (tab k) m) := pw.imp_of_mem fun {n m} hn hm h => place_kle G (pok n (po n hn)).1 (pok m (po m hm)).1 h
  have es : ss = ord.map (laidFrom k slash) := by
    refine sorted_unique (sp.trans (pm.map _).symm) sw ?_
    rw [List.pairwise_map]
    exact pw2.imp_of_mem fun {n m} hn hm h => by rw [lsp n (po n hn), lsp m (po m hm)]; exact h
  have td : tellAll ss = dueAll (tab k) (lastN ord) ord := by
    rw [es]
    exact told_due G ord (fun n hn => (pok n (po n hn)).1) (fun n hn => (pok n (po n hn)).2.1) (fun n hn => ⟨lsp n (po n hn), (laid n (po n hn)).2⟩) pw2
  rw [← td] at u6
  have t6 := le6 _ _ (le5 _ _ t4)
  refine W2.eq_rows (xs := tellAll ss) t6 u6 ?_ (by lia) rfl
  rw [td]
  refine due_ok G (fun x hx => ?_) ord fun n hn => (pok n (po n hn)).1
  by_cases h0 : ord = []
  · subst h0; cases hx
  · exact (pok _ (po _ (List.mem_of_getElem? (lastN_get h0)))).1 x hx
end

section
theorem no_cell {ns : List (Str × NameKind)} (h : (ns.all fun p => p.2 != .cell) = true) : ∀ y, ns.lookup y ≠ some .cell := fun y q => by
  have := List.all_eq_true.mp h _ (mem_of_lookup q)
  simp at this
theorem room9 (env : Env) : Room (callerA.deeper env) (0 + 9) := ⟨rfl, by show (1 + claimMargin) + 1 + (0 + 9) < recursionLimit; decide +kernel, by show 4 + 3 + 16 * (0 + 9) < cLine; decide +kernel⟩
theorem law_start {B : Bs} {N : Nat} {A : Around} {name : Str} {scope : Scope} {body : List Stmt} {L fa a : Addr} {cd : Value} {x : Str} {s : Shared} {m : Str → Option Value} (R : Room A N) (hk : scope.kind = .function) (hc : ∀ y, scope.names.lookup y ≠ some .cell)
    (F : Fr B.h₀ L s.heap m) (hm : m x = some (.ref a)) (htk : 1 ≤ s.toks)
    (w : WS B ⟨scope, true⟩ N body (locL [(x, V.ref a)] fun _ => none) (fun _ => none) fun fl _ _ => fl = .ret (.bool true)) :
    wpAny (Md B) A (execs body (envOf name scope L fa cd)) (fun f s' => f = .ret (.bool true) ∧ (∃ h t, s' = { s with heap := h, toks := t }) ∧ ∀ b o, B.h₀.get? b = some o → s'.heap.get? b = some o) NoE s := by
  have hfresh : ∀ b, B.h₀.objs.size ≤ b → B.h₀.get? b = none := fun b hb => by
    cases q : B.h₀.get? b with
    | none => rfl
    | some o => exact absurd (Heap.lt_size q) (Nat.not_lt.mpr hb)
  have hx : ∀ y d, (locL [(x, V.ref a)] fun _ => none) y = some d → y = x ∧ d = .ref a := fun y d h => by
    have h' : (Loc.set (fun _ => none) x (.ref a)) y = some d := h
    unfold Loc.set at h'
    split at h'
    · rename_i q; exact ⟨q, (Option.some.inj h').symm⟩
    · cases h'
  let Fm : Frm := ⟨envOf name scope L fa cd, fun b => b = L⟩
  have XF : FrmOk B ⟨scope, true⟩ Fm := {
    scope := rfl
    fn := hk
    globals := rfl
    builtins := rfl
    ownL := rfl
    ownNew := fun b hb => by cases hb; exact hfresh _ F.above
    full := fun _ y a h _ => absurd h (hc y)
    apart := fun y z a h _ => nomatch h
    cex := fun y h => absurd h (hc y) }
  have OF : Ok B Fm s (locL [(x, V.ref a)] fun _ => none) (fun _ => none) := {
    s := ⟨F.keep, (fun a c e => nomatch e), (fun a c e => nomatch e), htk⟩
    ns := ⟨m, F.ns, fun y d _ hd => by
      obtain ⟨rfl, rfl⟩ := hx y d hd
      exact ⟨_, hm, rfl⟩⟩
    cl := fun y a h _ => absurd (by rw [← h, XF.kindOf]) (hc y)
    own := fun b hb => by cases hb; exact ⟨rfl, nt_ns F.ns⟩ }
  refine wpAny_mono (w.run A Fm s R XF OF) (fun f s' hp => hp.k fun fl ρ' σ' P r q => ?_) fun _ _ f => f
  subst q
  obtain ⟨v, rfl, rv⟩ := r
  cases rv
  exact ⟨rfl, P.x.same, P.o.s.keep⟩
end
section
theorem base_of {B : Bs} {K : Frag} {mg mb : Str → Option Value} (KX : K.In B.h₀) (hg : B.h₀.Ns mainGlobals mg) (hb : B.h₀.Ns builtinsNs mb) (hbb : ∀ x : Str, x ≠ "__name__" → mb x = bootBuiltins x) (lim : B.h₀.NoLimit)
    (f1 : ∀ p ∈ fnTab, ∃ doc pm an cd ct, K.lookup p.1 = some ⟨.type "function", none, .func { fnAt p.1 with doc := doc, pyModule := pm, annotations := an, code := cd, closureTuple := ct }, #[]⟩ ∧ codeIn K cd (fnAt p.1).qualname = true)
    (f2 : ∃ o n, K.lookup 205 = some o ∧ o.data = .seq #[.none] n) (f3 : ∀ p ∈ gTab, nsIn K mainGlobals p.1 = some (some (.ref p.2))) (f4 : ∀ x ∈ bTab, nsIn K mainGlobals x = some none) : Base B where
  fn := fun p hp => x5 (f1 p hp) fun doc pm an cd ct q => ⟨doc, pm, an, cd, ct, KX _ _ q.1, codeRec_of KX q.2⟩
  dflt := x2 f2 fun o n q => ⟨o, n, KX _ _ q.1, q.2⟩
  g := ⟨mg, hg, fun p hp => mg_of KX hg (f3 p hp), fun x hx => mg_none_of KX hg (f4 x hx)⟩
  b := ⟨mb, hb, hbb⟩
  lim := lim
end
section
theorem post_ok (d : WData) : PySem.Challenge.rw_ik0216_01.row.claim.post [d] (.bool true) [d] = true := by
  show (WShape.has [] (.bool true) .bool && WTm.holds [] (.eq .res (.lit (.bool true))) { args := [d], res := some (.bool true), after := [d] }) = true
  have e : W.same (.bool true) (.bool true) = true := by simp [W.same]
  have h1 : WShape.has [] (.bool true) .bool = true := by decide +kernel
  have v : WTm.value [] (.eq .res (.lit (.bool true))) { args := [d], res := some (.bool true), after := [d] } = some (.bool true) := by
    simp only [WTm.value]
    rw [e]
  rw [h1]
  unfold WTm.holds
  rw [v]
  rfl
end

end

set_option Elab.async true
theorem law_holds.tw8441880690091102137 : True := trivial
theorem law_holds.tw9423440377400516374 : True := trivial
theorem law_holds.tw1341266762083198811 : True := trivial
theorem law_holds.tw3080663235627217452 : True := trivial
theorem law_holds.tw18326849912455186884 : True := trivial
theorem law_holds.tw11027446948787134436 : True := trivial
theorem law_holds.tw14497384708736915567 : True := trivial
theorem law_holds.tw3912811242725288453 : True := trivial
theorem law_holds.tw3850375180904979519 : True := trivial
theorem law_holds.tw11625900857008200698 : True := trivial
theorem law_holds.tw15472126771306010800 : True := trivial
theorem law_holds.tw7120836010843673076 : True := trivial
theorem law_holds.tw14498155544194170393 : True := trivial
theorem law_holds.tw13154458805202713791 : True := trivial
theorem law_holds.tw14774650325386425613 : True := trivial
theorem law_holds.tw4515466672771955728 : True := trivial
theorem law_holds.tw6869992995446874880 : True := trivial
theorem law_holds.tw13932261227467638336 : True := trivial
theorem law_holds.tw5212653520564569363 : True := trivial
theorem law_holds.tw15150646450996357022 : True := trivial
theorem law_holds.tw2644310842459337959 : True := trivial
theorem law_holds.tw4030767218360268280 : True := trivial
theorem law_holds.tw11633083819707477107 : True := trivial
theorem law_holds.tw10264638600885302300 : True := trivial
theorem law_holds.tw10272582883338395289 : True := trivial
theorem law_holds.tw15448297888555860652 : True := trivial
theorem law_holds.tw18269650602155537469 : True := trivial
theorem law_holds.tw8285764192309689115 : True := trivial
theorem law_holds.tw14278440977086061073 : True := trivial
theorem law_holds.tw2856731137302751260 : True := trivial
theorem law_holds.tw10958410103948607464 : True := trivial
theorem law_holds.tw12835091436910803158 : True := trivial
theorem law_holds.tw16805829885119392726 : True := trivial
theorem law_holds.tw8785698371604719795 : True := trivial
theorem law_holds.tw5731563423909890137 : True := trivial
theorem law_holds.tw5640673133297012132 : True := trivial
theorem law_holds.tw18340598423539479173 : True := trivial
theorem law_holds.tw3186734533307500241 : True := trivial
theorem law_holds.tw10486713781251687710 : True := trivial
theorem law_holds.tw10465528174321978529 : True := trivial
theorem law_holds.tw17253903310271361901 : True := trivial
theorem law_holds.tw4889031023730116350 : True := trivial
theorem law_holds.tw11484002064277903863 : True := trivial
theorem law_holds.tw1989176631692091739 : True := trivial
theorem law_holds.tw12831907817818079685 : True := trivial
theorem law_holds.tw17713402740875732926 : True := trivial
theorem law_holds.tw4464252984393422682 : True := trivial
theorem law_holds.tw15802469936163623734 : True := trivial
theorem law_holds.tw6667284449218939238 : True := trivial
theorem law_holds.tw6896717019858035522 : True := trivial
theorem law_holds.tw4439653461905209652 : True := trivial
theorem law_holds.tw1928719863018725356 : True := trivial
theorem law_holds.tw13766487248619392586 : True := trivial
theorem law_holds.tw12889056044993165476 : True := trivial
theorem law_holds.tw3158129796062787159 : True := trivial
theorem law_holds.tw9069877914133315304 : True := trivial
theorem law_holds.tw7497986649931050792 : True := trivial
theorem law_holds.tw8191475993861738794 : True := trivial
theorem law_holds.tw15712969109560012791 : True := trivial
theorem law_holds.tw1377309892636839040 : True := trivial
theorem law_holds.tw18261290160731607033 : True := trivial
theorem law_holds.tw16098122237329998606 : True := trivial
theorem law_holds.tw14983226153234331074 : True := trivial
theorem law_holds.tw8330938851228082562 : True := trivial
theorem law_holds.tw10566571302883470556 : True := trivial
theorem law_holds.tw9529696498207198238 : True := trivial
theorem law_holds.tw9184033795430018204 : True := trivial
theorem law_holds.tw4370086069003782432 : True := trivial
theorem law_holds.tw2643271747718453845 : True := trivial
theorem law_holds.tw3910120701321347557 : True := trivial
theorem law_holds.tw1414043511812021011 : True := trivial
theorem law_holds.tw18254337876149969668 : True := trivial
theorem law_holds.tw16461882675039125421 : True := trivial
theorem law_holds.tw10024239376800412576 : True := trivial
theorem law_holds.tw5062152199769849712 : True := trivial
theorem law_holds.tw7304591109411159013 : True := trivial
theorem law_holds.tw12115171985352901274 : True := trivial
theorem law_holds.tw10188763426450519768 : True := trivial
theorem law_holds.tw11846676642670509255 : True := trivial
theorem law_holds.tw13280740594461564331 : True := trivial
theorem law_holds.tw12780804625047726367 : True := trivial
theorem law_holds.tw498061464947678834 : True := trivial
theorem law_holds.tw576407869801174206 : True := trivial
theorem law_holds.tw14390095281932903014 : True := trivial
theorem law_holds.tw9682718004065560343 : True := trivial
theorem law_holds.tw2558664710541493025 : True := trivial
theorem law_holds.tw8720880381367431298 : True := trivial
theorem law_holds.tw3850404396616230974 : True := trivial
theorem law_holds.tw4581845663705801772 : True := trivial
theorem law_holds.tw9992725586745946429 : True := trivial
theorem law_holds.tw1762888911704233025 : True := trivial
theorem law_holds.tw2503670479209048990 : True := trivial
theorem law_holds.tw3956099054510807996 : True := trivial
theorem law_holds.tw519298541982818421 : True := trivial
theorem law_holds.tw15014403891855920072 : True := trivial
theorem law_holds.tw784011647948385275 : True := trivial
theorem law_holds.tw302768837105346163 : True := trivial
theorem law_holds.tw18234560199702728603 : True := trivial
theorem law_holds.tw9255152265573255198 : True := trivial
theorem law_holds.tw665805609284650620 : True := trivial
theorem law_holds.tw12134408205421670959 : True := trivial
theorem law_holds.tw123295346585929383 : True := trivial
theorem law_holds.tw8984712037535005518 : True := trivial
theorem law_holds.tw13709617746848070560 : True := trivial
theorem law_holds.tw2387193687640843687 : True := trivial
theorem law_holds.tw8909828626151137519 : True := trivial
theorem law_holds.tw7696488724909661519 : True := trivial
theorem law_holds.tw10028117763298573888 : True := trivial
theorem law_holds.tw10371022188087798493 : True := trivial
theorem law_holds.tw1905533677188600702 : True := trivial
theorem law_holds.tw6861490101519172755 : True := trivial
theorem law_holds.tw8553002610548859549 : True := trivial
theorem law_holds.tw9168033884955339765 : True := trivial
theorem law_holds.tw12116493165278983582 : True := trivial
theorem law_holds.tw3756308257209627903 : True := trivial
theorem law_holds.tw11100686419730198450 : True := trivial
theorem law_holds.tw6776455111828631412 : True := trivial
theorem law_holds.tw15527639110640922598 : True := trivial
theorem law_holds.tw11182679623053108816 : True := trivial
theorem law_holds.tw7407239408455114201 : True := trivial
theorem law_holds.tw12626328134170644701 : True := trivial
theorem law_holds.tw1689763614830377041 : True := trivial
theorem law_holds.tw7658626208958061939 : True := trivial
theorem law_holds.tw14883556706271630602 : True := trivial
theorem law_holds.tw14988988175077273356 : True := trivial
theorem law_holds.tw11781800970755023335 : True := trivial
theorem law_holds.tw17180001009569633970 : True := trivial
theorem law_holds.tw2578278018795888234 : True := trivial
theorem law_holds.tw12303009252429188658 : True := trivial
theorem law_holds.tw15352839923633478061 : True := trivial
theorem law_holds.tw11764581739189218997 : True := trivial
theorem law_holds.tw11966672015165255308 : True := trivial
theorem law_holds.tw6911747868599837429 : True := trivial
theorem law_holds.tw6860709855171689206 : True := trivial
theorem law_holds.tw5389484754426515990 : True := trivial
theorem law_holds.tw15006436103509636135 : True := trivial
theorem law_holds.tw575232530192455986 : True := trivial
theorem law_holds.tw3253568177066640346 : True := trivial
theorem law_holds.tw9207643191828677137 : True := trivial
theorem law_holds.tw2075624079617657780 : True := trivial
theorem law_holds.tw179590077315354965 : True := trivial
theorem law_holds.tw11223184984439025696 : True := trivial
theorem law_holds.tw2136269947727277649 : True := trivial
theorem law_holds.tw8854015012368427407 : True := trivial
theorem law_holds.tw3035144380315620824 : True := trivial
theorem law_holds.tw8369274380968253667 : True := trivial
theorem law_holds.tw7408322871517469003 : True := trivial
theorem law_holds.tw8666519363043736892 : True := trivial
theorem law_holds.tw10242277825702978295 : True := trivial
theorem law_holds.tw3426384778480675251 : True := trivial
theorem law_holds.tw13431030151845061361 : True := trivial
theorem law_holds.tw14545874151571354728 : True := trivial
theorem law_holds.tw6317479115527610633 : True := trivial
theorem law_holds.tw602461330855297101 : True := trivial
theorem law_holds.tw16470317323979864763 : True := trivial
theorem law_holds.tw4614512636035447770 : True := trivial
theorem law_holds.tw17942709131360195518 : True := trivial
theorem law_holds.tw7019463264422422977 : True := trivial
theorem law_holds.tw13397297893571687751 : True := trivial
theorem law_holds.tw3366817510852727610 : True := trivial
theorem law_holds.tw8857742495270377987 : True := trivial
theorem law_holds.tw15607887362523206001 : True := trivial
theorem law_holds.tw17253691774821329096 : True := trivial
theorem law_holds.tw4593294709026258786 : True := trivial
theorem law_holds.tw2882485010973397480 : True := trivial
theorem law_holds.tw9779807473162285230 : True := trivial
theorem law_holds.tw2295933128562542503 : True := trivial
theorem law_holds.tw4916342969005030805 : True := trivial
theorem law_holds.tw2618386414584295968 : True := trivial
theorem law_holds.tw16099233806120587224 : True := trivial
theorem law_holds.tw3850334171643177529 : True := trivial
theorem law_holds.tw5875070925891386627 : True := trivial
theorem law_holds.tw12889673554181485818 : True := trivial
theorem law_holds.tw2102315897755806987 : True := trivial
theorem law_holds.tw1285599515219305098 : True := trivial
theorem law_holds.tw14828999820898988419 : True := trivial
theorem law_holds.tw4037582482628031876 : True := trivial
theorem law_holds.tw4329158554759489670 : True := trivial
theorem law_holds.tw676263390381983339 : True := trivial
theorem law_holds.tw12223724995276690173 : True := trivial
theorem law_holds.tw631266038723830076 : True := trivial
theorem law_holds.tw4992725456586698614 : True := trivial
theorem law_holds.tw724200737284857819 : True := trivial
theorem law_holds.tw11098625913536864229 : True := trivial
theorem law_holds.tw14596297492920191028 : True := trivial
theorem law_holds.tw7221428835167493151 : True := trivial
theorem law_holds.tw9288214680346807717 : True := trivial
theorem law_holds.tw1385162719727133579 : True := trivial
theorem law_holds.tw8652346329174877282 : True := trivial
theorem law_holds.tw13882729330811710610 : True := trivial
theorem law_holds.tw11347954631545130290 : True := trivial
theorem law_holds.tw17237755526102222789 : True := trivial
theorem law_holds.tw13301187468288870568 : True := trivial
theorem law_holds.tw447027507633508388 : True := trivial
theorem law_holds.tw14991590004735058009 : True := trivial
theorem law_holds.tw7820799176418779761 : True := trivial
theorem law_holds.tw783853929423858275 : True := trivial
theorem law_holds.tw7847487210294981012 : True := trivial
theorem law_holds.tw7636989558263936852 : True := trivial
theorem law_holds.tw13182730311906835528 : True := trivial
theorem law_holds.tw4503035019201841076 : True := trivial
theorem law_holds.tw8266603773606604290 : True := trivial
theorem law_holds.tw6709271908398517637 : True := trivial
theorem law_holds.tw17911580528928914924 : True := trivial
theorem law_holds.tw14571795756577361901 : True := trivial
theorem law_holds.tw15661869461025623997 : True := trivial
theorem law_holds.tw11609493526922420660 : True := trivial
theorem law_holds.tw10007947361888340627 : True := trivial
theorem law_holds.tw12476058986133298565 : True := trivial
theorem law_holds.tw718173064312146323 : True := trivial
theorem law_holds.tw8249079356659094474 : True := trivial
theorem law_holds.tw16893121556090616931 : True := trivial
theorem law_holds.tw11404014056486942332 : True := trivial
theorem law_holds.tw7356724547972884604 : True := trivial
theorem law_holds.tw15609566024721092083 : True := trivial
theorem law_holds.tw18203989763732354715 : True := trivial
theorem law_holds.tw10817052189556005596 : True := trivial
theorem law_holds.tw13220211186989608806 : True := trivial
theorem law_holds.tw16406091861079842607 : True := trivial
theorem law_holds.tw10666784280354678857 : True := trivial
theorem law_holds.tw18090433342136740992 : True := trivial
theorem law_holds.tw4273555757443719353 : True := trivial
theorem law_holds.tw6499956759230125245 : True := trivial
theorem law_holds.tw12732824653754844360 : True := trivial
theorem law_holds.tw3943428198234077543 : True := trivial
theorem law_holds.tw9875236377963488844 : True := trivial
theorem law_holds.tw13800757232730249582 : True := trivial
theorem law_holds.tw14925382992726071281 : True := trivial
theorem law_holds.tw1832781179975386347 : True := trivial
theorem law_holds.tw14289194402921355359 : True := trivial
theorem law_holds.tw4781243967656130014 : True := trivial
theorem law_holds.tw15154110283740273250 : True := trivial
theorem law_holds.tw1186782194237197914 : True := trivial
theorem law_holds.tw699380112222796084 : True := trivial
theorem law_holds.tw7910590604623066228 : True := trivial
theorem law_holds.tw9606376775287448836 : True := trivial
theorem law_holds.tw13392613628428298086 : True := trivial
theorem law_holds.tw14997073306097389879 : True := trivial
theorem law_holds.tw11097350217990362986 : True := trivial
theorem law_holds.tw6765152471904792315 : True := trivial
theorem law_holds.tw13478230802861573701 : True := trivial
theorem law_holds.tw15759456685926392790 : True := trivial
theorem law_holds.tw8835965917227929528 : True := trivial
theorem law_holds.tw12459966957829302596 : True := trivial
theorem law_holds.tw8957123355933967898 : True := trivial
theorem law_holds.tw6934448944433832347 : True := trivial
theorem law_holds.tw653560878884961445 : True := trivial
theorem law_holds.tw17027635718292003107 : True := trivial
set_option maxRecDepth 100000 in
set_option maxHeartbeats 8000000 in
theorem law_holds : PySem.Challenge.rw_ik0216_01.Holds := by
  w_on
  o_law
  k_head
  (case hw => w_witness2)
  k_go0
  all_goals (
    rename World => wd
    rename Fr _ _ _ _ => F
    rename (Frag.In _ _) => KX
    rename (Top _ _ _ _ _ _) => T
    rename (Heap.IsList _ _ _) => hL
    rename (IntsAre _ _) => hI
    rename (¬ (63 : Int) < _) => hlen
    rename (Shared.gens _ = #[]) => hgens
    have H : Base ⟨PySem.Challenge.rw_ik0216_01.row.prog, wd, _⟩ := base_of KX T.g T.b T.builtins T.nolimit
      (by repeat' first | exact List.forall_mem_nil _ | refine List.forall_mem_cons.mpr ⟨⟨_, _, _, _, _, by rfl, by rfl⟩, ?_⟩) ⟨_, _, by rfl, by rfl⟩
      (by repeat' first | exact List.forall_mem_nil _ | refine List.forall_mem_cons.mpr ⟨by rfl, ?_⟩) (by repeat' first | exact List.forall_mem_nil _ | refine List.forall_mem_cons.mpr ⟨by rfl, ?_⟩)
    refine wpAny_mono (law_start (B := ⟨PySem.Challenge.rw_ik0216_01.row.prog, _, _⟩) (N := 0 + 9) (room9 _) rfl (no_cell (by rfl)) F (by rfl) (Nat.le_add_left 1 _) (law_walk (N := 0) H hL (ints_rep hI) (by omega))) ?_ ?_
    · rintro f s' ⟨rfl, ⟨h, t, rfl⟩, hk⟩
      refine ⟨.inl ⟨.bool true, .bool true, [], rfl, fun cls => ?_, .bool true, ?_, ?_⟩, hk, rfl, hgens⟩
      · rfl
      · exact post_ok _
      · intro q; exact ⟨List.nodup_nil, fun a h => nomatch h⟩
    · intro e s' f; exact f.elim)
end Mine
end

theorem PySem.Challenge.cw_ik0216_01_holds : PySem.Challenge.rw_ik0216_01.Holds := by
  exact Mine.law_holds
