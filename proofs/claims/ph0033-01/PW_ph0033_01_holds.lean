import PyProof.Rows.All
import Wide.All
import OpenK.AllK
import Wide.FinOn
import PySem.Challenge.RW_ph0033_01
set_option linter.all false
set_option Elab.async false
set_option maxRecDepth 100000

section
open PySem PyProof.Rows
namespace Mine

/-- an object at a, outside the places that may turn -/
noncomputable def Pt (h : Heap) (av : List Addr) (a : Addr) (o : Obj) : Prop := h.get? a = some o ∧ a ∉ av

mutual
noncomputable def Rep (P : Addr → Obj → Prop) : PyData → Value → Prop
  | .none, v => v = .none
  | .bool b, v => v = .bool b
  | .int i, v => ∃ t, v = .int i t
  | .str x, v => ∃ t, v = .str x t
  | .list xs, v => ∃ a o vs n, v = .ref a ∧ P a o ∧ o.cls = .type "list" ∧ o.data = .seq vs n ∧ RepAll P xs vs.toList
  | .tuple xs, v => ∃ a o vs n, v = .ref a ∧ P a o ∧ o.cls = .type "tuple" ∧ o.data = .seq vs n ∧ RepAll P xs vs.toList
  | .dict _, _ => False
noncomputable def RepAll (P : Addr → Obj → Prop) : List PyData → List Value → Prop
  | [], vs => vs = []
  | d :: ds, vs => ∃ v r, vs = v :: r ∧ Rep P d v ∧ RepAll P ds r
end

mutual
theorem Rep.mono {P P' : Addr → Obj → Prop} (h : ∀ a o, P a o → P' a o) : ∀ (d : PyData) (v : Value), Rep P d v → Rep P' d v
  | .none, _, r => r
  | .bool _, _, r => r
  | .int _, _, r => r
  | .str _, _, r => r
  | .list xs, v, r => by
    simp only [Rep] at r ⊢
    obtain ⟨a, o, vs, n, h1, h2, h3, h4, h5⟩ := r
    exact ⟨a, o, vs, n, h1, h a o h2, h3, h4, RepAll.mono h xs _ h5⟩
  | .tuple xs, v, r => by
    simp only [Rep] at r ⊢
    obtain ⟨a, o, vs, n, h1, h2, h3, h4, h5⟩ := r
    exact ⟨a, o, vs, n, h1, h a o h2, h3, h4, RepAll.mono h xs _ h5⟩
  | .dict _, _, r => r
theorem RepAll.mono {P P' : Addr → Obj → Prop} (h : ∀ a o, P a o → P' a o) : ∀ (ds : List PyData) (vs : List Value), RepAll P ds vs → RepAll P' ds vs
  | [], _, r => r
  | d :: ds, vs, r => by
    simp only [RepAll] at r ⊢
    obtain ⟨v, w, h1, h2, h3⟩ := r
    exact ⟨v, w, h1, Rep.mono h d v h2, RepAll.mono h ds w h3⟩
end

section
variable {P : Addr → Obj → Prop}
theorem RepAll.nil : RepAll P [] [] := by simp [RepAll]
theorem RepAll.cons {d : PyData} {ds : List PyData} {v : Value} {vs : List Value} (h : Rep P d v) (r : RepAll P ds vs) : RepAll P (d :: ds) (v :: vs) := by
  simp only [RepAll]; exact ⟨v, vs, rfl, h, r⟩
theorem RepAll.length : ∀ {ds : List PyData} {vs : List Value}, RepAll P ds vs → vs.length = ds.length
  | [], _, r => by simp only [RepAll] at r; subst r; rfl
  | d :: ds, _, r => by
    simp only [RepAll] at r
    obtain ⟨v, w, rfl, _, h3⟩ := r
    simp [RepAll.length h3]
theorem RepAll.get : ∀ {ds : List PyData} {vs : List Value} {i : Nat} {d : PyData}, RepAll P ds vs → ds[i]? = some d → ∃ v, vs[i]? = some v ∧ Rep P d v
  | [], _, i, d, r, e => by simp at e
  | d' :: ds, _, 0, d, r, e => by
    simp only [RepAll] at r
    obtain ⟨v, w, rfl, h2, _⟩ := r
    simp at e; subst e
    exact ⟨v, by simp, h2⟩
  | d' :: ds, _, i + 1, d, r, e => by
    simp only [RepAll] at r
    obtain ⟨v, w, rfl, _, h3⟩ := r
    simp at e
    obtain ⟨u, hu, hr⟩ := RepAll.get h3 e
    exact ⟨u, by simpa using hu, hr⟩
theorem RepAll.of_get : ∀ {ds : List PyData} {vs : List Value}, vs.length = ds.length → (∀ (i : Nat) (d : PyData) (v : Value), ds[i]? = some d → vs[i]? = some v → Rep P d v) → RepAll P ds vs
  | [], [], _, _ => RepAll.nil
  | [], _ :: _, h, _ => by simp at h
  | _ :: _, [], h, _ => by simp at h
  | d :: ds, v :: vs, h, hg => RepAll.cons (hg 0 d v (by simp) (by simp)) (RepAll.of_get (by simpa using h) fun i d' v' h1 h2 => hg (i + 1) d' v' (by simpa using h1) (by simpa using h2))
theorem RepAll.append : ∀ {ds ds' : List PyData} {vs vs' : List Value}, RepAll P ds vs → RepAll P ds' vs' → RepAll P (ds ++ ds') (vs ++ vs')
  | [], _, _, _, r, r' => by simp only [RepAll] at r; subst r; simpa using r'
  | d :: ds, _, _, _, r, r' => by
    simp only [RepAll] at r
    obtain ⟨v, w, rfl, h2, h3⟩ := r
    exact RepAll.cons h2 (RepAll.append h3 r')
theorem RepAll.take {ds : List PyData} {vs : List Value} (r : RepAll P ds vs) (n : Nat) : RepAll P (ds.take n) (vs.take n) := by
  induction n generalizing ds vs with
  | zero => simpa using RepAll.nil
  | succ n ih =>
    cases ds with
    | nil => simp only [RepAll] at r; subst r; simpa using RepAll.nil
    | cons d ds =>
      simp only [RepAll] at r
      obtain ⟨v, w, rfl, h2, h3⟩ := r
      exact RepAll.cons h2 (ih h3)
theorem RepAll.drop {ds : List PyData} {vs : List Value} (r : RepAll P ds vs) (n : Nat) : RepAll P (ds.drop n) (vs.drop n) := by
  induction n generalizing ds vs with
  | zero => simpa using r
  | succ n ih =>
    cases ds with
    | nil => simp only [RepAll] at r; subst r; simpa using RepAll.nil
    | cons d ds =>
      simp only [RepAll] at r
      obtain ⟨v, w, rfl, h2, h3⟩ := r
      exact ih h3
end

mutual
theorem Rep.reads {h : Heap} {av : List Addr} : ∀ (d : PyData) (v : Value), Rep (Pt h av) d v → ∃ as, Reads h v d as
  | .none, _, r => by simp only [Rep] at r; subst r; exact ⟨_, .none⟩
  | .bool b, _, r => by simp only [Rep] at r; subst r; exact ⟨_, .bool b⟩
  | .int i, _, r => by simp only [Rep] at r; obtain ⟨t, rfl⟩ := r; exact ⟨_, .int i t⟩
  | .str x, _, r => by simp only [Rep] at r; obtain ⟨t, rfl⟩ := r; exact ⟨_, .str x t⟩
  | .list xs, v, r => by
    simp only [Rep] at r
    obtain ⟨a, o, vs, n, rfl, h2, h3, h4, h5⟩ := r
    obtain ⟨as, ha⟩ := RepAll.reads xs _ h5
    exact ⟨_, .list h2.1 h3 h4 ha⟩
  | .tuple xs, v, r => by
    simp only [Rep] at r
    obtain ⟨a, o, vs, n, rfl, h2, h3, h4, h5⟩ := r
    obtain ⟨as, ha⟩ := RepAll.reads xs _ h5
    exact ⟨_, .tuple h2.1 h3 h4 ha⟩
  | .dict _, _, r => by simp only [Rep] at r
theorem RepAll.reads {h : Heap} {av : List Addr} : ∀ (ds : List PyData) (vs : List Value), RepAll (Pt h av) ds vs → ∃ as, ReadsAll h vs ds as
  | [], _, r => by simp only [RepAll] at r; subst r; exact ⟨_, .nil⟩
  | d :: ds, vs, r => by
    simp only [RepAll] at r
    obtain ⟨v, w, rfl, h2, h3⟩ := r
    obtain ⟨as, ha⟩ := Rep.reads d v h2
    obtain ⟨bs, hb⟩ := RepAll.reads ds w h3
    exact ⟨_, .cons ha hb⟩
end

/-- what a run may have changed: places wr, generators gw -/
structure Mv (wr : List Addr) (gw : List Nat) (s s' : Shared) : Prop where
  heap : ∀ b o, b ∉ wr → s.heap.get? b = some o → s'.heap.get? b = some o
  gens : ∀ i g, i ∉ gw → s.gens[i]? = some g → s'.gens[i]? = some g
  bare : AllBare s.gens → AllBare s'.gens
  os : s'.os = s.os

namespace Mv
variable {wr wr' : List Addr} {gw gw' : List Nat} {s s' s'' : Shared}
theorem refl (s : Shared) : Mv wr gw s s := ⟨fun _ _ _ e => e, fun _ _ _ e => e, fun e => e, rfl⟩
theorem trans (x : Mv wr gw s s') (y : Mv wr gw s' s'') : Mv wr gw s s'' :=
  ⟨fun b o hb e => y.heap b o hb (x.heap b o hb e), fun i g hi e => y.gens i g hi (x.gens i g hi e), fun h => y.bare (x.bare h), y.os.trans x.os⟩
theorem mono (x : Mv wr gw s s') (h : ∀ b ∈ wr, b ∈ wr') (hg : ∀ b ∈ gw, b ∈ gw') : Mv wr' gw' s s' :=
  ⟨fun b o hb e => x.heap b o (fun k => hb (h b k)) e, fun i g hi e => x.gens i g (fun k => hi (hg i k)) e, x.bare, x.os⟩
theorem weak (x : Mv [] [] s s') : Mv wr gw s s' := x.mono (fun _ h => nomatch h) (fun _ h => nomatch h)
/-- only places and generators that stood at s count -/
theorem shrink (x : Mv wr gw s s') (h : ∀ b ∈ wr, b ∈ wr' ∨ s.heap.get? b = none) (hg : ∀ b ∈ gw, b ∈ gw' ∨ s.gens[b]? = none) : Mv wr' gw' s s' :=
  ⟨fun b o hb e => x.heap b o (fun k => (h b k).elim hb fun n => by rw [n] at e; cases e) e,
   fun i g hi e => x.gens i g (fun k => (hg i k).elim hi fun n => by rw [n] at e; cases e) e, x.bare, x.os⟩
theorem of_heap {h' : Heap} {tk : Nat} (hk : ∀ b o, b ∉ wr → s.heap.get? b = some o → h'.get? b = some o) : Mv wr gw s { s with heap := h', toks := tk } :=
  ⟨hk, fun _ _ _ e => e, fun e => e, rfl⟩
theorem toks {tk : Nat} : Mv wr gw s { s with toks := tk } := ⟨fun _ _ _ e => e, fun _ _ _ e => e, fun e => e, rfl⟩
theorem push (o : Obj) : Mv wr gw s { s with heap := s.heap.push o } := ⟨fun _ _ _ e => Heap.get?_push_of_some _ e, fun _ _ _ e => e, fun e => e, rfl⟩
end Mv

theorem fresh_none {h : Heap} {a : Addr} (ha : h.objs.size ≤ a) : h.get? a = none := by
  cases e : h.get? a with
  | none => rfl
  | some o => exact absurd (Heap.lt_size e) (Nat.not_lt.mpr ha)

theorem Rep.ext {h h' : Heap} {av : List Addr} {d : PyData} {v : Value} (r : Rep (Pt h av) d v) (hk : ∀ b o, b ∉ av → h.get? b = some o → h'.get? b = some o) : Rep (Pt h' av) d v :=
  Rep.mono (fun a o p => ⟨hk a o p.2 p.1, p.2⟩) d v r
theorem RepAll.ext {h h' : Heap} {av : List Addr} {d : List PyData} {v : List Value} (r : RepAll (Pt h av) d v) (hk : ∀ b o, b ∉ av → h.get? b = some o → h'.get? b = some o) : RepAll (Pt h' av) d v :=
  RepAll.mono (fun a o p => ⟨hk a o p.2 p.1, p.2⟩) d v r
/-- the avoided places: fewer, or more that stood not yet -/
theorem Rep.av {h : Heap} {av av' : List Addr} {d : PyData} {v : Value} (r : Rep (Pt h av) d v) (ha : ∀ a ∈ av', a ∈ av ∨ h.get? a = none) : Rep (Pt h av') d v :=
  Rep.mono (fun a o p => ⟨p.1, fun k => (ha a k).elim p.2 fun n => nomatch n.symm.trans p.1⟩) d v r
theorem RepAll.av {h : Heap} {av av' : List Addr} {d : List PyData} {v : List Value} (r : RepAll (Pt h av) d v) (ha : ∀ a ∈ av', a ∈ av ∨ h.get? a = none) : RepAll (Pt h av') d v :=
  RepAll.mono (fun a o p => ⟨p.1, fun k => (ha a k).elim p.2 fun n => nomatch n.symm.trans p.1⟩) d v r

theorem Rep.none {P : Addr → Obj → Prop} : Rep P .none .none := by simp [Rep]
theorem Rep.bool {P : Addr → Obj → Prop} {b : Bool} : Rep P (.bool b) (.bool b) := by simp [Rep]
theorem Rep.int {P : Addr → Obj → Prop} {i : Int} {t : Tok} : Rep P (.int i) (.int i t) := by simp [Rep]
theorem Rep.str {P : Addr → Obj → Prop} {x : Str} {t : Tok} : Rep P (.str x) (.str x t) := by simp [Rep]
theorem Rep.list {P : Addr → Obj → Prop} {a : Addr} {o : Obj} {vs : Array Value} {n : Nat} {xs : List PyData} (h : P a o) (hc : o.cls = .type "list") (hd : o.data = .seq vs n) (r : RepAll P xs vs.toList) : Rep P (.list xs) (.ref a) := by
  simp only [Rep]; exact ⟨a, o, vs, n, rfl, h, hc, hd, r⟩
theorem Rep.tuple {P : Addr → Obj → Prop} {a : Addr} {o : Obj} {vs : Array Value} {n : Nat} {xs : List PyData} (h : P a o) (hc : o.cls = .type "tuple") (hd : o.data = .seq vs n) (r : RepAll P xs vs.toList) : Rep P (.tuple xs) (.ref a) := by
  simp only [Rep]; exact ⟨a, o, vs, n, rfl, h, hc, hd, r⟩
theorem Rep.int_inv {P : Addr → Obj → Prop} {i : Int} {v : Value} (r : Rep P (.int i) v) : ∃ t, v = .int i t := by simpa [Rep] using r
theorem Rep.str_inv {P : Addr → Obj → Prop} {i : Str} {v : Value} (r : Rep P (.str i) v) : ∃ t, v = .str i t := by simpa [Rep] using r
theorem Rep.bool_inv {P : Addr → Obj → Prop} {i : Bool} {v : Value} (r : Rep P (.bool i) v) : v = .bool i := by simpa [Rep] using r
theorem Rep.none_inv {P : Addr → Obj → Prop} {v : Value} (r : Rep P .none v) : v = .none := by simpa [Rep] using r
theorem Rep.list_inv {h : Heap} {av : List Addr} {xs : List PyData} {v : Value} (r : Rep (Pt h av) (.list xs) v) : ∃ a vs, v = .ref a ∧ a ∉ av ∧ h.IsList a vs ∧ RepAll (Pt h av) xs vs.toList := by
  simp only [Rep] at r
  obtain ⟨a, o, vs, n, rfl, h2, h3, h4, h5⟩ := r
  exact ⟨a, vs, rfl, h2.2, ⟨o, h2.1, h3, n, h4⟩, h5⟩
theorem Rep.tuple_inv {h : Heap} {av : List Addr} {xs : List PyData} {v : Value} (r : Rep (Pt h av) (.tuple xs) v) : ∃ a vs, v = .ref a ∧ a ∉ av ∧ h.IsTuple a vs ∧ RepAll (Pt h av) xs vs.toList := by
  simp only [Rep] at r
  obtain ⟨a, o, vs, n, rfl, h2, h3, h4, h5⟩ := r
  exact ⟨a, vs, rfl, h2.2, ⟨o, h2.1, h3, n, h4⟩, h5⟩

end Mine
end

section
open PySem PyProof.Rows
namespace Mine

/-- the ground: the world, the heap at the law's call, its module's names -/
structure Gx where
  prog : Program
  w : World
  h0 : Heap
  mg : Str → Option Value
  mb : Str → Option Value
  g : h0.Ns mainGlobals mg
  b : h0.Ns builtinsNs mb
  lim : h0.NoLimit

noncomputable abbrev Gx.M (G : Gx) : Model := model G.prog G.w

structure Rm (n : Nat) (A : Around) : Prop where
  hh : A.handled = none
  dp : A.depth + n < recursionLimit
  un : A.units + 100 * n + 200 < cLine

theorem Rm.in1 {n : Nat} {A : Around} (h : Rm (n + 1) A) : Rm n A.in1 :=
  ⟨h.hh, by have := h.dp; show A.depth + n < _; omega, by have := h.un; show A.units + 1 + 100 * n + 200 < _; omega⟩
theorem Rm.le {n m : Nat} {A : Around} (h : Rm n A) (hm : m ≤ n) : Rm m A :=
  ⟨h.hh, by have := h.dp; omega, by have := h.un; have : 100 * m ≤ 100 * n := Nat.mul_le_mul_left _ hm; omega⟩
theorem Rm.deeper {n : Nat} {A : Around} {env : Env} (h : Rm (n + 1) A) : Rm n (A.deeper env) :=
  ⟨h.hh, by have := h.dp; show A.depth + 1 + n < _; omega, by have := h.un; show A.units + 3 + 100 * n + 200 < _; omega⟩

inductive Slot where
  | sh (d : PyData)
  | own (xs : List PyData)

noncomputable abbrev Sig := List (Str × Slot)

/-- the name x holds v -/
noncomputable def Bound (h : Heap) (env : Env) (x : Str) (v : Value) : Prop :=
  (env.kindOf x = some .local ∧ ∃ m, h.Ns env.locals m ∧ m x = some v) ∨
  ((env.kindOf x = some .cell ∨ env.kindOf x = some .free) ∧ ∃ c, env.cells.lookup x = some c ∧ h.IsCell c (some v))

noncomputable def SlotIs (h : Heap) (av : List Addr) (a : Addr) (v : Value) : Slot → Prop
  | .sh d => Rep (Pt h av) d v
  | .own xs => v = .ref a ∧ ∃ vs, h.PlainList a vs ∧ RepAll (Pt h av) xs vs.toList

structure OkE (G : Gx) (av : List Addr) (env : Env) (σ : Sig) (ad : Str → Addr) (s : Shared) : Prop where
  keep : ∀ b o, G.h0.get? b = some o → s.heap.get? b = some o
  live : ∀ a ∈ av, ∃ o, s.heap.get? a = some o
  fn : env.scope.kind = .function
  gl : env.globals = mainGlobals
  bi : env.builtins = builtinsNs
  cl : ∀ x c, env.cells.lookup x = some c → ∃ o, s.heap.get? c = some o
  vars : ∀ p ∈ σ, ∃ v, Bound s.heap env p.1 v ∧ SlotIs s.heap av (ad p.1) v p.2

theorem Bound.keeps {h h' : Heap} {env : Env} {x : Str} {v : Value} (b : Bound h env x v) (hk : ∀ b o, h.get? b = some o → h'.get? b = some o) : Bound h' env x v := by
  rcases b with ⟨h1, m, h2, h3⟩ | ⟨h1, c, h2, h3⟩
  · exact .inl ⟨h1, m, h2.keeps hk, h3⟩
  · exact .inr ⟨h1, c, h2, h3.keeps hk⟩
theorem SlotIs.keeps {h h' : Heap} {av : List Addr} {a : Addr} {v : Value} {sl : Slot} (b : SlotIs h av a v sl) (hk : ∀ b o, h.get? b = some o → h'.get? b = some o) : SlotIs h' av a v sl := by
  cases sl with
  | sh d => exact Rep.ext b fun x o _ e => hk x o e
  | own xs =>
    obtain ⟨e, vs, h1, h2⟩ := b
    exact ⟨e, vs, h1.at fun o e => hk _ o e, h2.ext fun x o _ e => hk x o e⟩
theorem OkE.mv {G : Gx} {av : List Addr} {env : Env} {σ : Sig} {ad : Str → Addr} {s s' : Shared} (h : OkE G av env σ ad s) (m : Mv [] [] s s') : OkE G av env σ ad s' :=
  have hk : ∀ b o, s.heap.get? b = some o → s'.heap.get? b = some o := fun b o e => m.heap b o (by simp) e
  ⟨fun b o e => hk b o (h.keep b o e), fun a ha => let ⟨o, e⟩ := h.live a ha; ⟨o, hk a o e⟩, h.fn, h.gl, h.bi, fun x c e => let ⟨o, e'⟩ := h.cl x c e; ⟨o, hk c o e'⟩, fun p hp => let ⟨v, h1, h2⟩ := h.vars p hp; ⟨v, h1.keeps hk, h2.keeps hk⟩⟩
theorem OkE.fresh {G : Gx} {av : List Addr} {env : Env} {σ : Sig} {ad : Str → Addr} {s : Shared} (h : OkE G av env σ ad s) {a : Addr} (ha : s.heap.objs.size ≤ a) : a ∉ av := fun k => by
  obtain ⟨o, e⟩ := h.live a k
  exact absurd (Heap.lt_size e) (Nat.not_lt.mpr ha)

/-- the strict places, or none -/
noncomputable def sel (b : Bool) (av : List Addr) : List Addr := if b = true then av else []
theorem Rep.sel {h : Heap} {b : Bool} {av : List Addr} {d : PyData} {v : Value} (r : Rep (Pt h av) d v) : Rep (Pt h (Mine.sel b av)) d v :=
  r.av fun a ha => by unfold Mine.sel at ha; split at ha <;> simp_all

/-- the expression's value -/
noncomputable def EvP (b : Bool) (G : Gx) (n : Nat) (env : Env) (σ : Sig) (e : Expr) (d : PyData) : Prop :=
  ∀ (A : Around), Rm n A → ∀ (av : List Addr) (ad : Str → Addr) (s : Shared), OkE G av env σ ad s → ∀ (E : Value → Shared → Prop),
    wpAny G.M A (eval e env) (fun v s' => Rep (Pt s'.heap (sel b av)) d v ∧ Mv [] [] s s') E s
noncomputable abbrev EvTo := EvP true
/-- the test's truth -/
noncomputable def TsTo (G : Gx) (n : Nat) (env : Env) (σ : Sig) (e : Expr) (c : Bool) : Prop :=
  ∀ (A : Around), Rm n A → ∀ (av : List Addr) (ad : Str → Addr) (s : Shared), OkE G av env σ ad s → ∀ (E : Value → Shared → Prop),
    wpAny G.M A (isTrue e env (eval e env)) (fun v s' => v = c ∧ Mv [] [] s s') E s
/-- the values of a row of arguments -/
noncomputable def EvsTo (G : Gx) (n : Nat) (env : Env) (σ : Sig) (es : List Expr) (ds : List PyData) : Prop :=
  ∀ (A : Around), Rm n A → ∀ (av : List Addr) (ad : Str → Addr) (s : Shared), OkE G av env σ ad s → ∀ (pos : Pos) (E : Value → Shared → Prop),
    wpAny G.M A (spliced (backTo pos (starEach es env))) (fun vs s' => RepAll (Pt s'.heap av) ds vs ∧ Mv [] [] s s') E s

section
variable {b : Bool} {G : Gx} {n : Nat} {env : Env} {σ : Sig}

theorem EvP.weak {e : Expr} {d : PyData} (h : EvTo G n env σ e d) : EvP b G n env σ e d := fun A hA av ad s ok E =>
  wpAny_mono (h A hA av ad s ok E) (fun _ _ ⟨r, m⟩ => ⟨Rep.sel (av := av) r, m⟩) fun _ _ x => x

noncomputable def flat : PyData → Bool
  | .none | .bool _ | .int _ | .str _ => true
  | _ => false
theorem Rep.flat {P P' : Addr → Obj → Prop} {d : PyData} {v : Value} (h : flat d = true) (r : Rep P d v) : Rep P' d v := by
  cases d <;> first | exact r | cases h
theorem EvP.up {e : Expr} {d : PyData} (h : EvP b G n env σ e d) (hf : flat d = true) : EvTo G n env σ e d := fun A hA av ad s ok E =>
  wpAny_mono (h A hA av ad s ok E) (fun _ _ ⟨r, m⟩ => ⟨Rep.flat hf r, m⟩) fun _ _ x => x
theorem EvP.level {m : Nat} {e : Expr} {d : PyData} (h : EvP b G n env σ e d) (hm : n ≤ m) : EvP b G m env σ e d := fun A hA => h A (hA.le hm)

theorem EvP.cInt {i : Int} {k : Nat} {pos : Pos} : EvP b G n env σ (.Constant (.int i) k pos) (.int i) := fun A hA av ad s ok E =>
  wpAny_Constant_int ⟨Rep.int, Mv.toks⟩
theorem EvP.cStr {x : Str} {k : Nat} {pos : Pos} : EvP b G n env σ (.Constant (.str x) k pos) (.str x) := fun A hA av ad s ok E =>
  wpAny_Constant_str ⟨Rep.str, Mv.toks⟩
theorem EvP.cBool {x : Bool} {k : Nat} {pos : Pos} : EvP b G n env σ (.Constant (.bool x) k pos) (.bool x) := fun A hA av ad s ok E =>
  wpAny_Constant_bool ⟨Rep.bool, Mv.refl s⟩
theorem EvP.cNone {k : Nat} {pos : Pos} : EvP b G n env σ (.Constant .none k pos) .none := fun A hA av ad s ok E =>
  wpAny_Constant_none ⟨Rep.none, Mv.refl s⟩

theorem Bound.load {x : Str} {v : Value} {M : Model} {A : Around} {s : Shared} {Q : Value → Shared → Prop} {E : Value → Shared → Prop} (hf : env.scope.kind = .function) (hb : Bound s.heap env x v) (h : Q v s)
    (hn : (x == ("__classdict__" : Str)) = false) : wpAny M A (loadName env x) Q E s := by
  rcases hb with ⟨h1, m, h2, h3⟩ | ⟨h1, c, h2, h3⟩
  · exact wpAny_loadName_local hf h1 h2 h3 h
  · rcases h1 with h1 | h1
    · exact wpAny_loadName_cell hf h1 h2 h3 h
    · exact wpAny_loadName_free hf h1 h2 h3 h hn

/-- a name that is none of the machine's own -/
noncomputable def okName (x : Str) : Bool := !(x == ("__debug__" : Str)) && !(x == ("__classdict__" : Str))
theorem okName.d {x : Str} (h : okName x = true) : (x == ("__debug__" : Str)) = false := by simp [okName] at h; simp [h]
theorem okName.c {x : Str} (h : okName x = true) : (x == ("__classdict__" : Str)) = false := by simp [okName] at h; simp [h]

theorem EvP.name {x : Str} {pos : Pos} {d : PyData} (hm : (x, Slot.sh d) ∈ σ) (hx : okName x = true) : EvP b G n env σ (.Name x pos) d := fun A hA av ad s ok E => by
  obtain ⟨v, hb, hs⟩ := ok.vars _ hm
  exact wpAny_Name (Bound.load ok.fn hb ⟨Rep.sel hs, Mv.refl s⟩ (okName.c hx)) (okName.d hx)
theorem EvP.nameOwn {x : Str} {pos : Pos} {xs : List PyData} (hm : (x, Slot.own xs) ∈ σ) (hx : okName x = true) : EvP false G n env σ (.Name x pos) (.list xs) := fun A hA av ad s ok E => by
  obtain ⟨v, hb, hs⟩ := ok.vars _ hm
  obtain ⟨e, vs, h1, h2⟩ := hs
  obtain ⟨k, hk⟩ := h1
  subst e
  exact wpAny_Name (Bound.load ok.fn hb ⟨Rep.list (o := _) ⟨hk, by simp [Mine.sel]⟩ rfl rfl (h2.av fun a ha => by simp [Mine.sel] at ha), Mv.refl s⟩ (okName.c hx)) (okName.d hx)

theorem EvP.ifExp {t e1 e2 : Expr} {pos : Pos} {c : Bool} {d : PyData} (ht : TsTo G n env σ t c) (h1 : c = true → EvP b G n env σ e1 d) (h2 : c = false → EvP b G n env σ e2 d) : EvP b G n env σ (.IfExp t e1 e2 pos) d := fun A hA av ad s ok E => by
  refine wpAny_IfExp (wpAny_mono (ht A hA av ad s ok E) (fun c' s' hm => ?_) fun _ _ x => x)
  obtain ⟨rfl, m⟩ := hm
  cases c' with
  | true => exact wpAny_mono (h1 rfl A hA av ad s' (ok.mv m) E) (fun _ _ ⟨r, m'⟩ => ⟨r, m.trans m'⟩) fun _ _ x => x
  | false => exact wpAny_mono (h2 rfl A hA av ad s' (ok.mv m) E) (fun _ _ ⟨r, m'⟩ => ⟨r, m.trans m'⟩) fun _ _ x => x

theorem EvsTo.nil : EvsTo G n env σ [] [] := fun A hA av ad s ok pos E => args_nil ⟨RepAll.nil, Mv.refl s⟩
theorem EvsTo.cons {e : Expr} {es : List Expr} {d : PyData} {ds : List PyData} (h : EvTo G n env σ e d) (hs : EvsTo G n env σ es ds)
    (he : starEach (e :: es) env = (false, eval e env) :: starEach es env) : EvsTo G n env σ (e :: es) (d :: ds) := fun A hA av ad s ok pos E => by
  refine args_cons (wpAny_mono (h A hA av ad s ok E) (fun v s1 hm => ?_) fun _ _ x => x) he
  obtain ⟨r, m⟩ := hm
  refine wpAny_mono (hs A hA av ad s1 (ok.mv m) pos E) (fun vs s2 hm2 => ?_) fun _ _ x => x
  obtain ⟨r2, m2⟩ := hm2
  exact ⟨RepAll.cons (Rep.ext (by simpa [Mine.sel] using r) fun x o _ e => m2.heap x o (by simp) e) r2, m.trans m2⟩

theorem EvP.disp {es : List Expr} {ds : List PyData} {pos : Pos} (h : EvsTo G n env σ es ds) (hsz : ds.length ≤ sizeLine) : EvP b G n env σ (.List es pos) (.list ds) := fun A hA av ad s ok E => by
  refine wpAny_List (wpAny_mono (h A hA av ad s ok pos E) (fun vs s1 hm => ?_) fun _ _ x => x)
  obtain ⟨r, m⟩ := hm
  refine ⟨by rw [r.length]; exact hsz, Rep.sel (Rep.list (o := { cls := .type "list", data := .seq vs.toArray }) ⟨Heap.get?_push_size _ rfl, (ok.mv m).fresh (Nat.le_refl _)⟩ rfl rfl ?_), m.trans (Mv.push _)⟩
  exact r.ext fun x o _ e => Heap.get?_push_of_some _ e
theorem EvP.tup {es : List Expr} {ds : List PyData} {k : Nat} {pos : Pos} (h : EvsTo G n env σ es ds) (hsz : ds.length ≤ sizeLine) : EvP b G n env σ (.Tuple es k pos) (.tuple ds) := fun A hA av ad s ok E => by
  refine wpAny_Tuple (wpAny_mono (h A hA av ad s ok pos E) (fun vs s1 hm => ?_) fun _ _ x => x)
  obtain ⟨r, m⟩ := hm
  refine ⟨by rw [r.length]; exact hsz, Rep.sel (Rep.tuple (o := { cls := .type "tuple", data := .seq vs.toArray }) ⟨Heap.get?_push_size _ rfl, (ok.mv m).fresh (Nat.le_refl _)⟩ rfl rfl ?_), m.trans (Mv.push _)⟩
  exact r.ext fun x o _ e => Heap.get?_push_of_some _ e
end
end Mine
end

section
open PySem PyProof.Rows
namespace Mine

inductive BinP : Operator → PyData → PyData → PyData → Prop
  | addI (a b : Int) : BinP .Add (.int a) (.int b) (.int (a + b))
  | subI (a b : Int) : BinP .Sub (.int a) (.int b) (.int (a - b))
  | mulI (a b : Int) : IntMulOk a b → BinP .Mult (.int a) (.int b) (.int (a * b))
  | divI (a b : Int) : b ≠ 0 → Builtin.divisionGoesByPylong a b = false → BinP .FloorDiv (.int a) (.int b) (.int (a.fdiv b))
  | modI (a b : Int) : b ≠ 0 → BinP .Mod (.int a) (.int b) (.int (a.fmod b))
  | powI (a n : Int) : 0 ≤ n → (Builtin.Int.intBits a : Int) * n ≤ 2 ^ 27 → BinP .Pow (.int a) (.int n) (.int (a ^ n.toNat))
  | addS (x y : Str) : x.length + y.length ≤ sizeLine → BinP .Add (.str x) (.str y) (.str (x ++ y))
  | addL (xs ys : List PyData) : xs.length + ys.length ≤ sizeLine → BinP .Add (.list xs) (.list ys) (.list (xs ++ ys))

theorem add_lists' {prog : Program} {w : World} {A : Around} {E : Value → Shared → Prop} {s : Shared} {l b : Addr} {its its2 : Array Value} {Q : Value → Shared → Prop} (hl : s.heap.IsList l its) (hb : s.heap.IsList b its2)
    (hsz : its.size + its2.size ≤ sizeLine)
    (h : Q (.ref s.heap.objs.size) { s with heap := s.heap.push { cls := .type "list", data := .seq (its ++ its2) } }) :
    wpAny (model prog w) A (binaryOp .Add (.ref l) (.ref b)) Q E s := by
  obtain ⟨⟨cls, dd, data, sl⟩, ho, hc, n, hd⟩ := id hl
  obtain ⟨⟨cls2, dd2, data2, sl2⟩, ho2, hc2, n2, hd2⟩ := id hb
  simp only at hc hd hc2 hd2
  subst hc hd hc2 hd2
  exact concat_meets ⟨_, ho, rfl⟩ ⟨_, ho2, rfl⟩ noFill_list_add seq_list_add PySem.F.slot_list_add PySem.F.entry_list_add (PySem.F.args_list_add_2 _ _) (list_addW l b its its2 n n2 dd dd2 sl sl2 hsz) ⟨ho, ho2, h⟩

theorem BinP.sound {op : Operator} {x y d : PyData} (h : BinP op x y d) {prog : Program} {w : World} {A : Around} {E : Value → Shared → Prop} {s : Shared} {av : List Addr} {u v : Value}
    (hlive : s.heap.objs.size ∉ av) (ru : Rep (Pt s.heap av) x u) (rv : Rep (Pt s.heap av) y v) :
    wpAny (model prog w) A (binaryOp op u v) (fun r s' => Rep (Pt s'.heap av) d r ∧ Mv [] [] s s') E s := by
  cases h with
  | addI a b => obtain ⟨t, rfl⟩ := ru.int_inv; obtain ⟨t', rfl⟩ := rv.int_inv; exact add_int ⟨Rep.int, Mv.toks⟩
  | subI a b => obtain ⟨t, rfl⟩ := ru.int_inv; obtain ⟨t', rfl⟩ := rv.int_inv; exact sub_int ⟨Rep.int, Mv.toks⟩
  | mulI a b hm => obtain ⟨t, rfl⟩ := ru.int_inv; obtain ⟨t', rfl⟩ := rv.int_inv; exact mul_int ⟨Rep.int, Mv.toks⟩ hm
  | divI a b h0 h1 => obtain ⟨t, rfl⟩ := ru.int_inv; obtain ⟨t', rfl⟩ := rv.int_inv; exact floordiv_int h0 ⟨Rep.int, Mv.toks⟩ (.inl h1)
  | modI a b h0 => obtain ⟨t, rfl⟩ := ru.int_inv; obtain ⟨t', rfl⟩ := rv.int_inv; exact mod_int' h0 ⟨Rep.int, Mv.toks⟩
  | powI a n h0 h1 => obtain ⟨t, rfl⟩ := ru.int_inv; obtain ⟨t', rfl⟩ := rv.int_inv; exact pow_int h0 h1 ⟨Rep.int, Mv.toks⟩
  | addS x y h0 => obtain ⟨t, rfl⟩ := ru.str_inv; obtain ⟨t', rfl⟩ := rv.str_inv; exact add_str (fun _ _ => ⟨Rep.str, Mv.toks⟩) h0
  | addL xs ys h0 =>
    obtain ⟨a, vs, rfl, ha, hl, hr⟩ := ru.list_inv
    obtain ⟨a', vs', rfl, ha', hl', hr'⟩ := rv.list_inv
    have e1 := hr.length
    have e2 := hr'.length
    rw [Array.length_toList] at e1 e2
    refine add_lists' hl hl' (by rw [e1, e2]; exact h0) ⟨Rep.list ⟨Heap.get?_push_size _ rfl, hlive⟩ rfl rfl ?_, Mv.push _⟩
    rw [Array.toList_append]
    exact (hr.append hr').ext fun x o _ e => Heap.get?_push_of_some _ e

inductive CmpP : CmpOp → PyData → PyData → Bool → Prop
  | eq (x y : PyData) : x.canLay0 = true → y.canLay0 = true → x.depth ≤ 64 → CmpP .Eq x y (PyData.eqv x y)
  | ne (x y : PyData) : x.canLay0 = true → y.canLay0 = true → x.depth ≤ 64 → CmpP .NotEq x y (!PyData.eqv x y)
  | eqI (x y : Int) : CmpP .Eq (.int x) (.int y) (x == y)
  | neI (x y : Int) : CmpP .NotEq (.int x) (.int y) (x != y)
  | eqS (x y : Str) : CmpP .Eq (.str x) (.str y) (x == y)
  | lt (x y : Int) : CmpP .Lt (.int x) (.int y) (decide (x < y))
  | le (x y : Int) : CmpP .LtE (.int x) (.int y) (decide (x ≤ y))
  | gt (x y : Int) : CmpP .Gt (.int x) (.int y) (decide (y < x))
  | ge (x y : Int) : CmpP .GtE (.int x) (.int y) (decide (y ≤ x))
  | inL (d : PyData) (xs : List PyData) : PyData.canLayAll0 xs = true → d.canLay0 = true → d.depth ≤ 64 → CmpP .In d (.list xs) (xs.any fun y => PyData.eqv y d)
  | notInL (d : PyData) (xs : List PyData) : PyData.canLayAll0 xs = true → d.canLay0 = true → d.depth ≤ 64 → CmpP .NotIn d (.list xs) (!xs.any fun y => PyData.eqv y d)
  | notInS (x y : Str) : CmpP .NotIn (.str y) (.str x) (!Txt.contains x y)
  | isNone : CmpP .Is .none .none true
  | isNoneI (i : Int) : CmpP .Is (.int i) .none false
  | isNotB (x y : Bool) : CmpP .IsNot (.bool x) (.bool y) (!(x == y))

theorem CmpP.sound {op : CmpOp} {x y : PyData} {c : Bool} (h : CmpP op x y c) {prog : Program} {w : World} {A : Around} {E : Value → Shared → Prop} {s : Shared} {av av' : List Addr} {u v : Value}
    (hu : A.units + 70 < cLine) (ru : Rep (Pt s.heap av) x u) (rv : Rep (Pt s.heap av') y v) :
    wpAny (model prog w) A (compareOp op u v) (fun r s' => r = .bool c ∧ Mv [] [] s s') E s := by
  cases h with
  | eq _ _ h1 h2 h3 =>
    obtain ⟨as, ra⟩ := Rep.reads _ _ ru
    obtain ⟨bs, rb⟩ := Rep.reads _ _ rv
    exact SeqAt.compareEq_reads ra rb h1 h2 (by have := Nat.min_le_left x.depth y.depth; omega) ⟨rfl, Mv.refl s⟩
  | ne _ _ h1 h2 h3 =>
    obtain ⟨as, ra⟩ := Rep.reads _ _ ru
    obtain ⟨bs, rb⟩ := Rep.reads _ _ rv
    exact SeqAt.compareNe_reads ra rb h1 h2 (by have := Nat.min_le_left x.depth y.depth; omega) ⟨rfl, Mv.refl s⟩
  | eqI a b => obtain ⟨t, rfl⟩ := ru.int_inv; obtain ⟨t', rfl⟩ := rv.int_inv; exact eq_int ⟨rfl, Mv.refl s⟩
  | neI a b => obtain ⟨t, rfl⟩ := ru.int_inv; obtain ⟨t', rfl⟩ := rv.int_inv; exact ne_int ⟨rfl, Mv.refl s⟩
  | eqS a b => obtain ⟨t, rfl⟩ := ru.str_inv; obtain ⟨t', rfl⟩ := rv.str_inv; exact eq_str ⟨rfl, Mv.refl s⟩
  | lt a b => obtain ⟨t, rfl⟩ := ru.int_inv; obtain ⟨t', rfl⟩ := rv.int_inv; exact lt_int ⟨rfl, Mv.refl s⟩
  | le a b => obtain ⟨t, rfl⟩ := ru.int_inv; obtain ⟨t', rfl⟩ := rv.int_inv; exact le_int ⟨rfl, Mv.refl s⟩
  | gt a b => obtain ⟨t, rfl⟩ := ru.int_inv; obtain ⟨t', rfl⟩ := rv.int_inv; exact gt_int ⟨rfl, Mv.refl s⟩
  | ge a b => obtain ⟨t, rfl⟩ := ru.int_inv; obtain ⟨t', rfl⟩ := rv.int_inv; exact ge_int ⟨rfl, Mv.refl s⟩
  | inL _ xs h1 h2 h3 =>
    obtain ⟨as, ra⟩ := Rep.reads _ _ ru
    obtain ⟨bs, rb⟩ := Rep.reads _ _ rv
    exact SeqAt.in_list_reads rb ra h1 h2 (by have := Nat.min_le_right (PyData.depthAll xs) x.depth; omega) ⟨rfl, Mv.refl s⟩
  | notInL _ xs h1 h2 h3 =>
    obtain ⟨as, ra⟩ := Rep.reads _ _ ru
    obtain ⟨bs, rb⟩ := Rep.reads _ _ rv
    exact SeqAt.notIn_list_reads rb ra h1 h2 (by have := Nat.min_le_right (PyData.depthAll xs) x.depth; omega) ⟨rfl, Mv.refl s⟩
  | notInS a b => obtain ⟨t, rfl⟩ := ru.str_inv; obtain ⟨t', rfl⟩ := rv.str_inv; exact P.notIn_str ⟨rfl, Mv.refl s⟩
  | isNone => obtain rfl := ru.none_inv; obtain rfl := rv.none_inv; exact wpAny_is_plain rfl ⟨rfl, Mv.refl s⟩
  | isNoneI i => obtain ⟨t, rfl⟩ := ru.int_inv; obtain rfl := rv.none_inv; exact wpAny_is_plain rfl ⟨rfl, Mv.refl s⟩
  | isNotB a b =>
    obtain rfl := ru.bool_inv; obtain rfl := rv.bool_inv
    exact wpAny_isNot_plain rfl ⟨by cases a <;> cases b <;> rfl, Mv.refl s⟩

section
variable {b b1 b2 : Bool} {G : Gx} {n : Nat} {env : Env} {σ : Sig}

theorem OkE.sel_fresh {av : List Addr} {ad : Str → Addr} {s : Shared} (h : OkE G av env σ ad s) : s.heap.objs.size ∉ sel b av := fun k => by
  unfold sel at k
  split at k
  · exact h.fresh (Nat.le_refl _) k
  · cases k

theorem EvP.bin {l r : Expr} {op : Operator} {pos : Pos} {x y d : PyData} (hl : EvP b G n env σ l x) (hr : EvP b G n env σ r y) (h : BinP op x y d) : EvP b G n env σ (.BinOp l op r pos) d := fun A hA av ad s ok E => by
  refine wpAny_BinOp (wpAny_mono (hl A hA av ad s ok E) (fun u s1 h1 => ?_) fun _ _ x => x)
  refine wpAny_mono (hr A hA av ad s1 (ok.mv h1.2) E) (fun v s2 h2 => ?_) fun _ _ x => x
  refine wpAny_mono (h.sound ((ok.mv h1.2).mv h2.2).sel_fresh (h1.1.ext fun x o _ e => h2.2.heap x o (by simp) e) h2.1) (fun r s3 h3 => ⟨h3.1, (h1.2.trans h2.2).trans h3.2⟩) fun _ _ x => x

theorem EvP.neg {e : Expr} {pos : Pos} {i : Int} (h : EvP b G n env σ e (.int i)) : EvP b G n env σ (.UnaryOp .USub e pos) (.int (-i)) := fun A hA av ad s ok E => by
  refine wpAny_UnaryOp (wpAny_mono (h A hA av ad s ok E) (fun u s1 h1 => ?_) fun _ _ x => x)
  obtain ⟨r, m⟩ := h1
  obtain ⟨t, rfl⟩ := r.int_inv
  exact neg_int ⟨Rep.int, m.trans Mv.toks⟩

theorem EvP.cmp {l r : Expr} {op : CmpOp} {pos : Pos} {x y : PyData} {c : Bool} (hl : EvP b1 G n env σ l x) (hr : EvP b2 G n env σ r y) (h : CmpP op x y c)
    (hm : behindInMarks op r = false) : EvP b G n env σ (.Compare l [op] [r] pos) (.bool c) := fun A hA av ad s ok E => by
  refine wpAny_Compare1 (wpAny_mono (hl A hA av ad s ok E) (fun u s1 h1 => ?_) fun _ _ x => x) hm
  refine wpAny_mono (hr A hA av ad s1 (ok.mv h1.2) E) (fun v s2 h2 => ?_) fun _ _ x => x
  refine wpAny_mono (h.sound (by have := hA.un; omega) (h1.1.ext fun x o _ e => h2.2.heap x o (by simp) e) h2.1) (fun r s3 h3 => ?_) fun _ _ x => x
  obtain ⟨rfl, m3⟩ := h3
  exact ⟨Rep.bool, (h1.2.trans h2.2).trans m3⟩

theorem TsTo.cmp {l r : Expr} {op : CmpOp} {pos : Pos} {x y : PyData} {c : Bool} (hl : EvP b1 G n env σ l x) (hr : EvP b2 G n env σ r y) (h : CmpP op x y c)
    (hm : behindInMarks op r = false) : TsTo G n env σ (.Compare l [op] [r] pos) c := fun A hA av ad s ok E => by
  refine wpAny_isTrue_Compare1 (wpAny_mono (hl A hA av ad s ok E) (fun u s1 h1 => ?_) fun _ _ x => x) hm
  refine wpAny_mono (hr A hA av ad s1 (ok.mv h1.2) E) (fun v s2 h2 => ?_) fun _ _ x => x
  refine wpAny_mono (h.sound (by have := hA.un; omega) (h1.1.ext fun x o _ e => h2.2.heap x o (by simp) e) h2.1) (fun r s3 h3 => ?_) fun _ _ x => x
  obtain ⟨rfl, m3⟩ := h3
  exact wpAny_truthy_bool ⟨rfl, (h1.2.trans h2.2).trans m3⟩

theorem TsTo.val {e : Expr} {c : Bool} (h : EvP b G n env σ e (.bool c))
    (he : ∀ whole, isTrue e env whole = (do let v ← whole; standAt e.pos; holding [v] (truthy v))) : TsTo G n env σ e c := fun A hA av ad s ok E => by
  refine wpAny_isTrue_value (wpAny_mono (h A hA av ad s ok E) (fun u s1 h1 => ?_) fun _ _ x => x) (he _)
  obtain ⟨r, m⟩ := h1
  obtain rfl := r.bool_inv
  exact wpAny_truthy_bool ⟨rfl, m⟩

theorem TsTo.and {e1 e2 : Expr} {pos : Pos} {c1 c2 : Bool} (h1 : TsTo G n env σ e1 c1) (h2 : c1 = true → TsTo G n env σ e2 c2) : TsTo G n env σ (.BoolOp .And [e1, e2] pos) (c1 && c2) := fun A hA av ad s ok E => by
  refine wpAny_isTrue_BoolOp (wpAny_allTrue_And_cons (wpAny_mono (h1 A hA av ad s ok E) (fun c s1 hm => ?_) fun _ _ x => x))
  obtain ⟨rfl, m⟩ := hm
  cases c with
  | false => exact ⟨rfl, m⟩
  | true =>
    refine wpAny_allTrue_And_cons (wpAny_mono (h2 rfl A hA av ad s1 (ok.mv m) E) (fun c s2 hm2 => ?_) fun _ _ x => x)
    obtain ⟨rfl, m2⟩ := hm2
    cases c with
    | false => exact ⟨rfl, m.trans m2⟩
    | true => exact wpAny_allTrue_And_nil ⟨rfl, m.trans m2⟩
theorem TsTo.or {e1 e2 : Expr} {pos : Pos} {c1 c2 : Bool} (h1 : TsTo G n env σ e1 c1) (h2 : c1 = false → TsTo G n env σ e2 c2) : TsTo G n env σ (.BoolOp .Or [e1, e2] pos) (c1 || c2) := fun A hA av ad s ok E => by
  refine wpAny_isTrue_BoolOp (wpAny_allTrue_Or_cons (wpAny_mono (h1 A hA av ad s ok E) (fun c s1 hm => ?_) fun _ _ x => x))
  obtain ⟨rfl, m⟩ := hm
  cases c with
  | true => exact ⟨rfl, m⟩
  | false =>
    refine wpAny_allTrue_Or_cons (wpAny_mono (h2 rfl A hA av ad s1 (ok.mv m) E) (fun c s2 hm2 => ?_) fun _ _ x => x)
    obtain ⟨rfl, m2⟩ := hm2
    cases c with
    | true => exact ⟨rfl, m.trans m2⟩
    | false => exact wpAny_allTrue_Or_nil ⟨rfl, m.trans m2⟩
theorem EvP.and {e1 e2 : Expr} {pos : Pos} {c1 c2 : Bool} (h1 : EvP b1 G n env σ e1 (.bool c1)) (h2 : c1 = true → EvP b2 G n env σ e2 (.bool c2)) : EvP b G n env σ (.BoolOp .And [e1, e2] pos) (.bool (c1 && c2)) := fun A hA av ad s ok E => by
  refine wpAny_And2 (wpAny_mono (h1 A hA av ad s ok E) (fun u s1 hm => ?_) fun _ _ x => x)
  obtain ⟨r, m⟩ := hm
  obtain rfl := r.bool_inv
  refine wpAny_truthy_bool ?_
  cases c1 with
  | false => exact ⟨Rep.bool, m⟩
  | true =>
    refine wpAny_mono (h2 rfl A hA av ad s1 (ok.mv m) E) (fun v s2 hm2 => ?_) fun _ _ x => x
    obtain ⟨r2, m2⟩ := hm2
    obtain rfl := r2.bool_inv
    exact ⟨Rep.bool, m.trans m2⟩

/-- a name of the module's or a built-in one, a value -/
noncomputable def GlobIs (G : Gx) (x : Str) (v : Value) : Prop := G.mg x = some v ∨ (G.mg x = none ∧ G.mb x = some v)
theorem wpAny_globName {x : Str} {pos : Pos} {v : Value} {A : Around} {av : List Addr} {ad : Str → Addr} {s : Shared} {E : Value → Shared → Prop} {Q : Value → Shared → Prop} (ok : OkE G av env σ ad s)
    (hk : env.kindOf x = some .globalImplicit) (hv : GlobIs G x v) (hx : okName x = true) (h : Q v s) : wpAny G.M A (eval (.Name x pos) env) Q E s := by
  refine Calls.Name_function_global ok.fn hk ?_ (okName.d hx)
  rcases hv with hv | ⟨h1, h2⟩
  · exact Calls.loadGlobal_global (by rw [ok.gl]; exact G.g.keeps ok.keep) hv h
  · exact Calls.loadGlobal_builtin (by rw [ok.gl]; exact G.g.keeps ok.keep) h1 (by rw [ok.bi]; exact G.b.keeps ok.keep) h2 h
theorem EvP.globInt {x : Str} {pos : Pos} {i : Int} {t : Tok} (hk : env.kindOf x = some .globalImplicit) (hv : GlobIs G x (.int i t)) (hx : okName x = true) : EvP b G n env σ (.Name x pos) (.int i) := fun A hA av ad s ok E =>
  wpAny_globName ok hk hv hx ⟨Rep.int, Mv.refl s⟩

/-- a built-in function called with plain values -/
noncomputable def BuiltTo (G : Gx) (id : String) (ds : List PyData) (d : PyData) : Prop :=
  ∀ (A : Around), Rm 0 A → ∀ (av : List Addr) (s : Shared) (vs : List Value), s.heap.objs.size ∉ av → (∀ a ∈ av, ∃ o, s.heap.get? a = some o) → RepAll (Pt s.heap av) ds vs → ∀ (E : Value → Shared → Prop),
    wpAny G.M A (call (.builtin id) vs) (fun v s' => Rep (Pt s'.heap av) d v ∧ Mv [] [] s s') E s

theorem EvP.built {f : Str} {id : String} {np pos : Pos} {e : Expr} {es : List Expr} {ds : List PyData} {d : PyData} (hk : env.kindOf f = some .globalImplicit) (hv : GlobIs G f (.builtin id)) (hx : okName f = true)
    (hs : EvsTo G n env σ (e :: es) ds) (h : BuiltTo G id ds d) (he : starEach (e :: es) env = (false, eval e env) :: starEach es env) (hp : (backTo pos (starEach es env)).any (·.1) = false) :
    EvP b G n env σ (.Call (.Name f np) (e :: es) [] pos) d := fun A hA av ad s ok E => by
  refine Call_ (wpAny_globName ok hk hv hx (callWith_builtin1 (wpAny_mono (hs A hA av ad s ok pos E) (fun vs s1 h1 => ?_) fun _ _ x => x) he hp)) rfl
  have ok1 := ok.mv h1.2
  exact wpAny_mono (h A (hA.le (Nat.zero_le _)) av s1 vs (ok1.fresh (Nat.le_refl _)) ok1.live h1.1 E) (fun v s2 h2 => ⟨Rep.sel h2.1, h1.2.trans h2.2⟩) fun _ _ x => x

/-- one argument, a list that may be turned later -/
theorem EvP.built1 {f : Str} {id : String} {np pos : Pos} {e : Expr} {x d : PyData} (hk : env.kindOf f = some .globalImplicit) (hv : GlobIs G f (.builtin id)) (hx : okName f = true)
    (hs : EvP b1 G n env σ e x) (h : BuiltTo G id [x] d) (hf : flat d = true) (he : starEach [e] env = [(false, eval e env)]) :
    EvP b G n env σ (.Call (.Name f np) [e] [] pos) d := fun A hA av ad s ok E => by
  refine Call_ (wpAny_globName ok hk hv hx (callWith_builtin1 (args_cons (wpAny_mono (hs A hA av ad s ok E) (fun v s1 h1 => ?_) fun _ _ x => x) he) he (by rfl))) rfl
  refine args_nil ?_
  have ok1 := ok.mv h1.2
  exact wpAny_mono (h A (hA.le (Nat.zero_le _)) (sel b1 av) s1 [v] ok1.sel_fresh (fun a ha => ok1.live a (by unfold sel at ha; split at ha <;> simp_all)) (RepAll.cons h1.1 RepAll.nil) E) (fun v s2 h2 => ⟨Rep.flat hf h2.1, h1.2.trans h2.2⟩) fun _ _ x => x
end
end Mine
end

section
open PySem PyProof.Rows
namespace Mine

theorem RepAll.ints {P : Addr → Obj → Prop} : ∀ {ns : List Int} {vs : List Value}, RepAll P (ns.map PyData.int) vs → IntsAre vs ns
  | [], _, r => by simp only [List.map_nil, RepAll] at r; subst r; exact .nil
  | n :: ns, _, r => by
    simp only [List.map_cons, RepAll] at r
    obtain ⟨v, w, rfl, h2, h3⟩ := r
    obtain ⟨t, rfl⟩ := h2.int_inv
    exact .cons n t (RepAll.ints h3)
theorem RepAll.of_ints {P : Addr → Obj → Prop} : ∀ {ns : List Int} {vs : List Value}, IntsAre vs ns → RepAll P (ns.map PyData.int) vs
  | _, _, .nil => RepAll.nil
  | _, _, .cons n t h => RepAll.cons Rep.int (RepAll.of_ints h)

section
variable {G : Gx}
theorem BuiltTo.lenL {xs : List PyData} (h : xs.length ≤ sizeLine) : BuiltTo G "len" [.list xs] (.int xs.length) := fun A hA av s vs hf hl r E => by
  simp only [RepAll] at r
  obtain ⟨v, w, rfl, h2, rfl⟩ := r
  obtain ⟨a, items, rfl, ha, hl, hr⟩ := h2.list_inv
  have e := hr.length
  rw [Array.length_toList] at e
  refine len_list hl (by rw [e]; simp only [sizeLine] at h; omega) ⟨?_, Mv.toks⟩
  rw [e]; exact Rep.int
theorem BuiltTo.lenS {x : Str} (h : x.length ≤ sizeLine) : BuiltTo G "len" [.str x] (.int x.length) := fun A hA av s vs hf hl r E => by
  simp only [RepAll] at r
  obtain ⟨v, w, rfl, h2, rfl⟩ := r
  obtain ⟨t, rfl⟩ := h2.str_inv
  exact len_str (by simp only [sizeLine] at h; omega) ⟨Rep.int, Mv.toks⟩
theorem BuiltTo.max2 {a b : Int} : BuiltTo G "max" [.int a, .int b] (.int (max a b)) := fun A hA av s vs hf hl r E => by
  simp only [RepAll] at r
  obtain ⟨v, w, rfl, h2, v', w', rfl, h2', rfl⟩ := r
  obtain ⟨t, rfl⟩ := h2.int_inv
  obtain ⟨u, rfl⟩ := h2'.int_inv
  refine max_two_ints hA.hh fun h' tk hk => ⟨?_, Mv.of_heap fun x o _ e => hk x o e⟩
  by_cases c : b > a
  · rw [if_pos c, show max a b = b by omega]; exact Rep.int
  · rw [if_neg c, show max a b = a by omega]; exact Rep.int
theorem BuiltTo.min2 {a b : Int} : BuiltTo G "min" [.int a, .int b] (.int (min a b)) := fun A hA av s vs hf hl r E => by
  simp only [RepAll] at r
  obtain ⟨v, w, rfl, h2, v', w', rfl, h2', rfl⟩ := r
  obtain ⟨t, rfl⟩ := h2.int_inv
  obtain ⟨u, rfl⟩ := h2'.int_inv
  refine min_two_ints hA.hh fun h' tk hk => ⟨?_, Mv.of_heap fun x o _ e => hk x o e⟩
  by_cases c : b < a
  · rw [if_pos c, show min a b = b by omega]; exact Rep.int
  · rw [if_neg c, show min a b = a by omega]; exact Rep.int
theorem BuiltTo.min3 {a b c : Int} : BuiltTo G "min" [.int a, .int b, .int c] (.int (min (min a b) c)) := fun A hA av s vs hf hl r E => by
  simp only [RepAll] at r
  obtain ⟨v, w, rfl, h2, v', w', rfl, h2', v'', w'', rfl, h2'', rfl⟩ := r
  obtain ⟨t, rfl⟩ := h2.int_inv
  obtain ⟨u, rfl⟩ := h2'.int_inv
  obtain ⟨x, rfl⟩ := h2''.int_inv
  refine min_three_ints hA.hh fun h' tk hk => ⟨?_, Mv.of_heap fun x o _ e => hk x o e⟩
  by_cases c1 : b < a
  · rw [if_pos c1]
    by_cases c2 : c < b
    · rw [if_pos c2, show min (min a b) c = c by omega]; exact Rep.int
    · rw [if_neg c2, show min (min a b) c = b by omega]; exact Rep.int
  · rw [if_neg c1]
    by_cases c2 : c < a
    · rw [if_pos c2, show min (min a b) c = c by omega]; exact Rep.int
    · rw [if_neg c2, show min (min a b) c = a by omega]; exact Rep.int
theorem BuiltTo.sum {ns : List Int} : BuiltTo G "sum" [.list (ns.map .int)] (.int ns.sum) := fun A hA av s vs hf hl r E => by
  simp only [RepAll] at r
  obtain ⟨v, w, rfl, h2, rfl⟩ := r
  obtain ⟨l, items, rfl, ha, hl, hr⟩ := h2.list_inv
  have hi : IntsAre items.toList ns := hr.ints
  obtain ⟨xs, hx⟩ := hi.allInts.items
  rw [Array.toArray_toList] at hx
  have hl' : s.heap.IsList l (intItems xs) := hx ▸ hl
  refine sum_intListG hA.hh hl' fun h' tk t' hk => ⟨?_, Mv.of_heap fun x o _ e => hk x o e⟩
  have e1 : ns = xs.toList.map (·.1) := by
    rw [← nums_intItems, ← hx]
    exact (show numsOf items.toList = ns from hi.numsOf).symm
  have e2 : preSum (numAt xs) xs.size = ns.sum := by
    rw [preSum_eq, List.take_of_length_le (by simp), e1]
  rw [e2]; exact Rep.int
/-- the sorted row, told by its order -/
theorem perm_sorted_eq : ∀ {xs ys : List Int}, xs.Perm ys → xs.Pairwise (· ≤ ·) → ys.Pairwise (· ≤ ·) → xs = ys := fun h h1 h2 => h.eq_of_pairwise (fun a b _ _ h1 h2 => Int.le_antisymm h1 h2) h1 h2
theorem BuiltTo.sorted {ns ms : List Int} (h64 : ns.length < 64) (hp : ms.Perm ns) (ho : ms.Pairwise (· ≤ ·)) : BuiltTo G "sorted" [.list (ns.map .int)] (.list (ms.map .int)) := fun A hA av s vs hf hlv r E => by
  simp only [RepAll] at r
  obtain ⟨v, w, rfl, h2, rfl⟩ := r
  obtain ⟨l, items, rfl, ha, hl, hr⟩ := h2.list_inv
  have hi : IntsAre items.toList ns := hr.ints
  refine sorted_ints (vs := items.toList) (by rw [Array.toArray_toList]; exact hl) hi (by rw [hi.length]; exact h64) fun out ns' a1 a2 a3 => ?_
  obtain ⟨e, he⟩ := sortedAll_at s.heap items.toList out
  have : ns' = ms := perm_sorted_eq (a2.trans hp.symm) a3 ho
  subst this
  have hav : s.heap.objs.size + 1 ∉ av := fun k => by
    obtain ⟨o, eo⟩ := hlv _ k
    exact absurd (Heap.lt_size eo) (Nat.not_lt.mpr (Nat.le_succ _))
  exact ⟨Rep.list ⟨he, hav⟩ rfl rfl (RepAll.of_ints a1), ⟨fun x o _ e => sortedAll_old e, fun _ _ _ e => e, fun e => e, rfl⟩⟩

theorem strs_of {P : Addr → Obj → Prop} : ∀ {ss : List Str} {vs : List Value}, RepAll P (ss.map PyData.str) vs → ∃ l : List (Str × Tok), vs = strValues l ∧ l.map (·.1) = ss
  | [], _, r => by simp only [List.map_nil, RepAll] at r; subst r; exact ⟨[], rfl, rfl⟩
  | n :: ns, _, r => by
    simp only [List.map_cons, RepAll] at r
    obtain ⟨v, w, rfl, h2, h3⟩ := r
    obtain ⟨t, rfl⟩ := h2.str_inv
    obtain ⟨l, rfl, rfl⟩ := strs_of h3
    exact ⟨(n, t) :: l, rfl, rfl⟩
/-- pieces glued by nothing -/
noncomputable def gl (ss : List Str) : Str := ⟨(ss.map fun x => x.cps.toList).flatten.toArray⟩
theorem glued_gl (ss : List Str) : Builtin.Str.glued (Str.ofString "") ss = gl ss := by
  have e : (Str.ofString "").cps = #[] := by decide +kernel
  unfold Builtin.Str.glued gl
  rw [e]
  congr 1
  cases ss with
  | nil => rfl
  | cons s r =>
    simp only [List.drop_succ_cons, List.drop_zero, List.headD_cons, Array.append_empty]
    have : ∀ (r : List Str) (acc : Array Nat), (r.foldl (fun acc p => acc ++ p.cps) acc) = (acc.toList ++ (r.map fun x => x.cps.toList).flatten).toArray := by
      intro r
      induction r with
      | nil => intro acc; simp
      | cons x r ih => intro acc; rw [List.foldl_cons, ih]; simp
    rw [this]
    simp
theorem gl_one (x : Str) : gl [x] = x := by unfold gl; simp
theorem join_sound {prog : Program} {w : World} {A : Around} {E : Value → Shared → Prop} {s : Shared} {av : List Addr} {t : Tok} {ss : List Str} {v : Value} (hsz : (gl ss).length ≤ sizeLine) (hl : Builtin.Str.tooLong (ss.toArray.foldl (· + ·.length + (Str.ofString "").length) 0) = false)
    (r : Rep (Pt s.heap av) (.list (ss.map .str)) v) : wpAny (model prog w) A (call (.builtin "str.join") [.str (Str.ofString "") t, v]) (fun v s' => Rep (Pt s'.heap av) (.str (gl ss)) v ∧ Mv [] [] s s') E s := by
  obtain ⟨a, items, rfl, ha, hli, hr⟩ := r.list_inv
  obtain ⟨l, e1, rfl⟩ := strs_of hr
  refine call_meets F.slot_str_join (typeIs_str s _ t) F.entry_str_join (F.args_str_join_2 _ _) (meets_str_join_list _ t a l hl) ⟨by rw [← e1]; simpa using hli, ?_⟩
  unfold joinMade
  split
  · rename_i p
    rw [List.map_cons, List.map_nil, gl_one]
    exact ⟨Rep.str, Mv.refl s⟩
  · rw [glued_gl]
    exact ⟨hsz, Rep.str, Mv.toks⟩
end

section
variable {b b1 b2 : Bool} {G : Gx} {n : Nat} {env : Env} {σ : Sig}
theorem EvP.join {e : Expr} {k : Nat} {cp apos pos : Pos} {ss : List Str} (he : EvP b1 G n env σ e (.list (ss.map .str))) (hsz : (gl ss).length ≤ sizeLine) (hl : Builtin.Str.tooLong (ss.toArray.foldl (· + ·.length + (Str.ofString "").length) 0) = false)
    (hline : (apos.endLine == pos.line) = true) (htrees : backTo pos (starEach [e] env) = [(false, eval e env)])
    (hbase : attributeBase (.Constant (.str (Str.ofString "")) k cp) (Str.ofString "join") env (eval (.Constant (.str (Str.ofString "")) k cp) env) = eval (.Constant (.str (Str.ofString "")) k cp) env) :
    EvP b G n env σ (.Call (.Attribute (.Constant (.str (Str.ofString "")) k cp) (Str.ofString "join") apos) [e] [] pos) (.str (gl ss)) := fun A hA av ad s ok E => by
  refine wpAny_Call_method1_late hbase hline htrees (wpAny_Constant_str ?_)
  refine ⟨"str", "str.join", F.plainAttrs_str, F.slot_str_join, F.type_str_join, typeIs_str _ _ _, by simp, ?_⟩
  refine Calls.callWith_builtin (by rfl) (Calls.evalArgs_plain (Calls.spliced_cons (wpAny_mono (he A hA av ad _ (ok.mv Mv.toks) E) (fun v s1 h1 => Calls.spliced_nil ?_) fun _ _ x => x)))
  exact wpAny_mono (join_sound hsz hl h1.1) (fun v s2 h2 => ⟨Rep.flat rfl h2.1, (Mv.toks.trans h1.2).trans h2.2⟩) fun _ _ x => x
end
end Mine
end

section
open PySem PyProof.Rows
namespace Mine

section
variable {b b1 b2 : Bool} {G : Gx} {n : Nat} {env : Env} {σ : Sig}

theorem EvP.item {value slice : Expr} {pos : Pos} {xs : List PyData} {k : Int} {d : PyData} (hv : EvP b G n env σ value (.list xs)) (hi : EvP b1 G n env σ slice (.int k))
    (h0 : 0 ≤ k) (hf : k < 2 ^ 63) (hx : xs[k.toNat]? = some d) (hs : ∀ o i, subscripted slice false o i = operate [o, i] (getItem o i)) : EvP b G n env σ (.Subscript value slice pos) d := fun A hA av ad s ok E => by
  refine Subscript_ (wpAny_mono (hv A hA av ad s ok E) (fun o s1 h1 => ?_) fun _ _ x => x)
  refine wpAny_mono (hi A hA av ad s1 (ok.mv h1.2) E) (fun i s2 h2 => ?_) fun _ _ x => x
  obtain ⟨t, rfl⟩ := h2.1.int_inv
  obtain ⟨a, items, rfl, ha, hl, hr⟩ := (h1.1.ext (h' := s2.heap) fun x o _ e => h2.2.heap x o (by simp) e).list_inv
  obtain ⟨v, e1, r⟩ := hr.get hx
  refine tail_any hl.typeIs slot_list_getitem.lookup (wpAny_getItem_list hl h0 hf (by simpa using e1) ⟨r, h1.2.trans h2.2⟩) (hs _ _)
theorem EvP.itemNeg {value slice : Expr} {pos : Pos} {xs : List PyData} {k : Int} {d : PyData} (hv : EvP b G n env σ value (.list xs)) (hi : EvP b1 G n env σ slice (.int k))
    (h0 : k < 0) (h1 : -(xs.length : Int) ≤ k) (hf : -(2 ^ 63) ≤ k) (hx : xs[(k + xs.length).toNat]? = some d) (hs : ∀ o i, subscripted slice false o i = operate [o, i] (getItem o i)) : EvP b G n env σ (.Subscript value slice pos) d := fun A hA av ad s ok E => by
  refine Subscript_ (wpAny_mono (hv A hA av ad s ok E) (fun o s1 g1 => ?_) fun _ _ x => x)
  refine wpAny_mono (hi A hA av ad s1 (ok.mv g1.2) E) (fun i s2 g2 => ?_) fun _ _ x => x
  obtain ⟨t, rfl⟩ := g2.1.int_inv
  obtain ⟨a, items, rfl, ha, hl, hr⟩ := (g1.1.ext (h' := s2.heap) fun x o _ e => g2.2.heap x o (by simp) e).list_inv
  obtain ⟨v, e1, r⟩ := hr.get hx
  have e2 := hr.length
  rw [Array.length_toList] at e2
  refine tail_any hl.typeIs slot_list_getitem.lookup (wpAny_getItem_list_neg hl h0 (by rw [e2]; exact h1) hf (by rw [e2]; simpa using e1) ⟨r, g1.2.trans g2.2⟩) (hs _ _)

theorem EvP.upto {value e : Expr} {sp pos : Pos} {xs : List PyData} {k : Int} (hv : EvP b G n env σ value (.list xs)) (hi : EvP b1 G n env σ e (.int k)) (h0 : 0 ≤ k) (hsz : xs.length ≤ sizeLine)
    (hs : ∀ o i, subscripted (.Slice none (some e) none sp) false o i = operate [i, o] (getItem o i)) : EvP b G n env σ (.Subscript value (.Slice none (some e) none sp) pos) (.list (xs.take k.toNat)) := fun A hA av ad s ok E => by
  refine Subscript_ (wpAny_mono (hv A hA av ad s ok E) (fun o s1 g1 => ?_) fun _ _ x => x)
  refine wpAny_Slice (wpAny_evalPart_none (wpAny_evalPart_some (wpAny_mono (hi A hA av ad s1 (ok.mv g1.2) E) (fun i s2 g2 => wpAny_evalPart_none ?_) fun _ _ x => x)))
  obtain ⟨t, rfl⟩ := g2.1.int_inv
  have ok2 := (ok.mv g1.2).mv g2.2
  obtain ⟨a, items, rfl, ha, hl, hr⟩ := (g1.1.ext (h' := s2.heap) fun x o _ e => g2.2.heap x o (by simp) e).list_inv
  have e2 := hr.length
  rw [Array.length_toList] at e2
  have hk : ((k.toNat : Nat) : Int) = k := Int.toNat_of_nonneg h0
  refine tail_any (hl.push _).typeIs slot_list_getitem.lookup (wpAny_getItem_list_slice (hsz := by rw [e2]; exact hsz) (hl.push _) ⟨_, Heap.get?_push_size _ rfl, rfl, rfl⟩ .none (.int k t) .none (by simp) ?_) (hs _ _)
  refine ⟨Rep.list ⟨Heap.get?_push_size _ rfl, ?_⟩ rfl rfl ?_, (g1.2.trans g2.2).trans ((Mv.push _).trans (Mv.push _))⟩
  · rw [Heap.size_push]
    intro hm
    unfold sel at hm
    split at hm
    · exact ok2.fresh (Nat.le_succ _) hm
    · cases hm
  · rw [← hk, slicePick_upto', List.toList_toArray]
    exact (hr.take _).ext fun x o _ e => Heap.get?_push_of_some _ (Heap.get?_push_of_some _ e)
theorem EvP.from {value e : Expr} {sp pos : Pos} {xs : List PyData} {k : Int} (hv : EvP b G n env σ value (.list xs)) (hi : EvP b1 G n env σ e (.int k)) (h0 : 0 ≤ k) (hsz : xs.length ≤ sizeLine)
    (hs : ∀ o i, subscripted (.Slice (some e) none none sp) false o i = operate [i, o] (getItem o i)) : EvP b G n env σ (.Subscript value (.Slice (some e) none none sp) pos) (.list (xs.drop k.toNat)) := fun A hA av ad s ok E => by
  refine Subscript_ (wpAny_mono (hv A hA av ad s ok E) (fun o s1 g1 => ?_) fun _ _ x => x)
  refine wpAny_Slice (wpAny_evalPart_some (wpAny_mono (hi A hA av ad s1 (ok.mv g1.2) E) (fun i s2 g2 => wpAny_evalPart_none (wpAny_evalPart_none ?_)) fun _ _ x => x))
  obtain ⟨t, rfl⟩ := g2.1.int_inv
  have ok2 := (ok.mv g1.2).mv g2.2
  obtain ⟨a, items, rfl, ha, hl, hr⟩ := (g1.1.ext (h' := s2.heap) fun x o _ e => g2.2.heap x o (by simp) e).list_inv
  have e2 := hr.length
  rw [Array.length_toList] at e2
  have hk : ((k.toNat : Nat) : Int) = k := Int.toNat_of_nonneg h0
  refine tail_any (hl.push _).typeIs slot_list_getitem.lookup (wpAny_getItem_list_slice (hsz := by rw [e2]; exact hsz) (hl.push _) ⟨_, Heap.get?_push_size _ rfl, rfl, rfl⟩ (.int k t) .none .none (by simp) ?_) (hs _ _)
  refine ⟨Rep.list ⟨Heap.get?_push_size _ rfl, ?_⟩ rfl rfl ?_, (g1.2.trans g2.2).trans ((Mv.push _).trans (Mv.push _))⟩
  · rw [Heap.size_push]
    intro hm
    unfold sel at hm
    split at hm
    · exact ok2.fresh (Nat.le_succ _) hm
    · cases hm
  · rw [← hk, slicePick_from', List.toList_toArray]
    exact (hr.drop _).ext fun x o _ e => Heap.get?_push_of_some _ (Heap.get?_push_of_some _ e)

theorem tail_item {prog : Program} {w : World} {A : Around} {E : Value → Shared → Prop} {s : Shared} {value slice : Expr} {o i : Value} {ops : List Value} {Q : Value → Shared → Prop} (h : ItemOn (model prog w) A E o i Q s)
    (hs : subscripted slice false o i = operate ops (getItem o i)) : wpAny (model prog w) A (subscriptTail value slice o i) Q E s := by
  obtain ⟨T, id, hl, hT, hg⟩ := h
  exact tail_any hT hl hg hs
theorem EvP.sliceS {value e1 e2 : Expr} {sp pos : Pos} {x : Str} {i j : Int} (hv : EvP b G n env σ value (.str x)) (h1 : EvP b1 G n env σ e1 (.int i)) (h2 : EvP b2 G n env σ e2 (.int j)) (hsz : x.length ≤ sizeLine)
    (hs : ∀ o i, subscripted (.Slice (some e1) (some e2) none sp) false o i = operate [i, o] (getItem o i)) : EvP b G n env σ (.Subscript value (.Slice (some e1) (some e2) none sp) pos) (.str (Txt.slice x (some i) (some j))) := fun A hA av ad s ok E => by
  refine Subscript_ (wpAny_mono (hv A hA av ad s ok E) (fun o s1 g1 => ?_) fun _ _ x => x)
  refine wpAny_Slice (wpAny_evalPart_some (wpAny_mono (h1 A hA av ad s1 (ok.mv g1.2) E) (fun u s2 g2 => wpAny_evalPart_some (wpAny_mono (h2 A hA av ad s2 ((ok.mv g1.2).mv g2.2) E) (fun v s3 g3 => wpAny_evalPart_none ?_) fun _ _ x => x)) fun _ _ x => x))
  obtain ⟨t, rfl⟩ := g2.1.int_inv
  obtain ⟨t', rfl⟩ := g3.1.int_inv
  obtain ⟨t'', rfl⟩ := g1.1.str_inv
  refine tail_item (SBH.sliceItem_ss (P := fun h' => ∀ b o, s3.heap.get? b = some o → h'.get? b = some o) (fun h ob hh b o e => Heap.get?_push_of_some _ (hh b o e)) (fun _ _ e => e) (fun h' t' k hk => ⟨Rep.str, ((g1.2.trans g2.2).trans g3.2).trans (Mv.of_heap fun x o _ e => hk x o e)⟩) hsz) (hs _ _)
theorem EvP.fromS {value e1 : Expr} {sp pos : Pos} {x : Str} {i : Int} (hv : EvP b G n env σ value (.str x)) (h1 : EvP b1 G n env σ e1 (.int i)) (hsz : x.length ≤ sizeLine)
    (hs : ∀ o i, subscripted (.Slice (some e1) none none sp) false o i = operate [i, o] (getItem o i)) : EvP b G n env σ (.Subscript value (.Slice (some e1) none none sp) pos) (.str (Txt.slice x (some i) none)) := fun A hA av ad s ok E => by
  refine Subscript_ (wpAny_mono (hv A hA av ad s ok E) (fun o s1 g1 => ?_) fun _ _ x => x)
  refine wpAny_Slice (wpAny_evalPart_some (wpAny_mono (h1 A hA av ad s1 (ok.mv g1.2) E) (fun u s2 g2 => wpAny_evalPart_none (wpAny_evalPart_none ?_)) fun _ _ x => x))
  obtain ⟨t, rfl⟩ := g2.1.int_inv
  obtain ⟨t'', rfl⟩ := g1.1.str_inv
  refine tail_item (SBH.sliceItem_sn (P := fun h' => ∀ b o, s2.heap.get? b = some o → h'.get? b = some o) (fun h ob hh b o e => Heap.get?_push_of_some _ (hh b o e)) (fun _ _ e => e) (fun h' t' k hk => ⟨Rep.str, (g1.2.trans g2.2).trans (Mv.of_heap fun x o _ e => hk x o e)⟩) hsz) (hs _ _)

/-- a def of the text's, called with plain values -/
noncomputable def CallTo (G : Gx) (n : Nat) (f : Addr) (ds : List PyData) (d : PyData) : Prop :=
  ∀ (A : Around), Rm n A → ∀ (av : List Addr) (s : Shared) (vs : List Value), (∀ b o, G.h0.get? b = some o → s.heap.get? b = some o) → (∀ a ∈ av, ∃ o, s.heap.get? a = some o) → RepAll (Pt s.heap av) ds vs →
    ∀ (E : Value → Shared → Prop), wpAny G.M A (call (.ref f) vs) (fun v s' => Rep (Pt s'.heap av) d v ∧ Mv [] [] s s') E s

theorem EvP.call {f : Str} {fa : Addr} {o : Obj} {fd : FuncData} {np pos : Pos} {e : Expr} {es : List Expr} {ds : List PyData} {d : PyData} (hk : env.kindOf f = some .globalImplicit) (hv : GlobIs G f (.ref fa)) (hx : okName f = true)
    (ho : G.h0.get? fa = some o) (hd : o.data = .func fd) (hs : EvsTo G n env σ (e :: es) ds) (h : CallTo G n fa ds d) (he : starEach (e :: es) env = (false, eval e env) :: starEach es env) :
    EvP b G n env σ (.Call (.Name f np) (e :: es) [] pos) d := fun A hA av ad s ok E => by
  refine Call_ (wpAny_globName ok hk hv hx (callWith_def hd (wpAny_mono (hs A hA av ad s ok pos E) (fun vs s1 h1 => ?_) fun _ _ x => x) he)) rfl
  have ok1 := ok.mv h1.2
  exact ⟨ok1.keep _ _ ho, wpAny_mono (h A hA av s1 vs ok1.keep ok1.live h1.1 E) (fun v s2 h2 => ⟨Rep.sel h2.1, h1.2.trans h2.2⟩) fun _ _ x => x⟩
end
end Mine
end

section
open PySem PyProof.Rows
namespace Mine

inductive Upd : Sig → Str → Slot → Sig → Prop
  | new {x : Str} {sl : Slot} : Upd [] x sl [(x, sl)]
  | here {x : Str} {sl t : Slot} {r : Sig} : Upd ((x, t) :: r) x sl ((x, sl) :: r)
  | next {x y : Str} {sl t : Slot} {r r' : Sig} : y ≠ x → Upd r x sl r' → Upd ((y, t) :: r) x sl ((y, t) :: r')

theorem Upd.mem {σ σ' : Sig} {x : Str} {sl : Slot} (u : Upd σ x sl σ') : (σ.map Prod.fst).Nodup → ∀ p ∈ σ', p = (x, sl) ∨ (p ∈ σ ∧ p.1 ≠ x) := by
  induction u with
  | new => intro _ p hp; left; simpa using hp
  | here =>
    intro hn p hp
    rcases List.mem_cons.mp hp with rfl | hp
    · exact .inl rfl
    · refine .inr ⟨List.mem_cons_of_mem _ hp, fun e => ?_⟩
      simp only [List.map_cons, List.nodup_cons] at hn
      exact hn.1 (e ▸ List.mem_map_of_mem hp)
  | next hne _ ih =>
    intro hn p hp
    simp only [List.map_cons, List.nodup_cons] at hn
    rcases List.mem_cons.mp hp with rfl | hp
    · exact .inr ⟨List.mem_cons_self, hne⟩
    · rcases ih hn.2 p hp with h | ⟨h1, h2⟩
      · exact .inl h
      · exact .inr ⟨List.mem_cons_of_mem _ h1, h2⟩
theorem Upd.names {σ σ' : Sig} {x : Str} {sl : Slot} (u : Upd σ x sl σ') : ∀ y, y ∈ σ'.map Prod.fst → y = x ∨ y ∈ σ.map Prod.fst := by
  induction u with
  | new => intro y hy; left; simpa using hy
  | here =>
    intro y hy
    simp only [List.map_cons, List.mem_cons] at hy ⊢
    exact hy.elim .inl fun h => .inr (.inr h)
  | next hne _ ih =>
    intro y hy
    simp only [List.map_cons, List.mem_cons] at hy ⊢
    rcases hy with h | h
    · exact .inr (.inl h)
    · rcases ih y h with h | h
      · exact .inl h
      · exact .inr (.inr h)
theorem Upd.nodup {σ σ' : Sig} {x : Str} {sl : Slot} (u : Upd σ x sl σ') : (σ.map Prod.fst).Nodup → (σ'.map Prod.fst).Nodup := by
  induction u with
  | new => intro _; simp
  | here => intro hn; simpa using hn
  | next hne hu ih =>
    intro hn
    simp only [List.map_cons, List.nodup_cons] at hn ⊢
    refine ⟨fun h => ?_, ih hn.2⟩
    rcases hu.names _ h with h | h
    · exact hne h
    · exact hn.1 h

structure Ok (G : Gx) (av0 mu av : List Addr) (env : Env) (σ : Sig) (ad : Str → Addr) (s : Shared) : Prop where
  e : OkE G av env σ ad s
  low : ∀ a ∈ mu, G.h0.get? a = none
  sub : ∀ a ∈ mu, a ∈ av
  out : ∀ a ∈ mu, a ∉ av0
  sub0 : ∀ a ∈ av0, a ∈ av
  loc : env.locals ∈ mu ∧ ∃ m, s.heap.Ns env.locals m
  cel : ∀ x c, env.cells.lookup x = some c → c ∈ mu ∧ ∃ v, s.heap.IsCell c v
  apart : env.cells.Pairwise fun x y => x.2 ≠ y.2
  own : ∀ x xs, (x, Slot.own xs) ∈ σ → ad x ∈ mu
  inj : ∀ x y xs ys, (x, Slot.own xs) ∈ σ → (y, Slot.own ys) ∈ σ → ad x = ad y → x = y
  nodup : (σ.map Prod.fst).Nodup

section
variable {G : Gx} {n : Nat} {av0 mu av : List Addr} {env : Env} {σ σ' : Sig} {ad : Str → Addr} {s s' : Shared}

theorem Ok.mv (h : Ok G av0 mu av env σ ad s) (m : Mv [] [] s s') : Ok G av0 mu av env σ ad s' :=
  have hk : ∀ b o, s.heap.get? b = some o → s'.heap.get? b = some o := fun b o e => m.heap b o (by simp) e
  ⟨h.e.mv m, h.low, h.sub, h.out, h.sub0, ⟨h.loc.1, let ⟨m, e⟩ := h.loc.2; ⟨m, e.keeps hk⟩⟩, fun x c e => let ⟨h1, v, h2⟩ := h.cel x c e; ⟨h1, v, h2.keeps hk⟩, h.apart, h.own, h.inj, h.nodup⟩

theorem Ok.weak (h : Ok G av0 mu av env σ ad s) (hs : ∀ p ∈ σ', p ∈ σ) (hn : (σ'.map Prod.fst).Nodup) : Ok G av0 mu av env σ' ad s :=
  ⟨⟨h.e.keep, h.e.live, h.e.fn, h.e.gl, h.e.bi, h.e.cl, fun p hp => h.e.vars p (hs p hp)⟩, h.low, h.sub, h.out, h.sub0, h.loc, h.cel, h.apart, fun x xs hx => h.own x xs (hs _ hx), fun x y xs ys h1 h2 => h.inj x y xs ys (hs _ h1) (hs _ h2), hn⟩

theorem SlotIs.avs {h : Heap} {av av' : List Addr} {a : Addr} {v : Value} {sl : Slot} (x : SlotIs h av a v sl) (ha : ∀ a ∈ av', a ∈ av ∨ h.get? a = none) : SlotIs h av' a v sl := by
  cases sl with
  | sh d => exact Rep.av x ha
  | own xs => obtain ⟨e, vs, h1, h2⟩ := x; exact ⟨e, vs, h1, h2.av ha⟩
theorem OkE.avs {av' : List Addr} (h : OkE G av env σ ad s) (ha : ∀ a ∈ av', a ∈ av) : OkE G av' env σ ad s :=
  ⟨h.keep, fun a k => h.live a (ha a k), h.fn, h.gl, h.bi, h.cl, fun p hp => let ⟨v, h1, h2⟩ := h.vars p hp; ⟨v, h1, h2.avs fun a k => .inl (ha a k)⟩⟩
theorem Ok.avs {av' : List Addr} (h : Ok G av0 mu av env σ ad s) (ha : ∀ a ∈ av', a ∈ av) (hs : ∀ a ∈ mu, a ∈ av') (h0 : ∀ a ∈ av0, a ∈ av') : Ok G av0 mu av' env σ ad s :=
  ⟨h.e.avs ha, h.low, hs, h.out, h0, h.loc, h.cel, h.apart, h.own, h.inj, h.nodup⟩

theorem plain_ne_ns {h : Heap} {a L : Addr} {vs : Array Value} {m : Str → Option Value} (hp : h.PlainList a vs) (hn : h.Ns L m) : a ≠ L := by
  rintro rfl
  obtain ⟨k, e⟩ := hp
  obtain ⟨o, es, ep, e2, hd, _⟩ := hn
  rw [e] at e2; cases e2; cases hd
theorem plain_ne_cell {h : Heap} {a c : Addr} {vs : Array Value} {v : Option Value} (hp : h.PlainList a vs) (hn : h.IsCell c v) : a ≠ c := by
  rintro rfl
  obtain ⟨k, e⟩ := hp
  obtain ⟨o, e2, hd⟩ := hn
  rw [e] at e2; cases e2; cases hd
theorem cell_ne_ns {h : Heap} {c L : Addr} {v : Option Value} {m : Str → Option Value} (hp : h.IsCell c v) (hn : h.Ns L m) : c ≠ L := by
  rintro rfl
  obtain ⟨o, e, hd⟩ := hp
  obtain ⟨o', es, ep, e2, hd', _⟩ := hn
  rw [e] at e2; cases e2; rw [hd] at hd'; cases hd'

/-- one place of mu is written; the lists that are owned are not that place -/
theorem SlotIs.same {h h' : Heap} {L : Addr} {a : Addr} {v : Value} {sl : Slot} (x : SlotIs h av a v sl) (hs : Heap.SameBut L h h') (hL : L ∈ av) (ha : ∀ xs, sl = .own xs → a ≠ L) : SlotIs h' av a v sl := by
  have up : ∀ b o, b ∉ av → h.get? b = some o → h'.get? b = some o := fun b o hb e => hs.extBut b o (fun k => hb (k ▸ hL)) e
  cases sl with
  | sh d => exact Rep.ext x up
  | own xs => obtain ⟨e, vs, h1, h2⟩ := x; exact ⟨e, vs, h1.at fun o e => hs.extBut _ o (ha xs rfl) e, h2.ext up⟩

noncomputable def Storable (env : Env) (x : Str) : Prop := env.kindOf x = some .local ∨ (env.kindOf x = some .cell ∧ ∃ c, env.cells.lookup x = some c)

theorem SameBut.live {L : Addr} {h h' : Heap} (hs : Heap.SameBut L h h') {a : Addr} {o : Obj} (e : h.get? a = some o) (hL : ∃ o, h'.get? L = some o) : ∃ o, h'.get? a = some o := by
  by_cases k : a = L
  · subst k; exact hL
  · exact ⟨o, hs.extBut a o k e⟩

/-- the general store -/
theorem Ok.store {A : Around} {x : Str} {v : Value} {sl : Slot} {ad' : Str → Addr} (ok : Ok G av0 mu av env σ ad s) (hst : Storable env x) (u : Upd σ x sl σ')
    (hv : SlotIs s.heap av (ad' x) v sl) (had : ∀ y, y ≠ x → ad' y = ad y)
    (hown : ∀ xs, sl = .own xs → ad' x ∈ mu ∧ ∀ y ys, (y, Slot.own ys) ∈ σ → y ≠ x → ad y ≠ ad' x) (E : Value → Shared → Prop) :
    wpAny G.M A (storeName env x v) (fun _ s' => Ok G av0 mu av env σ' ad' s' ∧ Mv mu [] s s') E s := by
  obtain ⟨hL, m, hns⟩ := ok.loc
  have key : ∀ (W : Addr) (s' : Shared), W ∈ mu → Heap.SameBut W s.heap s'.heap → s'.gens = s.gens → s'.os = s.os → (∃ o, s'.heap.get? W = some o) →
      (∃ m', s'.heap.Ns env.locals m') → (∀ y c, env.cells.lookup y = some c → ∃ v, s'.heap.IsCell c v) → (∀ a vs, s.heap.PlainList a vs → a ≠ W) →
      Bound s'.heap env x v → (∀ y u, y ≠ x → Bound s.heap env y u → Bound s'.heap env y u) → Ok G av0 mu av env σ' ad' s' ∧ Mv mu [] s s' := by
    intro W s' hW hs hg ho hWl hns' hce hpl hbx hby
    have slotOf : ∀ y sl' u, SlotIs s.heap av (ad' y) u sl' → SlotIs s'.heap av (ad' y) u sl' := fun y sl' u hsl => hsl.same hs (ok.sub _ hW) fun xs e => by
      subst e; obtain ⟨_, vs, h1, _⟩ := hsl; exact hpl _ _ h1
    have split := u.mem ok.nodup
    refine ⟨⟨⟨fun b o e => hs.extBut b o (fun k => by subst k; rw [ok.low _ hW] at e; cases e) (ok.e.keep b o e), fun a ha => ?_, ok.e.fn, ok.e.gl, ok.e.bi, fun y c e => let ⟨_, o, e', _⟩ := hce y c e; ⟨o, e'⟩, fun p hp => ?_⟩, ok.low, ok.sub, ok.out, ok.sub0, ⟨hL, hns'⟩, fun y c e => ⟨(ok.cel y c e).1, hce y c e⟩, ok.apart, ?_, ?_, u.nodup ok.nodup⟩,
      ⟨fun b o hb e => hs.extBut b o (fun k => hb (k ▸ hW)) e, fun i g _ e => by rw [hg]; exact e, fun e => by rw [hg]; exact e, ho⟩⟩
    · obtain ⟨o, e⟩ := ok.e.live a ha
      exact SameBut.live hs e hWl
    · rcases split p hp with rfl | ⟨h1, h2⟩
      · exact ⟨v, hbx, slotOf _ _ _ hv⟩
      · obtain ⟨u', b1, b2⟩ := ok.e.vars p h1
        refine ⟨u', hby _ _ h2 b1, ?_⟩
        have e := had p.1 h2
        have := slotOf p.1 p.2 u' (by rw [e]; exact b2)
        exact this
    · intro y ys hy
      rcases split _ hy with e | ⟨h1, h2⟩
      · cases e; exact (hown ys rfl).1
      · rw [had y h2]; exact ok.own y ys h1
    · intro y z ys zs hy hz e
      rcases split _ hy with e1 | ⟨h1, h2⟩ <;> rcases split _ hz with e2 | ⟨h3, h4⟩
      · cases e1; cases e2; rfl
      · cases e1
        have h4' : z ≠ x := h4
        rw [had z h4'] at e
        exact absurd e.symm ((hown ys rfl).2 z zs h3 h4)
      · cases e2
        have h2' : y ≠ x := h2
        rw [had y h2'] at e
        exact absurd e ((hown zs rfl).2 y ys h1 h2)
      · have h2' : y ≠ x := h2
        have h4' : z ≠ x := h4
        rw [had y h2', had z h4'] at e
        exact ok.inj y z ys zs h1 h3 e
  rcases hst with hk | ⟨hk, c, hc⟩
  · refine wpAny_storeName_local hk hns (fun h' hn' hs' => key env.locals _ hL hs' rfl rfl ?_ ⟨_, hn'⟩ ?_ ?_ (.inl ⟨hk, _, hn', by simp⟩) ?_) (by rw [ok.e.fn]; rfl)
    · obtain ⟨o, _, _, e, _⟩ := hn'; exact ⟨o, e⟩
    · intro y c e
      obtain ⟨_, v', h'⟩ := ok.cel y c e
      exact ⟨v', h'.sameBut hs' (cell_ne_ns h' hns)⟩
    · intro a vs hp; exact plain_ne_ns hp hns
    · intro y u' hy hb
      rcases hb with ⟨h1, m', h2, h3⟩ | ⟨h1, c', h2, h3⟩
      · refine .inl ⟨h1, _, hn', ?_⟩
        have : m' y = m y := by
          obtain ⟨o, es, ep, e, r1, r2, r3⟩ := hns
          obtain ⟨o', es', ep', e', r1', r2', r3'⟩ := h2
          rw [e] at e'; cases e'; rw [r1] at r1'; cases r1'
          rw [← r3 y, ← r3' y]
        simp only [if_neg hy]
        rw [← this]; exact h3
      · exact .inr ⟨h1, c', h2, h3.sameBut hs' (cell_ne_ns h3 hns)⟩
  · obtain ⟨hcm, v0, hc0⟩ := ok.cel x c hc
    refine wpAny_storeName_cell ok.e.fn hk hc hc0 (fun h' hc' hs' => key c _ hcm hs' rfl rfl ?_ ⟨m, hns.sameBut hs' (Ne.symm (cell_ne_ns hc0 hns))⟩ ?_ ?_ (.inr ⟨.inl hk, c, hc, hc'⟩) ?_)
    · obtain ⟨o, e, _⟩ := hc'; exact ⟨o, e⟩
    · intro y c' e
      by_cases k : c' = c
      · subst k; exact ⟨_, hc'⟩
      · obtain ⟨_, v', h''⟩ := ok.cel y c' e
        exact ⟨v', h''.sameBut hs' k⟩
    · intro a vs hp; exact plain_ne_cell hp hc0
    · intro y u' hy hb
      rcases hb with ⟨h1, m', h2, h3⟩ | ⟨h1, c', h2, h3⟩
      · exact .inl ⟨h1, m', h2.sameBut hs' (Ne.symm (cell_ne_ns hc0 h2)), h3⟩
      · refine .inr ⟨h1, c', h2, h3.sameBut hs' fun k => ?_⟩
        subst k
        exact hy (name_of_addr ok.apart (mem_of_lookup h2) (mem_of_lookup hc))

theorem Ok.storeSh {A : Around} {x : Str} {v : Value} {d : PyData} (ok : Ok G av0 mu av env σ ad s) (hst : Storable env x) (u : Upd σ x (.sh d) σ') (hv : Rep (Pt s.heap av) d v) (E : Value → Shared → Prop) :
    wpAny G.M A (storeName env x v) (fun _ s' => Ok G av0 mu av env σ' ad s' ∧ Mv mu [] s s') E s :=
  ok.store hst u hv (fun _ _ => rfl) (fun _ e => nomatch e) E
end

inductive Out where
  | next (σ : Sig)
  | brk (σ : Sig)
  | ret (d : PyData)

/-- the state behind: the same frame; owned places may be new ones, or be let go -/
noncomputable def After (G : Gx) (av0 mu av : List Addr) (env : Env) (wr : List Addr) (s : Shared) (σ' : Sig) (s' : Shared) : Prop :=
  ∃ mu' av' ad', (∀ a ∈ mu', a ∈ mu ∨ s.heap.get? a = none) ∧ (∀ a ∈ av', a ∈ av ∨ s.heap.get? a = none) ∧ (∀ a ∈ av, a ∉ mu → a ∉ wr → a ∈ av') ∧
    (∀ a ∈ mu, ∃ o, s'.heap.get? a = some o) ∧ Ok G av0 mu' av' env σ' ad' s'
noncomputable def PostW (G : Gx) (av0 mu av : List Addr) (env : Env) (wr : List Addr) (gw : List Nat) (s : Shared) : Out → Flow → Shared → Prop
  | .next σ', f, s' => f = .next ∧ After G av0 mu av env wr s σ' s' ∧ Mv (wr ++ mu) gw s s'
  | .brk σ', f, s' => f = .brk ∧ After G av0 mu av env wr s σ' s' ∧ Mv (wr ++ mu) gw s s'
  | .ret d, f, s' => ∃ v, f = .ret v ∧ Rep (Pt s'.heap av0) d v ∧ Mv (wr ++ mu) gw s s'
noncomputable abbrev Post (G : Gx) (av0 mu av : List Addr) (env : Env) (s : Shared) := PostW G av0 mu av env [] [] s

noncomputable def ExTo (G : Gx) (n : Nat) (env : Env) (σ : Sig) (st : Stmt) (o : Out) : Prop :=
  ∀ (A : Around), Rm n A → ∀ (av0 mu av : List Addr) (ad : Str → Addr) (s : Shared), Ok G av0 mu av env σ ad s → ∀ (E : Value → Shared → Prop),
    wpAny G.M A (exec st env) (Post G av0 mu av env s o) E s
noncomputable def ExsTo (G : Gx) (n : Nat) (env : Env) (σ : Sig) (sts : List Stmt) (o : Out) : Prop :=
  ∀ (A : Around), Rm n A → ∀ (av0 mu av : List Addr) (ad : Str → Addr) (s : Shared), Ok G av0 mu av env σ ad s → ∀ (E : Value → Shared → Prop),
    wpAny G.M A (execs sts env) (Post G av0 mu av env s o) E s

section
variable {b : Bool} {G : Gx} {n : Nat} {env : Env} {σ σ' σ1 : Sig}

theorem Ok.muLive {av0 mu av : List Addr} {ad : Str → Addr} {s : Shared} (ok : Ok G av0 mu av env σ ad s) : ∀ a ∈ mu, ∃ o, s.heap.get? a = some o := fun a ha => ok.e.live a (ok.sub a ha)
theorem After.refl {av0 mu av wr : List Addr} {ad : Str → Addr} {s s' : Shared} (ok : Ok G av0 mu av env σ ad s') : After G av0 mu av env wr s σ s' := ⟨mu, av, ad, fun _ h => .inl h, fun _ h => .inl h, fun _ h _ _ => h, ok.muLive, ok⟩
theorem After.sub {av0 mu av wr : List Addr} {s s' : Shared} (h : After G av0 mu av env wr s σ s') (hs : ∀ p ∈ σ', p ∈ σ) (hn : (σ'.map Prod.fst).Nodup) : After G av0 mu av env wr s σ' s' :=
  let ⟨mu', av', ad', h1, h2, h3, h4, ok⟩ := h; ⟨mu', av', ad', h1, h2, h3, h4, ok.weak hs hn⟩

/-- what stood not yet behind a step, stood not yet ahead of it -/
theorem fresh_back {mu wr : List Addr} {gw : List Nat} {s s1 : Shared} (m : Mv wr gw s s1) (hw : ∀ a ∈ wr, ∃ o, s1.heap.get? a = some o) {a : Addr} (h : s1.heap.get? a = none) : s.heap.get? a = none := by
  cases e : s.heap.get? a with
  | none => rfl
  | some o =>
    by_cases k : a ∈ wr
    · obtain ⟨o', e'⟩ := hw a k; rw [h] at e'; cases e'
    · have := m.heap a o k e; rw [h] at this; cases this
theorem Mv.chain {mu mu1 : List Addr} {wr : List Addr} {gw : List Nat} {s s1 s2 : Shared} (m1 : Mv (wr ++ mu) gw s s1) (hn : ∀ a ∈ mu1, a ∈ mu ∨ s.heap.get? a = none) (m2 : Mv (wr ++ mu1) gw s1 s2) : Mv (wr ++ mu) gw s s2 := by
  refine ⟨fun b o hb e => m2.heap b o (fun k => ?_) (m1.heap b o hb e), fun i g hi e => m2.gens i g hi (m1.gens i g hi e), fun h => m2.bare (m1.bare h), m2.os.trans m1.os⟩
  rcases List.mem_append.mp k with k | k
  · exact hb (List.mem_append_left _ k)
  · rcases hn b k with h | h
    · exact hb (List.mem_append_right _ h)
    · rw [h] at e; cases e
/-- a step behind a step -/
theorem PostW.then {av0 mu av mu1 av1 wr : List Addr} {gw : List Nat} {s s1 s2 : Shared} {o : Out} {f : Flow} (hav : ∀ a ∈ av, ∃ o, s.heap.get? a = some o) (hwm : ∀ a ∈ wr, a ∉ mu)
    (h1 : ∀ a ∈ mu1, a ∈ mu ∨ s.heap.get? a = none) (h2 : ∀ a ∈ av1, a ∈ av ∨ s.heap.get? a = none) (h3 : ∀ a ∈ av, a ∉ mu → a ∉ wr → a ∈ av1) (h4 : ∀ a ∈ mu, ∃ o, s1.heap.get? a = some o)
    (hwl : ∀ a ∈ wr, ∃ o, s1.heap.get? a = some o) (m1 : Mv (wr ++ mu) gw s s1) (h : PostW G av0 mu1 av1 env wr gw s1 o f s2) : PostW G av0 mu av env wr gw s o f s2 := by
  have back : ∀ a, s1.heap.get? a = none → s.heap.get? a = none := fun a => fresh_back (mu := mu) m1 fun a ha => (List.mem_append.mp ha).elim (hwl a) (h4 a)
  have go : ∀ σ', After G av0 mu1 av1 env wr s1 σ' s2 → Mv (wr ++ mu1) gw s1 s2 → After G av0 mu av env wr s σ' s2 ∧ Mv (wr ++ mu) gw s s2 := by
    rintro σ' ⟨mu2, av2, ad2, g1, g2, g3, g4, ok2⟩ m2
    refine ⟨⟨mu2, av2, ad2, fun a ha => ?_, fun a ha => ?_, fun a ha hm hw => ?_, fun a ha => ?_, ok2⟩, m1.chain h1 m2⟩
    · exact (g1 a ha).elim (h1 a) fun k => .inr (back a k)
    · exact (g2 a ha).elim (h2 a) fun k => .inr (back a k)
    · refine g3 a (h3 a ha hm hw) (fun k => (h1 a k).elim hm fun k => ?_) hw
      obtain ⟨o, e⟩ := hav a ha
      rw [k] at e; cases e
    · by_cases k : a ∈ mu1
      · exact g4 a k
      · obtain ⟨o, e⟩ := h4 a ha
        exact ⟨o, m2.heap a o (fun q => (List.mem_append.mp q).elim (fun q => hwm a q ha) k) e⟩
  cases o with
  | next σ' => obtain ⟨rfl, h1, h2⟩ := h; exact ⟨rfl, go _ h1 h2⟩
  | brk σ' => obtain ⟨rfl, h1, h2⟩ := h; exact ⟨rfl, go _ h1 h2⟩
  | ret d => obtain ⟨v, rfl, h1', h2'⟩ := h; exact ⟨v, rfl, h1', m1.chain h1 h2'⟩
/-- a step that changes nothing old, then a step -/
theorem PostW.after {av0 mu av : List Addr} {ad : Str → Addr} {s s1 s2 : Shared} {o : Out} {f : Flow} (ok : Ok G av0 mu av env σ ad s) (m : Mv mu [] s s1) (hl : ∀ a ∈ mu, ∃ o, s1.heap.get? a = some o) (h : Post G av0 mu av env s1 o f s2) : Post G av0 mu av env s o f s2 :=
  PostW.then (mu1 := mu) (av1 := av) ok.e.live (by simp) (fun _ h => .inl h) (fun _ h => .inl h) (fun _ h _ _ => h) hl (by simp) m h

theorem ExsTo.nil : ExsTo G n env σ [] (.next σ) := fun A hA av0 mu av ad s ok E => wpAny_execs_nil ⟨rfl, After.refl ok, Mv.refl s⟩
theorem ExsTo.cons {st : Stmt} {rest : List Stmt} {o : Out} (h1 : ExTo G n env σ st (.next σ1)) (h2 : ExsTo G n env σ1 rest o) : ExsTo G n env σ (st :: rest) o := fun A hA av0 mu av ad s ok E => by
  refine wpAny_execs_cons (wpAny_mono (h1 A hA av0 mu av ad s ok E) (fun f s1 hp => ?_) fun _ _ x => x)
  obtain ⟨rfl, ⟨mu1, av1, ad1, g1, g2, g3, g4, ok1⟩, m1⟩ := hp
  exact wpAny_mono (h2 A hA av0 _ _ ad1 s1 ok1 E) (fun f s2 hp2 => hp2.then ok.e.live (by simp) g1 g2 g3 g4 (by simp) m1) fun _ _ x => x
theorem ExsTo.ret {st : Stmt} {rest : List Stmt} {d : PyData} (h1 : ExTo G n env σ st (.ret d)) : ExsTo G n env σ (st :: rest) (.ret d) := fun A hA av0 mu av ad s ok E => by
  refine wpAny_execs_cons (wpAny_mono (h1 A hA av0 mu av ad s ok E) (fun f s1 hp => ?_) fun _ _ x => x)
  obtain ⟨v, rfl, h⟩ := hp
  exact ⟨v, rfl, h⟩
theorem ExsTo.brk {st : Stmt} {rest : List Stmt} (h1 : ExTo G n env σ st (.brk σ1)) : ExsTo G n env σ (st :: rest) (.brk σ1) := fun A hA av0 mu av ad s ok E => by
  refine wpAny_execs_cons (wpAny_mono (h1 A hA av0 mu av ad s ok E) (fun f s1 hp => ?_) fun _ _ x => x)
  obtain ⟨rfl, h⟩ := hp
  exact ⟨rfl, h⟩
theorem ExsTo.sub {sts : List Stmt} {o : Out} (hs : ∀ p ∈ σ', p ∈ σ) (hn : (σ'.map Prod.fst).Nodup) (h : ExsTo G n env σ' sts o) : ExsTo G n env σ sts o := fun A hA av0 mu av ad s ok E =>
  h A hA av0 mu av ad s (ok.weak hs hn) E
theorem ExsTo.out {sts : List Stmt} (h : ExsTo G n env σ sts (.next σ1)) (hs : ∀ p ∈ σ', p ∈ σ1) (hn : (σ'.map Prod.fst).Nodup) : ExsTo G n env σ sts (.next σ') := fun A hA av0 mu av ad s ok E =>
  wpAny_mono (h A hA av0 mu av ad s ok E) (fun f s1 hp => ⟨hp.1, hp.2.1.sub hs hn, hp.2.2⟩) fun _ _ x => x
theorem ExTo.out {st : Stmt} (h : ExTo G n env σ st (.next σ1)) (hs : ∀ p ∈ σ', p ∈ σ1) (hn : (σ'.map Prod.fst).Nodup) : ExTo G n env σ st (.next σ') := fun A hA av0 mu av ad s ok E =>
  wpAny_mono (h A hA av0 mu av ad s ok E) (fun f s1 hp => ⟨hp.1, hp.2.1.sub hs hn, hp.2.2⟩) fun _ _ x => x

theorem ExTo.assign {x : Str} {e : Expr} {pos' pos : Pos} {d : PyData} (he : EvTo G n env σ e d) (hst : Storable env x) (u : Upd σ x (.sh d) σ')
    (hs : swapsWith e (some (.Name x pos')) pos.line env = pure false) : ExTo G n env σ (.Assign [.Name x pos'] e pos) (.next σ') := fun A hA av0 mu av ad s ok E => by
  refine wpAny_Assign_Name (wpAny_mono (he A hA av ad s ok.e E) (fun v s1 h1 => ?_) fun _ _ x => x) hs
  have ok1 := ok.mv h1.2
  exact wpAny_mono (ok1.storeSh hst u (by simpa [sel] using h1.1) E) (fun _ s2 h2 => ⟨rfl, After.refl h2.1, h1.2.weak.trans h2.2⟩) fun _ _ x => x

theorem inplace_sound {op : Operator} {x y d : PyData} (hop : op = .Add ∨ op = .Sub) (h : ∃ i j, x = .int i ∧ y = .int j) (hb : BinP op x y d) {prog : Program} {w : World} {A : Around} {E : Value → Shared → Prop} {s : Shared} {av : List Addr} {u v : Value}
    (ru : Rep (Pt s.heap av) x u) (rv : Rep (Pt s.heap av) y v) : wpAny (model prog w) A (inplaceOp op u v) (fun r s' => Rep (Pt s'.heap av) d r ∧ Mv [] [] s s') E s := by
  obtain ⟨i, j, rfl, rfl⟩ := h
  obtain ⟨t, rfl⟩ := ru.int_inv
  obtain ⟨t', rfl⟩ := rv.int_inv
  rcases hop with rfl | rfl
  · cases hb with | addI => exact iadd_int ⟨Rep.int, Mv.toks⟩
  · cases hb with | subI => exact isub_int ⟨Rep.int, Mv.toks⟩
theorem ExTo.aug {x : Str} {e : Expr} {op : Operator} {pos' pos : Pos} {i j : Int} {d : PyData} (hm : (x, Slot.sh (.int i)) ∈ σ) (he : EvTo G n env σ e (.int j)) (hop : op = .Add ∨ op = .Sub) (hb : BinP op (.int i) (.int j) d) (hst : Storable env x) (u : Upd σ x (.sh d) σ')
    (hx : okName x = true) : ExTo G n env σ (.AugAssign (.Name x pos') op e pos) (.next σ') := fun A hA av0 mu av ad s ok E => by
  obtain ⟨v, hbd, hs⟩ := ok.e.vars _ hm
  refine wpAny_AugAssign_Name (Bound.load ok.e.fn hbd ?_ (okName.c hx))
  refine wpAny_mono (he A hA av ad s ok.e E) (fun v2 s1 h1 => ?_) fun _ _ x => x
  have ok1 := ok.mv h1.2
  refine wpAny_mono (inplace_sound hop ⟨i, j, rfl, rfl⟩ hb (Rep.ext (show Rep (Pt s.heap av) (.int i) v from hs) fun x o _ e => h1.2.heap x o (by simp) e) (by simpa [sel] using h1.1)) (fun r s2 h2 => ?_) fun _ _ x => x
  exact wpAny_mono ((ok1.mv h2.2).storeSh hst u h2.1 E) (fun _ s3 h3 => ⟨rfl, After.refl h3.1, (h1.2.weak.trans h2.2.weak).trans h3.2⟩) fun _ _ x => x

theorem ExTo.ite {t : Expr} {body orelse : List Stmt} {pos : Pos} {c : Bool} {o : Out} (ht : TsTo G n env σ t c) (h1 : c = true → ExsTo G n env σ body o) (h2 : c = false → ExsTo G n env σ orelse o) : ExTo G n env σ (.If t body orelse pos) o := fun A hA av0 mu av ad s ok E => by
  refine wpAny_If (wpAny_mono (ht A hA av ad s ok.e E) (fun c' s1 hm => ?_) fun _ _ x => x)
  obtain ⟨rfl, m⟩ := hm
  have ok1 := ok.mv m
  cases c' with
  | true => exact wpAny_mono (h1 rfl A hA av0 mu av ad s1 ok1 E) (fun f s2 h => PostW.after ok m.weak ok1.muLive h) fun _ _ x => x
  | false => exact wpAny_mono (h2 rfl A hA av0 mu av ad s1 ok1 E) (fun f s2 h => PostW.after ok m.weak ok1.muLive h) fun _ _ x => x

theorem ExTo.return {e : Expr} {pos : Pos} {d : PyData} (he : EvTo G n env σ e d) : ExTo G n env σ (.Return (some e) pos) (.ret d) := fun A hA av0 mu av ad s ok E =>
  wpAny_Return_some (wpAny_mono (he A hA av ad s ok.e E) (fun v s1 h1 => ⟨v, rfl, (show Rep (Pt s1.heap av) d v by simpa [sel] using h1.1).av fun a ha => .inl (ok.sub0 a ha), h1.2.weak⟩) fun _ _ x => x)
theorem ExTo.returnOwn {x : Str} {np pos : Pos} {xs : List PyData} (hm : (x, Slot.own xs) ∈ σ) (hx : okName x = true) : ExTo G n env σ (.Return (some (.Name x np)) pos) (.ret (.list xs)) := fun A hA av0 mu av ad s ok E => by
  obtain ⟨v, hb, hs⟩ := ok.e.vars _ hm
  obtain ⟨e, vs, ⟨k, hk⟩, h2⟩ := hs
  subst e
  refine wpAny_Return_some (wpAny_Name (Bound.load ok.e.fn hb ⟨_, rfl, ?_, Mv.refl s⟩ (okName.c hx)) (okName.d hx))
  exact Rep.list ⟨hk, ok.out _ (ok.own _ _ hm)⟩ rfl rfl (h2.av fun a ha => .inl (ok.sub0 a ha))
theorem ExTo.break {pos : Pos} : ExTo G n env σ (.Break pos) (.brk σ) := fun A hA av0 mu av ad s ok E => wpAny_Break ⟨rfl, After.refl ok, Mv.refl s⟩
end
end Mine
end

section
open PySem PyProof.Rows
namespace Mine

/-- a list that is made anew -/
noncomputable def EvNew (G : Gx) (n : Nat) (env : Env) (σ : Sig) (e : Expr) (xs : List PyData) : Prop :=
  ∀ (A : Around), Rm n A → ∀ (av : List Addr) (ad : Str → Addr) (s : Shared), OkE G av env σ ad s → ∀ (E : Value → Shared → Prop),
    wpAny G.M A (eval e env) (fun v s' => ∃ a vs, v = .ref a ∧ s.heap.get? a = none ∧ s'.heap.PlainList a vs ∧ RepAll (Pt s'.heap (a :: av)) xs vs.toList ∧ Mv [] [] s s') E s

section
variable {b : Bool} {G : Gx} {n : Nat} {env : Env} {σ σ' σ1 : Sig}

theorem none_of_size {s s1 : Shared} (m : Mv [] [] s s1) {a : Addr} (ha : s1.heap.objs.size ≤ a) : s.heap.get? a = none := by
  cases e : s.heap.get? a with
  | none => rfl
  | some o => exact absurd (Heap.lt_size (m.heap a o (by simp) e)) (Nat.not_lt.mpr ha)

theorem EvNew.disp {es : List Expr} {ds : List PyData} {pos : Pos} (h : EvsTo G n env σ es ds) (hsz : ds.length ≤ sizeLine) : EvNew G n env σ (.List es pos) ds := fun A hA av ad s ok E => by
  refine wpAny_List (wpAny_mono (h A hA av ad s ok pos E) (fun vs s1 hm => ?_) fun _ _ x => x)
  obtain ⟨r, m⟩ := hm
  refine ⟨by rw [r.length]; exact hsz, _, vs.toArray, rfl, none_of_size m (Nat.le_refl _), ⟨0, Heap.get?_push_size _ rfl⟩, ?_, m.trans (Mv.push _)⟩
  refine (r.av (av' := s1.heap.objs.size :: av) fun a ha => ?_).ext fun x o _ e => Heap.get?_push_of_some _ e
  rcases List.mem_cons.mp ha with rfl | ha
  · exact .inr (fresh_none (Nat.le_refl _))
  · exact .inl ha
theorem EvNew.ev {e : Expr} {xs : List PyData} (h : EvNew G n env σ e xs) : EvP b G n env σ e (.list xs) := fun A hA av ad s ok E =>
  wpAny_mono (h A hA av ad s ok E) (fun v s1 hm => by
    obtain ⟨a, vs, rfl, h1, ⟨k, h2⟩, h3, m⟩ := hm
    refine ⟨Rep.sel (Rep.list ⟨h2, fun ha => ?_⟩ rfl rfl (h3.av fun a ha => .inl (List.mem_cons_of_mem _ ha))), m⟩
    obtain ⟨o, e⟩ := ok.live a ha
    rw [h1] at e; cases e) fun _ _ x => x

/-- new owned place -/
theorem Ok.grow {av0 mu av : List Addr} {ad : Str → Addr} {s s1 : Shared} {a : Addr} (ok : Ok G av0 mu av env σ ad s) (m : Mv [] [] s s1) (ha : s.heap.get? a = none) (hl : ∃ o, s1.heap.get? a = some o) : Ok G av0 (a :: mu) (a :: av) env σ ad s1 := by
  have ok1 := ok.mv m
  have hk : ∀ b o, s.heap.get? b = some o → s1.heap.get? b = some o := fun b o e => m.heap b o (by simp) e
  refine ⟨⟨ok1.e.keep, fun x hx => ?_, ok.e.fn, ok.e.gl, ok.e.bi, ok1.e.cl, fun p hp => ?_⟩, fun x hx => ?_, fun x hx => ?_, fun x hx => ?_, fun x hx => List.mem_cons_of_mem _ (ok.sub0 x hx), ⟨List.mem_cons_of_mem _ ok1.loc.1, ok1.loc.2⟩,
    fun x c e => let ⟨h1, h2⟩ := ok1.cel x c e; ⟨List.mem_cons_of_mem _ h1, h2⟩, ok.apart, fun x xs hx => List.mem_cons_of_mem _ (ok.own x xs hx), ok.inj, ok.nodup⟩
  · rcases List.mem_cons.mp hx with rfl | hx
    · exact hl
    · exact ok1.e.live x hx
  · obtain ⟨v, h1, h2⟩ := ok.e.vars p hp
    refine ⟨v, h1.keeps hk, (h2.avs fun x hx => ?_).keeps hk⟩
    rcases List.mem_cons.mp hx with rfl | hx
    · exact .inr ha
    · exact .inl hx
  · rcases List.mem_cons.mp hx with rfl | hx
    · cases e : G.h0.get? x with
      | none => rfl
      | some o => have := ok.e.keep x o e; rw [ha] at this; cases this
    · exact ok.low x hx
  · rcases List.mem_cons.mp hx with rfl | hx
    · exact List.mem_cons_self
    · exact List.mem_cons_of_mem _ (ok.sub x hx)
  · rcases List.mem_cons.mp hx with rfl | hx
    · intro k
      obtain ⟨o, e⟩ := ok.e.live x (ok.sub0 x k)
      rw [ha] at e; cases e
    · exact ok.out x hx

theorem ExTo.assignNew {x : Str} {e : Expr} {pos' pos : Pos} {xs : List PyData} (he : EvNew G n env σ e xs) (hst : Storable env x) (u : Upd σ x (.own xs) σ')
    (hs : swapsWith e (some (.Name x pos')) pos.line env = pure false) : ExTo G n env σ (.Assign [.Name x pos'] e pos) (.next σ') := fun A hA av0 mu av ad s ok E => by
  refine wpAny_Assign_Name (wpAny_mono (he A hA av ad s ok.e E) (fun v s1 h1 => ?_) fun _ _ x => x) hs
  obtain ⟨a, vs, rfl, h1, h2, h3, m⟩ := h1
  have ok1 := ok.grow m h1 (let ⟨k, e⟩ := h2; ⟨_, e⟩)
  refine wpAny_mono (ok1.store (ad' := fun y => if y = x then a else ad y) hst u ⟨by simp, vs, by simpa using h2, h3⟩ (fun y hy => by simp [hy]) (fun xs' _ => ⟨by simp, fun y ys hy hne e => ?_⟩) E) (fun _ s2 h2 => ?_) fun _ _ x => x
  · simp only [if_true] at e
    obtain ⟨o, e'⟩ := ok.muLive _ (ok.own y ys hy)
    rw [e, h1] at e'; cases e'
  · refine ⟨rfl, ⟨_, _, _, fun y hy => ?_, fun y hy => ?_, fun y hy _ _ => List.mem_cons_of_mem _ hy, fun y hy => h2.1.muLive y (List.mem_cons_of_mem _ hy), h2.1⟩, ?_⟩
    · exact (List.mem_cons.mp hy).elim (fun e => .inr (e ▸ h1)) .inl
    · exact (List.mem_cons.mp hy).elim (fun e => .inr (e ▸ h1)) .inl
    · exact (m.weak.trans h2.2 : Mv (a :: mu) [] s s2).shrink (fun y hy => (List.mem_cons.mp hy).elim (fun e => .inr (e ▸ h1)) .inl) (by simp)

/-- an owned list is written -/
theorem Ok.write {av0 mu av : List Addr} {ad : Str → Addr} {s s' : Shared} {x : Str} {xs ys : List PyData} {vs' : Array Value} (ok : Ok G av0 mu av env σ ad s) (hm : (x, Slot.own xs) ∈ σ) (u : Upd σ x (.own ys) σ')
    (hk : ∀ b o, b ≠ ad x → s.heap.get? b = some o → s'.heap.get? b = some o) (hp : s'.heap.PlainList (ad x) vs') (hr : RepAll (Pt s'.heap av) ys vs'.toList) : Ok G av0 mu av env σ' ad s' := by
  obtain ⟨v, hb, hv, vs, hp0, _⟩ := ok.e.vars _ hm
  have hW := ok.own x xs hm
  have split := u.mem ok.nodup
  obtain ⟨m0, hns⟩ := ok.loc.2
  have hneL : env.locals ≠ ad x := Ne.symm (plain_ne_ns hp0 hns)
  have bnd : ∀ y u', Bound s.heap env y u' → Bound s'.heap env y u' := by
    intro y u' h
    rcases h with ⟨h1, m', h2, h3⟩ | ⟨h1, c', h2, h3⟩
    · exact .inl ⟨h1, m', h2.at' fun o e => hk _ o hneL e, h3⟩
    · refine .inr ⟨h1, c', h2, ?_⟩
      obtain ⟨o, e, hd⟩ := id h3
      exact ⟨o, hk _ o (Ne.symm (plain_ne_cell hp0 h3)) e, hd⟩
  have up : ∀ b o, b ∉ av → s.heap.get? b = some o → s'.heap.get? b = some o := fun b o hb e => hk b o (fun k => hb (k ▸ ok.sub _ hW)) e
  refine ⟨⟨fun b o e => hk b o (fun k => by rw [k, ok.low _ hW] at e; cases e) (ok.e.keep b o e), fun a ha => ?_, ok.e.fn, ok.e.gl, ok.e.bi, fun y c e => let ⟨h1, v', h2⟩ := ok.cel y c e; let ⟨o, e', hd⟩ := id h2; ⟨o, hk _ o (Ne.symm (plain_ne_cell hp0 h2)) e'⟩, fun p hpp => ?_⟩, ok.low, ok.sub, ok.out, ok.sub0, ⟨ok.loc.1, m0, hns.at' fun o e => hk _ o hneL e⟩, fun y c e => ?_, ok.apart, fun y zs hy => ?_, fun y z y1 z1 hy hz e => ?_, u.nodup ok.nodup⟩
  · by_cases k : a = ad x
    · subst k; obtain ⟨q, e⟩ := hp; exact ⟨_, e⟩
    · obtain ⟨o, e⟩ := ok.e.live a ha; exact ⟨o, hk a o k e⟩
  · rcases split p hpp with rfl | ⟨h1, h2⟩
    · exact ⟨v, bnd _ _ hb, hv, vs', hp, hr⟩
    · obtain ⟨u', b1, b2⟩ := ok.e.vars p h1
      refine ⟨u', bnd _ _ b1, ?_⟩
      obtain ⟨y, sl⟩ := p
      cases sl with
      | sh d => exact Rep.ext b2 up
      | own zs =>
        obtain ⟨e, ws, q1, q2⟩ := b2
        exact ⟨e, ws, q1.at fun o e => hk _ o (fun k => h2 (ok.inj y x zs xs h1 hm k)) e, q2.ext up⟩
  · obtain ⟨h1, v', h2⟩ := ok.cel y c e
    obtain ⟨o, e', hd⟩ := id h2
    exact ⟨h1, v', o, hk _ o (Ne.symm (plain_ne_cell hp0 h2)) e', hd⟩
  · rcases split _ hy with e | ⟨h1, h2⟩
    · cases e; exact hW
    · exact ok.own y zs h1
  · rcases split _ hy with e1 | ⟨h1, h2⟩ <;> rcases split _ hz with e2 | ⟨h3, h4⟩
    · cases e1; cases e2; rfl
    · cases e1; exact ok.inj _ z xs z1 hm h3 e
    · cases e2; exact ok.inj y _ y1 xs h1 hm e
    · exact ok.inj y z y1 z1 h1 h3 e

theorem ExTo.append {x : Str} {e : Expr} {np apos cpos pos : Pos} {xs : List PyData} {d : PyData} (hm : (x, Slot.own xs) ∈ σ) (hx : okName x = true) (he : EvTo G n env σ e d) (u : Upd σ x (.own (xs ++ [d])) σ') (hsz : xs.length ≤ sizeLine)
    (hi : interactive env = false) (hs : swapsWith (.Call (.Attribute (.Name x np) (Str.ofString "append") apos) [e] [] cpos) none pos.line env = pure false)
    (hbase : attributeBase (.Name x np) (Str.ofString "append") env (eval (.Name x np) env) = eval (.Name x np) env)
    (hfew : ((backTo cpos (starEach [e] env)).all (fun x => !x.1) && (backToKw cpos (keywordEach [] env)).all (fun x => x.1.isSome) && decide (([e] : List Expr).length + ([] : List Keyword).length + (if ([] : List Keyword).isEmpty then 0 else 1) < 30)) = true)
    (hline : (apos.endLine == cpos.line) = true) (htrees : backTo cpos (starEach [e] env) = [(false, eval e env)]) :
    ExTo G n env σ (.Expr (.Call (.Attribute (.Name x np) (Str.ofString "append") apos) [e] [] cpos) pos) (.next σ') := fun A hA av0 mu av ad s ok E => by
  obtain ⟨v, hb, rfl, vs, hp, hr⟩ := ok.e.vars _ hm
  refine wpAny_Expr (wpAny_Call_append hbase hfew hline htrees (wpAny_Name (Bound.load ok.e.fn hb ⟨_, vs, rfl, let ⟨k, ek⟩ := hp; ⟨_, k, ek, rfl, rfl, rfl⟩, ?_⟩ (okName.c hx)) (okName.d hx))) hi hs
  refine wpAny_mono (he A hA av ad s ok.e E) (fun y s1 h1 => ?_) fun _ _ x => x
  have ok1 := ok.mv h1.2
  have hp1 : s1.heap.PlainList (ad x) vs := hp.at fun o e => h1.2.heap _ o (by simp) e
  have hr1 : RepAll (Pt s1.heap av) xs vs.toList := hr.ext fun b o _ e => h1.2.heap _ o (by simp) e
  have elen := hr.length
  rw [Array.length_toList] at elen
  refine wpAny_list_append_plain hp1 (fun h' hp' hs' => ?_) (by rw [elen]; exact hsz)
  have hW := ok.own x xs hm
  have up : ∀ b o, b ∉ av → s1.heap.get? b = some o → h'.get? b = some o := fun b o hb e => hs'.extBut b o (fun k => hb (k ▸ ok.sub _ hW)) e
  have ok2 : Ok G av0 mu av env σ' ad { s1 with heap := h' } := ok1.write hm u (fun b o hb e => hs'.extBut b o hb e) hp' (by
    rw [Array.toList_push]
    exact (hr1.append (RepAll.cons (by simpa [sel] using h1.1) RepAll.nil)).ext up)
  exact ⟨rfl, After.refl ok2, h1.2.weak.trans ⟨fun b o hb e => hs'.extBut b o (fun k => hb (k ▸ hW)) e, fun _ _ _ e => e, fun e => e, rfl⟩⟩

/-- an owned list that is not written any more -/
theorem Ok.freeze {av0 mu av : List Addr} {ad : Str → Addr} {s : Shared} {x : Str} {xs : List PyData} (ok : Ok G av0 mu av env σ ad s) (hm : (x, Slot.own xs) ∈ σ) (u : Upd σ x (.sh (.list xs)) σ') :
    Ok G av0 (mu.filter (· ≠ ad x)) (av.filter (· ≠ ad x)) env σ' ad s := by
  obtain ⟨v, hb, hv, vs, hp0, hr⟩ := ok.e.vars _ hm
  obtain ⟨m0, hns⟩ := ok.loc.2
  have hneL : env.locals ≠ ad x := Ne.symm (plain_ne_ns hp0 hns)
  have split := u.mem ok.nodup
  have fil : ∀ {l : List Addr} {a : Addr}, a ∈ l.filter (· ≠ ad x) ↔ a ∈ l ∧ a ≠ ad x := by intro l a; simp
  have less : ∀ a ∈ av.filter (· ≠ ad x), a ∈ av ∨ s.heap.get? a = none := fun a ha => .inl (fil.mp ha).1
  refine ⟨⟨ok.e.keep, fun a ha => ok.e.live a (fil.mp ha).1, ok.e.fn, ok.e.gl, ok.e.bi, ok.e.cl, fun p hpp => ?_⟩, fun a ha => ok.low a (fil.mp ha).1, fun a ha => fil.mpr ⟨ok.sub a (fil.mp ha).1, (fil.mp ha).2⟩, fun a ha => ok.out a (fil.mp ha).1,
    fun a ha => fil.mpr ⟨ok.sub0 a ha, fun k => ok.out _ (ok.own x xs hm) (k ▸ ha)⟩, ⟨fil.mpr ⟨ok.loc.1, hneL⟩, m0, hns⟩, fun y c e => ?_, ok.apart, fun y ys hy => ?_, fun y z ys zs hy hz e => ?_, u.nodup ok.nodup⟩
  · rcases split p hpp with rfl | ⟨h1, h2⟩
    · refine ⟨v, hb, ?_⟩
      obtain ⟨k, ek⟩ := hp0
      subst hv
      exact Rep.list ⟨ek, fun k => (fil.mp k).2 rfl⟩ rfl rfl (hr.av less)
    · obtain ⟨u', b1, b2⟩ := ok.e.vars p h1
      exact ⟨u', b1, b2.avs less⟩
  · obtain ⟨h1, v', h2⟩ := ok.cel y c e
    exact ⟨fil.mpr ⟨h1, Ne.symm (plain_ne_cell hp0 h2)⟩, v', h2⟩
  · rcases split _ hy with e | ⟨h1, h2⟩
    · cases e
    · exact fil.mpr ⟨ok.own y ys h1, fun k => h2 (ok.inj y x ys xs h1 hm k)⟩
  · rcases split _ hy with e1 | ⟨h1, h2⟩ <;> rcases split _ hz with e2 | ⟨h3, h4⟩
    · cases e1
    · cases e1
    · cases e2
    · exact ok.inj y z ys zs h1 h3 e
theorem ExsTo.freeze {x : Str} {xs : List PyData} {sts : List Stmt} {o : Out} (hm : (x, Slot.own xs) ∈ σ) (u : Upd σ x (.sh (.list xs)) σ') (h : ExsTo G n env σ' sts o) : ExsTo G n env σ sts o := fun A hA av0 mu av ad s ok E => by
  have hW := ok.own x xs hm
  have fil : ∀ {l : List Addr} {a : Addr}, a ∈ l.filter (· ≠ ad x) ↔ a ∈ l ∧ a ≠ ad x := by intro l a; simp
  refine wpAny_mono (h A hA av0 _ _ ad s (ok.freeze hm u) E) (fun f s1 hp => ?_) fun _ _ x => x
  exact PostW.then (mu := mu) (av := av) ok.e.live (by simp) (fun a ha => .inl (fil.mp ha).1) (fun a ha => .inl (fil.mp ha).1) (fun a ha hn _ => fil.mpr ⟨ha, fun k => hn (k ▸ hW)⟩) ok.muLive (by simp) (Mv.refl s) hp
end
end Mine
end

section
open PySem PyProof.Rows
namespace Mine

/-- one draw, for a target -/
noncomputable def NxtW (M : Model) (A : Around) (tgt : Expr) (it : Value) (Q : Option Value → Shared → Prop) (E : Value → Shared → Prop) (s : Shared) : Prop :=
  wpAny M A (pyNext it) (fun r s1 => match r with
    | none => Q none s1
    | some v => wpAny M A (letOwnedTupleGo tgt it v) (fun _ s2 => Q (some v) s2) E s1) E s

/-- an iterator that will still tell these; wr, gw: what a draw writes; mu: what may be written between the draws -/
noncomputable def ItAt (M : Model) (A : Around) (tgt : Expr) (it : Value) (wr : List Addr) (gw : List Nat) (ended : Bool) : List PyData → List Addr → List Addr → Shared → Prop
  | [], mu, _, s => ended = true → ∀ s', Mv mu [] s s' → ∀ (Q : Option Value → Shared → Prop) (E : Value → Shared → Prop), (∀ s'', Mv wr gw s' s'' → Q none s'') → NxtW M A tgt it Q E s'
  | x :: r, mu, av, s => ∀ mu' av' s', (∀ a ∈ mu', a ∈ mu ∨ s.heap.get? a = none) → (∀ a ∈ av', a ∈ av ∨ s.heap.get? a = none) → (∀ a ∈ av', ∃ o, s'.heap.get? a = some o) → Mv mu [] s s' →
      ∀ (Q : Option Value → Shared → Prop) (E : Value → Shared → Prop),
        (∀ v s'', Rep (Pt s''.heap av') x v → Mv wr gw s' s'' → (∀ a ∈ wr, ∃ o, s''.heap.get? a = some o) → ItAt M A tgt it wr gw ended r mu' av' s'' → Q (some v) s'') → NxtW M A tgt it Q E s'

theorem ItAt.step {M : Model} {A : Around} {tgt : Expr} {it : Value} {wr : List Addr} {gw : List Nat} {ended : Bool} {l : List PyData} {mu av mu1 av1 : List Addr} {s s1 : Shared} (h : ItAt M A tgt it wr gw ended l mu av s)
    (h1 : ∀ a ∈ mu1, a ∈ mu ∨ s.heap.get? a = none) (h2 : ∀ a ∈ av1, a ∈ av ∨ s.heap.get? a = none) (h4 : ∀ a ∈ mu, ∃ o, s1.heap.get? a = some o) (m : Mv mu [] s s1) : ItAt M A tgt it wr gw ended l mu1 av1 s1 := by
  have back : ∀ a, s1.heap.get? a = none → s.heap.get? a = none := fun a => fresh_back (mu := mu) m h4
  cases l with
  | nil => exact fun he s2 m2 => h he s2 (Mv.chain (wr := []) m h1 m2)
  | cons x r =>
    intro mu2 av2 s2 g1 g2 g3 m2
    exact h mu2 av2 s2 (fun a ha => (g1 a ha).elim (h1 a) fun k => .inr (back a k)) (fun a ha => (g2 a ha).elim (h2 a) fun k => .inr (back a k)) g3 (Mv.chain (wr := []) m h1 m2)

theorem forLoop_step {prog : Program} {w : World} {A : Around} {R : Result → Shared → Prop} {s : Shared} {tgt : Expr} {it : Value} {body orelse : List Stmt} {env : Env}
    (h : NxtW (model prog w) A tgt it (fun r s₁ => match r with
      | none => wpAny (model prog w) A (execs orelse env) (fun f s₃ => R (.ok f) s₃) (notedBy (model prog w) A env fun e s' => R (.error e) s') s₁
      | some v => wpAny (model prog w) A (assign tgt env v) (fun _ s₂ => wpAny (model prog w) A (execs body env) (fun f s₃ => match f with
          | .next | .cont => codeAny (model prog w) A (.forLoop tgt it body orelse env) R s₃
          | .brk => R (.ok .next) s₃
          | .ret v => R (.ok (.ret v)) s₃) (notedBy (model prog w) A env fun e s' => R (.error e) s') s₂) (notedBy (model prog w) A env fun e s' => R (.error e) s') s₁) (notedBy (model prog w) A env fun e s' => R (.error e) s') s) :
    codeAny (model prog w) A (.forLoop tgt it body orelse env) R s := by
  refine codeAny_loop' rfl (fun _ s' => s' = s) (fun n s' hI => ?_) 0 rfl
  subst hI
  show wpAny _ _ ((forTurn tgt it body orelse env).onRaise (fun x => do noteFrame x env; theTreesLotGoes x)) _ _ s'
  refine wpAny_noted ?_
  simp only [forTurn]
  refine wpAny_bind (wpAny_standAt (wpAny_bind (wpAny_onRaise (wpAny_mono h (fun r s₁ h₁ => ?_) fun _ _ h' => wpAny_standAt h'))))
  cases r with
  | none => exact wpAny_pure (.inr ⟨rfl, codeAny_block h₁⟩)
  | some v =>
    refine wpAny_bind (wpAny_mono h₁ (fun _ s₂ h₂ => ?_) fun _ _ h' => h')
    refine wpAny_bind (wpAny_mono h₂ (fun _ s₂ h₂ => wpAny_bind (wpAny_mono h₂ (fun f s₃ h₃ => ?_) fun _ _ h' => h')) fun _ _ h' => h')
    cases f with
    | next => exact wpAny_pure (.inr ⟨rfl, h₃⟩)
    | cont => exact wpAny_pure (.inr ⟨rfl, h₃⟩)
    | brk => exact wpAny_pure h₃
    | ret v => exact wpAny_pure h₃

/-- the target takes x -/
noncomputable def TgtTo (G : Gx) (env : Env) (σ : Sig) (tgt : Expr) (x : PyData) (σ' : Sig) : Prop :=
  ∀ (A : Around), Rm 0 A → ∀ (av0 mu av : List Addr) (ad : Str → Addr) (s : Shared) (v : Value), Ok G av0 mu av env σ ad s → Rep (Pt s.heap av) x v → ∀ (E : Value → Shared → Prop),
    wpAny G.M A (assign tgt env v) (fun _ s' => Ok G av0 mu av env σ' ad s' ∧ Mv mu [] s s') E s

section
variable {b : Bool} {G : Gx} {n : Nat} {env : Env} {σ σ' σ1 σ2 : Sig}

theorem TgtTo.name {x : Str} {pos : Pos} {d : PyData} (hst : Storable env x) (u : Upd σ x (.sh d) σ') : TgtTo G env σ (.Name x pos) d σ' := fun A hA av0 mu av ad s v ok r E =>
  wpAny_assign_Name (ok.storeSh hst u r E)
theorem TgtTo.pair {x y : Str} {p1 p2 pos : Pos} {k : Nat} {d1 d2 : PyData} (h1 : Storable env x) (u1 : Upd σ x (.sh d1) σ1) (h2 : Storable env y) (u2 : Upd σ1 y (.sh d2) σ') :
    TgtTo G env σ (.Tuple [.Name x p1, .Name y p2] k pos) (.tuple [d1, d2]) σ' := fun A hA av0 mu av ad s v ok r E => by
  obtain ⟨a, items, rfl, ha, ht, hr⟩ := r.tuple_inv
  simp only [RepAll] at hr
  obtain ⟨v1, w1, e1, r1, v2, w2, e2, r2, e3⟩ := hr
  subst e3 e2
  have hi : items.toList = [v1, v2] := e1
  refine wpAny_assign_Tuple hA.hh ht (by rw [← Array.length_toList, hi]; rfl) (by rfl) fun h' hext => ?_
  rw [hi]
  have m0 : Mv [] [] s { s with heap := h' } := ⟨fun b o _ e => hext b o (Nat.ne_of_lt (Heap.lt_size e)) e, fun _ _ _ e => e, fun e => e, rfl⟩
  have ok0 := ok.mv m0
  refine wpAny_assignInOrder_more (wpAny_mono (wpAny_assign_Name (ok0.storeSh h1 u1 (r1.ext fun b o _ e => m0.heap b o (by simp) e) E)) (fun _ s1 g1 => ?_) fun _ _ x => x)
  refine wpAny_assignInOrder_more (wpAny_mono (wpAny_assign_Name (g1.1.storeSh h2 u2 ((r2.ext (h' := h') fun b o _ e => m0.heap b o (by simp) e).ext fun b o hb e => g1.2.heap b o (fun k => hb (ok.sub b k)) e) E)) (fun _ s2 g2 => ?_) fun _ _ x => x)
  exact wpAny_assignInOrder_none ⟨g2.1, (m0.weak.trans g1.2).trans g2.2⟩

/-- a draw writes its own places only -/
theorem Ok.drawn {av0 mu av wr : List Addr} {gw : List Nat} {ad : Str → Addr} {s s' : Shared} (ok : Ok G av0 mu av env σ ad s) (m : Mv wr gw s s') (hwa : ∀ a ∈ wr, a ∈ av) (hwm : ∀ a ∈ wr, a ∉ mu) (hw0 : ∀ a ∈ wr, G.h0.get? a = none)
    (hl : ∀ a ∈ wr, ∃ o, s'.heap.get? a = some o) : Ok G av0 mu av env σ ad s' := by
  have up : ∀ b o, b ∉ av → s.heap.get? b = some o → s'.heap.get? b = some o := fun b o hb e => m.heap b o (fun k => hb (hwa b k)) e
  have mk : ∀ b ∈ mu, ∀ o, s.heap.get? b = some o → s'.heap.get? b = some o := fun b hb o e => m.heap b o (fun k => hwm b k hb) e
  have bnd : ∀ y u', Bound s.heap env y u' → Bound s'.heap env y u' := by
    intro y u' h
    rcases h with ⟨h1, m', h2, h3⟩ | ⟨h1, c', h2, h3⟩
    · exact .inl ⟨h1, m', h2.at' fun o e => mk _ ok.loc.1 o e, h3⟩
    · obtain ⟨o, e, hd⟩ := h3
      exact .inr ⟨h1, c', h2, o, mk _ (ok.cel _ _ h2).1 o e, hd⟩
  refine ⟨⟨fun b o e => m.heap b o (fun k => by rw [hw0 b k] at e; cases e) (ok.e.keep b o e), fun a ha => ?_, ok.e.fn, ok.e.gl, ok.e.bi, fun y c e => let ⟨h1, v, o, e', hd⟩ := ok.cel y c e; ⟨o, mk _ h1 o e'⟩, fun p hp => ?_⟩, ok.low, ok.sub, ok.out, ok.sub0, ⟨ok.loc.1, ?_⟩, fun y c e => ?_, ok.apart, ok.own, ok.inj, ok.nodup⟩
  · by_cases k : a ∈ wr
    · exact hl a k
    · obtain ⟨o, e⟩ := ok.e.live a ha; exact ⟨o, m.heap a o k e⟩
  · obtain ⟨v, h1, h2⟩ := ok.e.vars p hp
    refine ⟨v, bnd _ _ h1, ?_⟩
    obtain ⟨y, sl⟩ := p
    cases sl with
    | sh d => exact Rep.ext h2 up
    | own zs =>
      obtain ⟨e, ws, q1, q2⟩ := h2
      exact ⟨e, ws, q1.at fun o e => mk _ (ok.own y zs hp) o e, q2.ext up⟩
  · obtain ⟨m', e⟩ := ok.loc.2; exact ⟨m', e.at' fun o e => mk _ ok.loc.1 o e⟩
  · obtain ⟨h1, v, o, e', hd⟩ := ok.cel y c e
    exact ⟨h1, v, o, mk _ h1 o e', hd⟩

/-- behind the last draw its places are let go -/
theorem Ok.left {av0 mu av wr : List Addr} {gw : List Nat} {ad : Str → Addr} {s s' : Shared} (ok : Ok G av0 mu av env σ ad s) (m : Mv wr gw s s') (hwa : ∀ a ∈ wr, a ∈ av) (hwm : ∀ a ∈ wr, a ∉ mu) (hw0 : ∀ a ∈ wr, G.h0.get? a = none) (hwo : ∀ a ∈ wr, a ∉ av0) :
    Ok G av0 mu (av.filter (· ∉ wr)) env σ ad s' := by
  have fil : ∀ {a : Addr}, a ∈ av.filter (· ∉ wr) ↔ a ∈ av ∧ a ∉ wr := by intro a; simp
  have mk : ∀ b ∈ mu, ∀ o, s.heap.get? b = some o → s'.heap.get? b = some o := fun b hb o e => m.heap b o (fun k => hwm b k hb) e
  have pt : ∀ a o, Pt s.heap av a o → Pt s'.heap (av.filter (· ∉ wr)) a o := fun a o p => ⟨m.heap a o (fun k => p.2 (hwa a k)) p.1, fun k => p.2 (fil.mp k).1⟩
  have bnd : ∀ y u', Bound s.heap env y u' → Bound s'.heap env y u' := by
    intro y u' h
    rcases h with ⟨h1, m', h2, h3⟩ | ⟨h1, c', h2, h3⟩
    · exact .inl ⟨h1, m', h2.at' fun o e => mk _ ok.loc.1 o e, h3⟩
    · obtain ⟨o, e, hd⟩ := h3
      exact .inr ⟨h1, c', h2, o, mk _ (ok.cel _ _ h2).1 o e, hd⟩
  refine ⟨⟨fun b o e => m.heap b o (fun k => by rw [hw0 b k] at e; cases e) (ok.e.keep b o e), fun a ha => ?_, ok.e.fn, ok.e.gl, ok.e.bi, fun y c e => let ⟨h1, v, o, e', hd⟩ := ok.cel y c e; ⟨o, mk _ h1 o e'⟩, fun p hp => ?_⟩, ok.low, fun a ha => fil.mpr ⟨ok.sub a ha, fun k => hwm a k ha⟩, ok.out, fun a ha => fil.mpr ⟨ok.sub0 a ha, fun k => hwo a k ha⟩, ⟨ok.loc.1, ?_⟩, fun y c e => ?_, ok.apart, ok.own, ok.inj, ok.nodup⟩
  · obtain ⟨h1, h2⟩ := fil.mp ha
    obtain ⟨o, e⟩ := ok.e.live a h1
    exact ⟨o, m.heap a o h2 e⟩
  · obtain ⟨v, h1, h2⟩ := ok.e.vars p hp
    refine ⟨v, bnd _ _ h1, ?_⟩
    obtain ⟨y, sl⟩ := p
    cases sl with
    | sh d => exact Rep.mono pt _ _ h2
    | own zs =>
      obtain ⟨e, ws, q1, q2⟩ := h2
      exact ⟨e, ws, q1.at fun o e => mk _ (ok.own y zs hp) o e, RepAll.mono pt _ _ q2⟩
  · obtain ⟨m', e⟩ := ok.loc.2; exact ⟨m', e.at' fun o e => mk _ ok.loc.1 o e⟩
  · obtain ⟨h1, v, o, e', hd⟩ := ok.cel y c e
    exact ⟨h1, v, o, mk _ h1 o e', hd⟩

theorem PostW.more {av0 mu av wr : List Addr} {gw : List Nat} {s s' : Shared} {o : Out} {f : Flow} (h : Post G av0 mu av env s o f s') : PostW G av0 mu av env wr gw s o f s' := by
  have up : Mv ([] ++ mu) [] s s' → Mv (wr ++ mu) gw s s' := fun m => m.mono (fun a h => List.mem_append_right _ h) (by simp)
  have aft : ∀ σ', After G av0 mu av env [] s σ' s' → After G av0 mu av env wr s σ' s' := fun σ' ⟨mu', av', ad', h1, h2, h3, h4, ok⟩ => ⟨mu', av', ad', h1, h2, fun a ha hm _ => h3 a ha hm (by simp), h4, ok⟩
  cases o with
  | next σ' => obtain ⟨rfl, h1, h2⟩ := h; exact ⟨rfl, aft _ h1, up h2⟩
  | brk σ' => obtain ⟨rfl, h1, h2⟩ := h; exact ⟨rfl, aft _ h1, up h2⟩
  | ret d => obtain ⟨v, rfl, h1, h2⟩ := h; exact ⟨v, rfl, h1, up h2⟩

noncomputable def ForAt (G : Gx) (n : Nat) (env : Env) (tgt : Expr) (body : List Stmt) (σ : Sig) (l : List PyData) (ended : Bool) (o : Out) : Prop :=
  ∀ (A : Around), Rm n A → ∀ (av0 mu av : List Addr) (ad : Str → Addr) (s : Shared) (it : Value) (wr : List Addr) (gw : List Nat), (∀ a ∈ wr, a ∈ av) → (∀ a ∈ wr, a ∉ mu) → (∀ a ∈ wr, G.h0.get? a = none) → (∀ a ∈ wr, a ∉ av0) →
    Ok G av0 mu av env σ ad s → ItAt G.M A tgt it wr gw ended l mu av s → ∀ (R : Result → Shared → Prop), (∀ f s', PostW G av0 mu av env wr gw s o f s' → R (.ok f) s') →
      codeAny G.M A (.forLoop tgt it body [] env) R s

theorem Rm.zero {A : Around} (h : Rm n A) : Rm 0 A := h.le (Nat.zero_le _)

theorem ForAt.nil {tgt : Expr} {body : List Stmt} : ForAt G n env tgt body σ [] true (.next σ) := fun A hA av0 mu av ad s it wr gw hwa hwm hw0 hwo ok hit R hR => by
  have fil : ∀ {a : Addr}, a ∈ av.filter (· ∉ wr) ↔ a ∈ av ∧ a ∉ wr := by intro a; simp
  refine forLoop_step (hit rfl s (Mv.refl s) _ _ fun s'' m => ?_)
  have ok' := ok.left m hwa hwm hw0 hwo
  exact wpAny_execs_nil (hR _ _ ⟨rfl, ⟨mu, _, ad, fun _ h => .inl h, fun a h => .inl (fil.mp h).1, fun a ha _ hw => fil.mpr ⟨ha, hw⟩, ok'.muLive, ok'⟩, m.mono (fun a h => List.mem_append_left _ h) fun _ h => h⟩)

theorem ForAt.turn {tgt : Expr} {body : List Stmt} {x : PyData} {r : List PyData} {ended : Bool} {o : Out} {ob : Out} (ht : TgtTo G env σ tgt x σ1) (hb : ExsTo G n env σ1 body ob)
    (hn : ∀ σ', ob = .next σ' → ForAt G n env tgt body σ' r ended o) (hk : ∀ σ', ob = .brk σ' → o = .next σ') (hr : ∀ d, ob = .ret d → o = .ret d) : ForAt G n env tgt body σ (x :: r) ended o := fun A hA av0 mu av ad s it wr gw hwa hwm hw0 hwo ok hit R hR => by
  refine forLoop_step (hit mu av s (fun _ h => .inl h) (fun _ h => .inl h) ok.e.live (Mv.refl s) _ _ fun v s1 hv m1 hl1 hit1 => ?_)
  have ok1 := ok.drawn m1 hwa hwm hw0 hl1
  refine wpAny_mono (ht A hA.zero av0 mu av ad s1 v ok1 hv _) (fun _ s2 h2 => ?_) fun _ _ x => x
  obtain ⟨ok2, m2⟩ := h2
  have hl2 : ∀ a ∈ wr, ∃ o, s2.heap.get? a = some o := fun a ha => let ⟨o, e⟩ := hl1 a ha; ⟨o, m2.heap a o (hwm a ha) e⟩
  have m12 : Mv (wr ++ mu) gw s s2 := (m1.mono (wr' := wr ++ mu) (gw' := gw) (fun a h => List.mem_append_left _ h) fun _ h => h).trans (m2.mono (fun a h => List.mem_append_right _ h) (by simp))
  refine wpAny_mono (hb A hA av0 mu av ad s2 ok2 _) (fun f s3 hp => ?_) fun _ _ x => x
  have hp' : PostW G av0 mu av env wr gw s ob f s3 := PostW.then ok.e.live hwm (fun _ h => .inl h) (fun _ h => .inl h) (fun _ h _ _ => h) ok2.muLive hl2 m12 (PostW.more hp)
  cases ob with
  | brk σ' =>
    obtain ⟨rfl, h1, h2⟩ := hp'
    have := hk _ rfl
    subst this
    exact hR _ _ ⟨rfl, h1, h2⟩
  | ret d =>
    obtain ⟨v, rfl, h1, h2⟩ := hp'
    have := hr _ rfl
    subst this
    exact hR _ _ ⟨v, rfl, h1, h2⟩
  | next σ' =>
    obtain ⟨rfl, ⟨mu3, av3, ad3, g1, g2, g3, g4, ok3⟩, m3⟩ := hp
    have back : ∀ a, s2.heap.get? a = none → s1.heap.get? a = none := fun a => fresh_back (mu := mu) m2 ok2.muLive
    have back0 : ∀ a, s2.heap.get? a = none → s.heap.get? a = none := fun a => fresh_back (mu := mu) m12 fun a ha => (List.mem_append.mp ha).elim (hl2 a) (ok2.muLive a)
    have hl3 : ∀ a ∈ wr, ∃ o, s3.heap.get? a = some o := fun a ha => let ⟨o, e⟩ := hl2 a ha; ⟨o, m3.heap a o (by simpa using hwm a ha) e⟩
    have hit3 : ItAt G.M A tgt it wr gw ended r mu3 av3 s3 := hit1.step (fun a ha => (g1 a ha).imp id (back a)) (fun a ha => (g2 a ha).imp id (back a)) g4 (m2.trans m3)
    refine hn σ' rfl A hA av0 mu3 av3 ad3 s3 it wr gw (fun a ha => g3 a (hwa a ha) (hwm a ha) (by simp)) (fun a ha hm => ?_) hw0 hwo ok3 hit3 R fun f' s' hp3 => hR f' s' ?_
    · rcases g1 a hm with k | k
      · exact hwm a ha k
      · obtain ⟨o, e⟩ := hl2 a ha; rw [k] at e; cases e
    · exact PostW.then ok.e.live hwm (fun a ha => (g1 a ha).imp id (back0 a)) (fun a ha => (g2 a ha).imp id (back0 a)) (fun a ha hm _ => g3 a ha hm (by simp)) g4 hl3 (m12.trans (m3.mono (fun a h => List.mem_append_right _ (by simpa using h)) (by simp))) hp3

theorem ForAt.next {tgt : Expr} {body : List Stmt} {x : PyData} {r : List PyData} {ended : Bool} {o : Out} (ht : TgtTo G env σ tgt x σ1) (hb : ExsTo G n env σ1 body (.next σ2)) (hr : ForAt G n env tgt body σ2 r ended o) : ForAt G n env tgt body σ (x :: r) ended o :=
  ForAt.turn ht hb (fun _ e => by cases e; exact hr) (fun _ e => nomatch e) (fun _ e => nomatch e)
theorem ForAt.brk {tgt : Expr} {body : List Stmt} {x : PyData} {r : List PyData} {ended : Bool} (ht : TgtTo G env σ tgt x σ1) (hb : ExsTo G n env σ1 body (.brk σ2)) : ForAt G n env tgt body σ (x :: r) ended (.next σ2) :=
  ForAt.turn ht hb (fun _ e => nomatch e) (fun _ e => by cases e; rfl) (fun _ e => nomatch e)
theorem ForAt.ret {tgt : Expr} {body : List Stmt} {x : PyData} {r : List PyData} {ended : Bool} {d : PyData} (ht : TgtTo G env σ tgt x σ1) (hb : ExsTo G n env σ1 body (.ret d)) : ForAt G n env tgt body σ (x :: r) ended (.ret d) :=
  ForAt.turn ht hb (fun _ e => nomatch e) (fun _ e => nomatch e) (fun _ e => by cases e; rfl)
theorem ForAt.sub {tgt : Expr} {body : List Stmt} {l : List PyData} {ended : Bool} {o : Out} (hs : ∀ p ∈ σ', p ∈ σ) (hn : (σ'.map Prod.fst).Nodup) (h : ForAt G n env tgt body σ' l ended o) : ForAt G n env tgt body σ l ended o :=
  fun A hA av0 mu av ad s it wr gw hwa hwm hw0 hwo ok hit R hR => h A hA av0 mu av ad s it wr gw hwa hwm hw0 hwo (ok.weak hs hn) hit R hR

/-- what a loop's head makes -/
noncomputable def IterTo (G : Gx) (n : Nat) (env : Env) (σ : Sig) (tgt : Expr) (e : Expr) (l : List PyData) (ended : Bool) : Prop :=
  ∀ (A : Around), Rm n A → ∀ (mu av : List Addr) (ad : Str → Addr) (s : Shared), OkE G av env σ ad s → (∀ a ∈ mu, a ∈ av) → (∀ a ∈ mu, G.h0.get? a = none) → ∀ (E : Value → Shared → Prop),
    wpAny G.M A (eval e env) (fun x s1 => wpAny G.M A (pyIter x) (fun it s2 => ∃ wr gw, (∀ a ∈ wr, s.heap.get? a = none) ∧ (∀ a ∈ wr, ∃ o, s2.heap.get? a = some o) ∧ (∀ g ∈ gw, s.gens[g]? = none) ∧ Mv [] [] s s2 ∧
      (∀ s', Mv [] [] s2 s' → ∀ (Q : Value → Shared → Prop) (E : Value → Shared → Prop), Q it s' → wpAny G.M A (pyIter it) Q E s') ∧ ItAt G.M A tgt it wr gw ended l mu (wr ++ av) s2) E s1) E s

theorem Ok.growAv {av0 mu av wr : List Addr} {ad : Str → Addr} {s s1 : Shared} (ok : Ok G av0 mu av env σ ad s) (m : Mv [] [] s s1) (hw : ∀ a ∈ wr, s.heap.get? a = none) (hl : ∀ a ∈ wr, ∃ o, s1.heap.get? a = some o) : Ok G av0 mu (wr ++ av) env σ ad s1 := by
  have ok1 := ok.mv m
  have hk : ∀ b o, s.heap.get? b = some o → s1.heap.get? b = some o := fun b o e => m.heap b o (by simp) e
  refine ⟨⟨ok1.e.keep, fun x hx => (List.mem_append.mp hx).elim (hl x) (ok1.e.live x), ok.e.fn, ok.e.gl, ok.e.bi, ok1.e.cl, fun p hp => ?_⟩, ok.low, fun x hx => List.mem_append_right _ (ok.sub x hx), ok.out, fun x hx => List.mem_append_right _ (ok.sub0 x hx), ok1.loc, ok1.cel, ok.apart, ok.own, ok.inj, ok.nodup⟩
  obtain ⟨v, h1, h2⟩ := ok.e.vars p hp
  exact ⟨v, h1.keeps hk, (h2.avs fun x hx => (List.mem_append.mp hx).elim (fun k => .inr (hw x k)) .inl).keeps hk⟩

theorem ExTo.for {tgt e : Expr} {body : List Stmt} {pos : Pos} {l : List PyData} {ended : Bool} {o : Out} (hi : IterTo G n env σ tgt e l ended) (hf : ForAt G n env tgt body σ l ended o)
    (hs : ∀ x, foldedSetIterable e env x = pure x) : ExTo G n env σ (.For tgt e body [] pos) o := fun A hA av0 mu av ad s ok E => by
  refine wpAny_For (wpAny_mono (hi A hA mu av ad s ok.e ok.sub ok.low E) (fun x s1 h1 => wpAny_mono h1 (fun it s2 h2 => ?_) fun _ _ x => x) fun _ _ x => x) hs
  obtain ⟨wr, gw, hw, hl, hg, m, _, hit⟩ := h2
  have hav : ∀ a ∈ av, a ∉ wr := fun a ha k => by obtain ⟨o, e⟩ := ok.e.live a ha; rw [hw a k] at e; cases e
  have ok2 := ok.growAv m hw hl
  refine hf A hA av0 mu (wr ++ av) ad s2 it wr gw (fun a h => List.mem_append_left _ h) (fun a h k => hav a (ok.sub a k) h) (fun a h => ?_) (fun a h k => hav a (ok.sub0 a k) h) ok2 hit _ fun f s' hp => ?_
  · cases e : G.h0.get? a with
    | none => rfl
    | some o => have := ok.e.keep a o e; rw [hw a h] at this; cases this
  · have back : ∀ a, s2.heap.get? a = none → s.heap.get? a = none := fun a => fresh_back (mu := []) m (by simp)
    have mm : Mv (wr ++ mu) gw s2 s' → Mv ([] ++ mu) [] s s' := fun m2 => ((m.mono (wr' := wr ++ mu) (gw' := gw) (by simp) (by simp)).trans m2).shrink (fun a ha => (List.mem_append.mp ha).elim (fun k => .inr (hw a k)) .inl) (fun g hgg => .inr (hg g hgg))
    have aft : ∀ σ', After G av0 mu (wr ++ av) env wr s2 σ' s' → After G av0 mu av env [] s σ' s' := by
      rintro σ' ⟨mu', av', ad', h1, h2, h3, h4, ok'⟩
      refine ⟨mu', av', ad', fun a ha => (h1 a ha).imp id (back a), fun a ha => ?_, fun a ha hm _ => h3 a (List.mem_append_right _ ha) hm (hav a ha), h4, ok'⟩
      rcases h2 a ha with k | k
      · exact (List.mem_append.mp k).elim (fun k => .inr (hw a k)) .inl
      · exact .inr (back a k)
    cases o with
    | next σ' => obtain ⟨rfl, h1, h2⟩ := hp; exact ⟨rfl, aft _ h1, mm h2⟩
    | brk σ' => obtain ⟨rfl, h1, h2⟩ := hp; exact ⟨rfl, aft _ h1, mm h2⟩
    | ret d => obtain ⟨v, rfl, h1, h2⟩ := hp; exact ⟨v, rfl, h1, mm h2⟩
end
end Mine
end

section
open PySem PyProof.Rows
namespace Mine

inductive TgtOk : Expr → Prop
  | name (x : Str) (p : Pos) : TgtOk (.Name x p)
  | tup (es : List Expr) (k : Nat) (p : Pos) : TgtOk (.Tuple es k p)

/-- ints from a on, n of them -/
noncomputable def upFrom (a : Int) : Nat → List Int
  | 0 => []
  | n + 1 => a :: upFrom (a + 1) n
/-- a place stays outside what may be written -/
theorem stay {mu mu' : List Addr} {s : Shared} {a : Addr} {o : Obj} (h : a ∉ mu) (e : s.heap.get? a = some o) (h1 : ∀ a ∈ mu', a ∈ mu ∨ s.heap.get? a = none) : a ∉ mu' := fun k => by
  rcases h1 a k with k | k
  · exact h k
  · rw [k] at e; cases e

section
variable {prog : Program} {w : World} {A : Around} {tgt : Expr}

theorem lot_list (ht : TgtOk tgt) {I l : Addr} {i : Nat} {v : Value} {s : Shared} {Q : Unit → Shared → Prop} {E : Value → Shared → Prop} (hit : s.heap.IsListIter I l i) (h : Q () s) : wpAny (model prog w) A (letOwnedTupleGo tgt (.ref I) v) Q E s := by
  cases ht with
  | name x p => exact wpAny_pure h
  | tup es k p =>
    cases v with
    | ref T => exact wpAny_letOwnedTupleGo_listiter hit h
    | _ => exact wpAny_pure h

theorem listIt (ht : TgtOk tgt) (hh : A.handled = none) {I ax : Addr} {items : Array Value} (hne : ax ≠ I) : ∀ (l : List PyData) (i : Nat) (mu av : List Addr) (s : Shared), s.heap.IsListIter I ax i → s.heap.IsList ax items → I ∉ mu → ax ∉ mu →
    RepAll (Pt s.heap (I :: (mu ++ av))) l (items.toList.drop i) → ItAt (model prog w) A tgt (.ref I) [I] [] true l mu av s
  | [], i, mu, av, s, hit, hl, h1, h2, hr => fun _ s' m Q E hQ => by
    have hx : items[i]? = none := by
      have := hr.length
      simp only [List.length_drop, Array.length_toList, List.length_nil] at this
      exact Array.getElem?_eq_none (by omega)
    refine wpAny_pyNext_list_end hh (hit.at fun o e => m.heap _ o h1 e) (hl.at fun o e => m.heap _ o h2 e) hx fun h' he => hQ _ ⟨fun b o hb e => he b o (by simpa using hb) e, fun _ _ _ e => e, fun e => e, rfl⟩
  | x :: r, i, mu, av, s, hit, hl, h1, h2, hr => fun mu' av' s' g1 g2 g3 m Q E hQ => by
    obtain ⟨oI, eI, _⟩ := id hit
    obtain ⟨oA, eA, _⟩ := id hl
    have hit' := hit.at (h' := s'.heap) fun o e => m.heap _ o h1 e
    have hl' := hl.at (h' := s'.heap) fun o e => m.heap _ o h2 e
    have hr' : RepAll (Pt s'.heap (I :: (mu' ++ av'))) (x :: r) (items.toList.drop i) := RepAll.mono (fun a o p => by
      have hm : a ∉ mu := fun k => p.2 (List.mem_cons_of_mem _ (List.mem_append_left _ k))
      refine ⟨m.heap a o hm p.1, fun k => ?_⟩
      rcases List.mem_cons.mp k with k | k
      · exact p.2 (k ▸ List.mem_cons_self)
      · rcases List.mem_append.mp k with k | k
        · exact stay hm p.1 g1 k
        · rcases g2 a k with k | k
          · exact p.2 (List.mem_cons_of_mem _ (List.mem_append_right _ k))
          · exact nomatch k.symm.trans p.1) _ _ hr
    simp only [RepAll] at hr'
    obtain ⟨v, rest, e1, rv, rr⟩ := hr'
    have hx : items[i]? = some v := by
      have : items.toList[i]? = some v := by
        have := congrArg (fun l => l[0]?) e1
        simpa using this
      simpa using this
    have hd : items.toList.drop (i + 1) = rest := by
      have := congrArg List.tail e1
      simpa using this
    refine wpAny_pyNext_list_item hit' hl' hx fun h' hit2 hs2 => ?_
    refine lot_list ht hit2 (hQ v _ ?_ ⟨fun b o hb e => hs2.extBut b o (by simpa using hb) e, fun _ _ _ e => e, fun e => e, rfl⟩ (fun a ha => by simp at ha; subst ha; obtain ⟨o, e, _⟩ := hit2; exact ⟨o, e⟩) ?_)
    · exact Rep.mono (fun a o p => ⟨hs2.extBut a o (fun k => p.2 (k ▸ List.mem_cons_self)) p.1, fun k => p.2 (List.mem_cons_of_mem _ (List.mem_append_right _ k))⟩) _ _ rv
    · refine listIt ht hh hne r (i + 1) mu' av' _ hit2 (hl'.extBut hs2.extBut hne) (stay h1 eI g1) (stay h2 eA g1) ?_
      rw [hd]
      exact RepAll.mono (fun a o p => ⟨hs2.extBut a o (fun k => p.2 (k ▸ List.mem_cons_self)) p.1, p.2⟩) _ _ rr

theorem lot_range (ht : TgtOk tgt) {I : Addr} {x y z : Int} {i : Int} {t : Tok} {s : Shared} {Q : Unit → Shared → Prop} {E : Value → Shared → Prop} (h : Q () s) : wpAny (model prog w) A (letOwnedTupleGo tgt (.ref I) (.int i t)) Q E s := by
  cases ht with
  | name x p => exact wpAny_pure h
  | tup es k p => exact wpAny_pure h

theorem rangeIt (ht : TgtOk tgt) (hh : A.handled = none) {I : Addr} : ∀ (n : Nat) (a : Int) (mu av : List Addr) (s : Shared), IsRangeIter s.heap I a n 1 → I ∉ mu → ItAt (model prog w) A tgt (.ref I) [I] [] true ((upFrom a n).map .int) mu av s
  | 0, a, mu, av, s, hit, h1 => fun _ s' m Q E hQ =>
    wpAny_pyNext_range_end hh (m.heap _ _ h1 hit) (by simp) fun h' he => hQ _ ⟨fun b o hb e => he b o (by simpa using hb) e, fun _ _ _ e => e, fun e => e, rfl⟩
  | n + 1, a, mu, av, s, hit, h1 => fun mu' av' s' g1 g2 g3 m Q E hQ => by
    refine wpAny_pyNext_range_item (m.heap _ _ h1 hit) (by omega) fun h' hit2 hs2 => ?_
    refine lot_range ht (x := 0) (y := 0) (z := 0) (hQ _ _ Rep.int ⟨fun b o hb e => hs2.extBut b o (by simpa using hb) e, fun _ _ _ e => e, fun e => e, rfl⟩ (fun a ha => by simp at ha; subst ha; exact ⟨_, hit2⟩) ?_)
    refine rangeIt ht hh n (a + 1) mu' av' _ ?_ (stay h1 hit g1)
    have e : ((n + 1 : Nat) : Int) - 1 = (n : Int) := by omega
    rw [e] at hit2
    exact hit2

theorem lot_enum {es : List Expr} {k : Nat} {p : Pos} {e it a : Addr} {i : Int} {item : Value} {s : Shared} {Q : Unit → Shared → Prop} {E : Value → Shared → Prop} (he : IsEnumOut s.heap e it i item a)
    (hQ : ∀ h', IsEnum h' e it i item → Heap.SameBut e s.heap h' → Q () { s with heap := h' }) : wpAny (model prog w) A (letOwnedTupleGo (.Tuple es k p) (.ref e) (.ref a)) Q E s := wpAny_letOwnedTupleGo_enum he hQ

/-- numbered from k on -/
noncomputable def numbered : Int → List PyData → List PyData
  | _, [] => []
  | k, x :: r => .tuple [.int k, x] :: numbered (k + 1) r

theorem enumIt {es : List Expr} {k : Nat} {p : Pos} (hh : A.handled = none) {e it ax : Addr} {items : Array Value} (hne : ax ≠ it) (hne2 : e ≠ it) (hne3 : ax ≠ e) : ∀ (l : List PyData) (i : Nat) (old : Value) (mu av : List Addr) (s : Shared),
    IsEnum s.heap e it i old → s.heap.IsListIter it ax i → s.heap.IsList ax items → e ∉ mu → it ∉ mu → ax ∉ mu →
    RepAll (Pt s.heap (e :: it :: (mu ++ av))) l (items.toList.drop i) → ItAt (model prog w) A (.Tuple es k p) (.ref e) [e, it] [] true (numbered i l) mu av s
  | [], i, old, mu, av, s, he, hit, hl, h0, h1, h2, hr => fun _ s' m Q E hQ => by
    have hx : items[i]? = none := by
      have := hr.length
      simp only [List.length_drop, Array.length_toList, List.length_nil] at this
      exact Array.getElem?_eq_none (by omega)
    exact wpAny_pyNext_enum_end hh (m.heap _ _ h0 he) (hit.at fun o e => m.heap _ o h1 e) (hl.at fun o e => m.heap _ o h2 e) hx fun h' he => hQ _ ⟨fun b o hb e => he b o (by simp at hb; exact hb.2) e, fun _ _ _ e => e, fun e => e, rfl⟩
  | x :: r, i, old, mu, av, s, he, hit, hl, h0, h1, h2, hr => fun mu' av' s' g1 g2 g3 m Q E hQ => by
    obtain ⟨oI, eI, _⟩ := id hit
    obtain ⟨oA, eA, _⟩ := id hl
    have he' : IsEnum s'.heap e it i old := m.heap _ _ h0 he
    have hit' := hit.at (h' := s'.heap) fun o e => m.heap _ o h1 e
    have hl' := hl.at (h' := s'.heap) fun o e => m.heap _ o h2 e
    have hr' : RepAll (Pt s'.heap (e :: it :: (mu' ++ av'))) (x :: r) (items.toList.drop i) := RepAll.mono (fun a o p => by
      have hm : a ∉ mu := fun k => p.2 (List.mem_cons_of_mem _ (List.mem_cons_of_mem _ (List.mem_append_left _ k)))
      refine ⟨m.heap a o hm p.1, fun k => ?_⟩
      rcases List.mem_cons.mp k with k | k
      · exact p.2 (k ▸ List.mem_cons_self)
      · rcases List.mem_cons.mp k with k | k
        · exact p.2 (k ▸ List.mem_cons_of_mem _ List.mem_cons_self)
        · rcases List.mem_append.mp k with k | k
          · exact stay hm p.1 g1 k
          · rcases g2 a k with k | k
            · exact p.2 (List.mem_cons_of_mem _ (List.mem_cons_of_mem _ (List.mem_append_right _ k)))
            · exact nomatch k.symm.trans p.1) _ _ hr
    simp only [RepAll] at hr'
    obtain ⟨v, rest, e1, rv, rr⟩ := hr'
    have hx : items[i]? = some v := by
      have : items.toList[i]? = some v := by
        have := congrArg (fun l => l[0]?) e1
        simpa using this
      simpa using this
    have hd : items.toList.drop (i + 1) = rest := by
      have := congrArg List.tail e1
      simpa using this
    refine wpAny_pyNext_enum_item he' hit' hl' hx hne2 fun h' he2 hit2 htup hsz hk2 => ?_
    refine lot_enum he2 fun h'' he3 hs3 => ?_
    have hee : s'.heap.objs.size ≠ e := fun k => Nat.lt_irrefl _ (k ▸ Heap.lt_size he')
    have up : ∀ b o, b ≠ e → b ≠ it → s'.heap.get? b = some o → h''.get? b = some o := fun b o hb1 hb2 eb => hs3.extBut b o hb1 (hk2 b o hb1 hb2 eb)
    refine hQ _ _ ?_ ⟨fun b o hb eb => up b o (by simp at hb; exact hb.1) (by simp at hb; exact hb.2) eb, fun _ _ _ e => e, fun e => e, rfl⟩ (fun a ha => ?_) ?_
    · refine Rep.tuple (o := { cls := .type "tuple", data := .seq #[.int i s'.toks, v] }) (n := 0) ⟨hs3.extBut _ _ hee htup, fun hk => ?_⟩ rfl rfl (RepAll.cons Rep.int (RepAll.cons ?_ RepAll.nil))
      · obtain ⟨o, eo⟩ := g3 _ hk
        exact absurd (Heap.lt_size eo) (Nat.lt_irrefl _)
      · exact Rep.mono (fun a o p => ⟨up a o (fun k => p.2 (k ▸ List.mem_cons_self)) (fun k => p.2 (k ▸ List.mem_cons_of_mem _ List.mem_cons_self)) p.1, fun k => p.2 (List.mem_cons_of_mem _ (List.mem_cons_of_mem _ (List.mem_append_right _ k)))⟩) _ _ rv
    · simp at ha
      rcases ha with rfl | rfl
      · exact ⟨_, he3⟩
      · obtain ⟨o, eo, _⟩ := hit2
        exact ⟨o, hs3.extBut _ o (Ne.symm hne2) eo⟩
    · have e4 : ((i : Int) + 1) = ((i + 1 : Nat) : Int) := by omega
      have := enumIt (es := es) (k := k) (p := p) hh hne hne2 hne3 r (i + 1) v mu' av' { s' with heap := h'', toks := s'.toks + 1 } (by rw [← e4]; exact he3) (hit2.extBut hs3.extBut (Ne.symm hne2)) (hl'.at fun o eo => up _ o hne3 hne eo) (stay h0 he g1) (stay h1 eI g1) (stay h2 eA g1) (by
        rw [hd]
        exact RepAll.mono (fun a o p => ⟨up a o (fun k => p.2 (k ▸ List.mem_cons_self)) (fun k => p.2 (k ▸ List.mem_cons_of_mem _ List.mem_cons_self)) p.1, p.2⟩) _ _ rr)
      rw [← e4] at this
      exact this
end
end Mine
namespace Mine
section
variable {b : Bool} {G : Gx} {n : Nat} {env : Env} {σ σ' σ1 σ2 : Sig} {tgt : Expr}

theorem IterTo.list {e : Expr} {xs : List PyData} (ht : TgtOk tgt) (h : EvTo G n env σ e (.list xs)) : IterTo G n env σ tgt e xs true := fun A hA mu av ad s ok hsub hlow E => by
  refine wpAny_mono (h A hA av ad s ok E) (fun v s1 h1 => ?_) fun _ _ x => x
  obtain ⟨r, m⟩ := h1
  obtain ⟨ax, items, rfl, ha, hl, hr⟩ := (show Rep (Pt s1.heap av) (.list xs) v by simpa [sel] using r).list_inv
  obtain ⟨oA, eA, _⟩ := id hl
  have hlt : ax < s1.heap.objs.size := Heap.lt_size eA
  refine wpAny_pyIter_list hl ⟨[s1.heap.objs.size], [], fun a h => by simp at h; subst h; exact none_of_size m (Nat.le_refl _), fun a h => by simp at h; subst h; exact ⟨_, Heap.get?_push_size _ rfl⟩, by simp, m.trans (Mv.push _), fun s' m' Q E hq => wpAny_pyIter_listiter (l := ax) (i := 0) ⟨_, m'.heap _ _ (by simp) (Heap.get?_push_size _ rfl), rfl, rfl⟩ hq, ?_⟩
  refine listIt ht hA.hh (Nat.ne_of_lt hlt) xs 0 mu _ _ ⟨_, Heap.get?_push_size _ rfl, rfl, rfl⟩ (hl.push _) (fun k => ?_) (fun k => ha (hsub ax k)) ?_
  · obtain ⟨o, e⟩ := (ok.mv m).live _ (hsub _ k)
    exact absurd (Heap.lt_size e) (Nat.lt_irrefl _)
  · rw [List.drop_zero]
    refine RepAll.mono (fun a o p => ⟨Heap.get?_push_of_some _ p.1, fun k => ?_⟩) _ _ hr
    have hlt' := Heap.lt_size p.1
    simp at k
    rcases k with k | k | k | k
    · subst k; exact Nat.lt_irrefl _ hlt'
    · exact p.2 (hsub a k)
    · subst k; exact Nat.lt_irrefl _ hlt'
    · exact p.2 k

theorem range_tail {A : Around} (hA : Rm n A) {mu av : List Addr} {ad : Str → Addr} {s s1 : Shared} {E : Value → Shared → Prop} (ok : OkE G av env σ ad s1) (m : Mv [] [] s s1) (hsub : ∀ a ∈ mu, a ∈ av) (ht : TgtOk tgt) {r : Addr} {a c : Int} {t u v : Tok} (hr : IsRange s1.heap r a c 1 t u v)
    (ha : -(2 ^ 62) ≤ a) (ha' : a < 2 ^ 62) (hb : -(2 ^ 62) ≤ c) (hb' : c < 2 ^ 62) :
    wpAny G.M A (pyIter (.ref r)) (fun it s2 => ∃ wr gw, (∀ a ∈ wr, s.heap.get? a = none) ∧ (∀ a ∈ wr, ∃ o, s2.heap.get? a = some o) ∧ (∀ g ∈ gw, s.gens[g]? = none) ∧ Mv [] [] s s2 ∧ (∀ s', Mv [] [] s2 s' → ∀ (Q : Value → Shared → Prop) (E : Value → Shared → Prop), Q it s' → wpAny G.M A (pyIter it) Q E s') ∧ ItAt G.M A tgt it wr gw true ((upFrom a (c - a).toNat).map .int) mu (wr ++ av) s2) E s1 := by
  refine wpAny_pyIter_range hr (small_one ha ha' hb hb') ⟨[s1.heap.objs.size], [], fun a h => by simp at h; subst h; exact none_of_size m (Nat.le_refl _), fun a h => by simp at h; subst h; exact ⟨_, Heap.get?_push_size _ rfl⟩, by simp, m.trans (Mv.push _), fun s' m' Q E hq => wpAny_pyIter_rangeiter (m'.heap _ _ (by simp) (Heap.get?_push_size _ rfl)) hq, ?_⟩
  refine rangeIt ht hA.hh _ a mu _ _ ?_ (fun k => ?_)
  · have e : Builtin.Range.rangeSize a c 1 = ((c - a).toNat : Int) := by rw [rangeSize_one]; split <;> omega
    rw [e]
    exact Heap.get?_push_size _ rfl
  · obtain ⟨o, e⟩ := ok.live _ (hsub _ k)
    exact absurd (Heap.lt_size e) (Nat.lt_irrefl _)

theorem IterTo.range1 {np pos : Pos} {e : Expr} {c : Int} (ht : TgtOk tgt) (hk : env.kindOf (Str.ofString "range") = some .globalImplicit) (hv : GlobIs G (Str.ofString "range") (.type "range")) (h : EvTo G n env σ e (.int c))
    (hb : -(2 ^ 62) ≤ c) (hb' : c < 2 ^ 62) (he : starEach [e] env = [(false, eval e env)]) : IterTo G n env σ tgt (.Call (.Name (Str.ofString "range") np) [e] [] pos) ((upFrom 0 c.toNat).map .int) true := fun A hA mu av ad s ok hsub hlow E => by
  refine Call_ (wpAny_globName ok hk hv (by decide +kernel) (PyProof.Rows.callWith_type1 (args_cons (wpAny_mono (h A hA av ad s ok E) (fun v s1 h1 => args_nil ?_) fun _ _ x => x) he) he)) rfl
  obtain ⟨r, m⟩ := h1
  obtain ⟨t, rfl⟩ := r.int_inv
  refine call_range_1 ?_
  have m2 : Mv [] [] s { s1 with heap := s1.heap.push { cls := .type "range", data := .fields #[.int 0 s1.toks, .int c t, .int 1 (s1.toks + 1)] }, toks := s1.toks + 1 + 1 } := m.trans ⟨fun _ _ _ e => Heap.get?_push_of_some _ e, fun _ _ _ e => e, fun e => e, rfl⟩
  have := range_tail (E := E) hA (ok.mv m2) m2 hsub ht (a := 0) (c := c) (Heap.get?_push_size _ rfl) (by omega) (by omega) hb hb'
  simpa using this
theorem IterTo.range2 {np pos : Pos} {e1 e2 : Expr} {a c : Int} (ht : TgtOk tgt) (hk : env.kindOf (Str.ofString "range") = some .globalImplicit) (hv : GlobIs G (Str.ofString "range") (.type "range")) (h1 : EvTo G n env σ e1 (.int a)) (h2 : EvTo G n env σ e2 (.int c))
    (ha : -(2 ^ 62) ≤ a) (ha' : a < 2 ^ 62) (hb : -(2 ^ 62) ≤ c) (hb' : c < 2 ^ 62) (he : starEach [e1, e2] env = (false, eval e1 env) :: starEach [e2] env) (he2 : starEach [e2] env = [(false, eval e2 env)]) :
    IterTo G n env σ tgt (.Call (.Name (Str.ofString "range") np) [e1, e2] [] pos) ((upFrom a (c - a).toNat).map .int) true := fun A hA mu av ad s ok hsub hlow E => by
  refine Call_ (wpAny_globName ok hk hv (by decide +kernel) (PyProof.Rows.callWith_type1 (args_cons (wpAny_mono (h1 A hA av ad s ok E) (fun v s1 g1 => args_cons (wpAny_mono (h2 A hA av ad s1 (ok.mv g1.2) E) (fun v2 s2 g2 => args_nil ?_) fun _ _ x => x) he2) fun _ _ x => x) he) he (by rw [he2]; rfl))) rfl
  obtain ⟨r, m⟩ := g1
  obtain ⟨t, rfl⟩ := r.int_inv
  obtain ⟨r2, m2⟩ := g2
  obtain ⟨t2, rfl⟩ := r2.int_inv
  refine call_range_2 ?_
  have m3 : Mv [] [] s { s2 with heap := s2.heap.push { cls := .type "range", data := .fields #[.int a t, .int c t2, .int 1 s2.toks] }, toks := s2.toks + 1 } := (m.trans m2).trans ⟨fun _ _ _ e => Heap.get?_push_of_some _ e, fun _ _ _ e => e, fun e => e, rfl⟩
  exact range_tail (E := E) hA (ok.mv m3) m3 hsub ht (Heap.get?_push_size _ rfl) ha ha' hb hb'

theorem IterTo.enum {np pos : Pos} {es : List Expr} {k : Nat} {p : Pos} {e : Expr} {xs : List PyData} (hk : env.kindOf (Str.ofString "enumerate") = some .globalImplicit) (hv : GlobIs G (Str.ofString "enumerate") (.type "enumerate")) (h : EvTo G n env σ e (.list xs))
    (he : starEach [e] env = [(false, eval e env)]) : IterTo G n env σ (.Tuple es k p) (.Call (.Name (Str.ofString "enumerate") np) [e] [] pos) (numbered 0 xs) true := fun A hA mu av ad s ok hsub hlow E => by
  refine Call_ (wpAny_globName ok hk hv (by decide +kernel) (PyProof.Rows.callWith_type1 (args_cons (wpAny_mono (h A hA av ad s ok E) (fun v s1 h1 => args_nil ?_) fun _ _ x => x) he) he)) rfl
  obtain ⟨r, m⟩ := h1
  obtain ⟨ax, items, rfl, ha, hl, hr⟩ := (show Rep (Pt s1.heap av) (.list xs) v by simpa [sel] using r).list_inv
  obtain ⟨oA, eA, _⟩ := id hl
  have hlt : ax < s1.heap.objs.size := Heap.lt_size eA
  refine call_enumerate_list hl fun h' he hit hsz hk' => ?_
  have m2 : Mv [] [] s { s1 with heap := h' } := m.trans ⟨fun b o _ e => hk' b o e, fun _ _ _ e => e, fun e => e, rfl⟩
  have nomu : ∀ a, s1.heap.objs.size ≤ a → a ∉ mu := fun a hle k => by
    obtain ⟨o, e⟩ := (ok.mv m).live _ (hsub _ k)
    exact absurd (Heap.lt_size e) (Nat.not_lt.mpr hle)
  refine wpAny_pyIter_enum he ⟨[s1.heap.objs.size + 1, s1.heap.objs.size], [], fun a h => ?_, fun a h => ?_, by simp, m2, fun s' m' Q E hq => wpAny_pyIter_enum (m'.heap _ _ (by simp) he) hq, ?_⟩
  · simp at h
    rcases h with rfl | rfl
    · exact none_of_size m (Nat.le_succ _)
    · exact none_of_size m (Nat.le_refl _)
  · simp at h
    rcases h with rfl | rfl
    · exact ⟨_, he⟩
    · obtain ⟨o, e, _⟩ := hit; exact ⟨o, e⟩
  · refine enumIt (i := 0) hA.hh (Nat.ne_of_lt hlt) (Nat.succ_ne_self _) (Nat.ne_of_lt (Nat.lt_succ_of_lt hlt)) xs .none mu _ _ he hit (hl.at fun o e => hk' _ o e) (nomu _ (Nat.le_succ _)) (nomu _ (Nat.le_refl _)) (fun k => ha (hsub ax k)) ?_
    rw [List.drop_zero]
    refine RepAll.mono (fun a o p => ⟨hk' _ _ p.1, fun k => ?_⟩) _ _ hr
    have hlt' := Heap.lt_size p.1
    simp at k
    rcases k with k | k | k | k | k | k
    · subst k; exact absurd hlt' (Nat.not_lt.mpr (Nat.le_succ _))
    · subst k; exact Nat.lt_irrefl _ hlt'
    · exact p.2 (hsub a k)
    · subst k; exact absurd hlt' (Nat.not_lt.mpr (Nat.le_succ _))
    · subst k; exact Nat.lt_irrefl _ hlt'
    · exact p.2 k
end
end Mine
end

section
open PySem PyProof.Rows
namespace Mine

theorem bindL_skip {k : Str → Option NameKind} {x : Str} : ∀ {bs : List (Str × Value)} {m : Str → Option Value}, x ∉ bs.map Prod.fst → bindL k bs m x = m x
  | [], m, _ => rfl
  | (n, v) :: r, m, h => by
    simp only [List.map_cons, List.mem_cons, not_or] at h
    unfold bindL
    rw [bindL_skip h.2]
    split
    · simp [h.1]
    · rfl
theorem bindC_skip {k : Str → Option NameKind} {x : Str} : ∀ {bs : List (Str × Value)} {m : Str → Option Value}, x ∉ bs.map Prod.fst → bindC k bs m x = m x
  | [], m, _ => rfl
  | (n, v) :: r, m, h => by
    simp only [List.map_cons, List.mem_cons, not_or] at h
    unfold bindC
    rw [bindC_skip h.2]
    split
    · rfl
    · simp [h.1]
theorem bindL_mem {k : Str → Option NameKind} {x : Str} {v : Value} (hk : k x = some .local) : ∀ {bs : List (Str × Value)} {m : Str → Option Value}, (bs.map Prod.fst).Nodup → (x, v) ∈ bs → bindL k bs m x = some v
  | (n, u) :: r, m, hn, h => by
    simp only [List.map_cons, List.nodup_cons] at hn
    unfold bindL
    rcases List.mem_cons.mp h with e | h
    · cases e
      rw [bindL_skip hn.1, if_pos hk]; simp
    · exact bindL_mem hk hn.2 h
theorem bindC_mem {k : Str → Option NameKind} {x : Str} {v : Value} (hk : k x ≠ some .local) : ∀ {bs : List (Str × Value)} {m : Str → Option Value}, (bs.map Prod.fst).Nodup → (x, v) ∈ bs → bindC k bs m x = some v
  | (n, u) :: r, m, hn, h => by
    simp only [List.map_cons, List.nodup_cons] at hn
    unfold bindC
    rcases List.mem_cons.mp h with e | h
    · cases e
      rw [bindC_skip hn.1, if_neg hk]; simp
    · exact bindC_mem hk hn.2 h

/-- the arguments under their names -/
noncomputable def sig0 : List Str → List PyData → Sig
  | x :: xs, d :: ds => (x, .sh d) :: sig0 xs ds
  | _, _ => []
theorem sig0_names : ∀ {xs : List Str} {ds : List PyData}, xs.length = ds.length → (sig0 xs ds).map Prod.fst = xs
  | [], [], _ => rfl
  | x :: xs, d :: ds, h => by simp [sig0, sig0_names (xs := xs) (ds := ds) (by simpa using h)]
theorem sig0_mem {P : Addr → Obj → Prop} : ∀ {xs : List Str} {ds : List PyData} {vs : List Value}, RepAll P ds vs → ∀ p ∈ sig0 xs ds, ∃ v d, p.2 = .sh d ∧ (p.1, v) ∈ xs.zip vs ∧ Rep P d v
  | [], _, _, _, p, hp => by simp [sig0] at hp
  | _ :: _, [], _, _, p, hp => by simp [sig0] at hp
  | x :: xs, d :: ds, _, r, p, hp => by
    simp only [RepAll] at r
    obtain ⟨v, w, rfl, h2, h3⟩ := r
    simp only [sig0, List.mem_cons] at hp
    rcases hp with rfl | hp
    · exact ⟨v, d, rfl, by simp, h2⟩
    · obtain ⟨u, e, h4, h5, h6⟩ := sig0_mem h3 p hp
      exact ⟨u, e, h4, by simp [h5], h6⟩

/-- a def as it stands in the heap -/
structure DefAt (G : Gx) (fa : Addr) (fd : FuncData) (body : List Stmt) (names : List Str) : Prop where
  obj : ∃ o, G.h0.get? fa = some o ∧ o.data = .func fd
  code : G.h0.CodeRec fd.code fd.qualname
  body : fd.body = .stmts body
  clo : fd.closure = []
  gl : fd.globals = mainGlobals
  bi : fd.builtins = builtinsNs
  co : fd.scope.isCoroutine = false
  kind : fd.scope.kind = .function
  nodup : names.Nodup
  kinds : ∀ x ∈ names, fd.scope.names.lookup x = some .local ∨ (fd.scope.names.lookup x = some .cell ∧ ∀ k, ((cellsFrom k fd.scope.names []).lookup x).isSome = true)
  bind : ∀ vs : List Value, vs.length = names.length → bindArgs fd ⟨vs, []⟩ = pure (names.zip vs)

/-- the places of a frame -/
noncomputable def framePlaces (env : Env) : List Addr := env.locals :: env.cells.filterMap fun p => env.cells.lookup p.1

section
variable {G : Gx} {n : Nat} {fa : Addr} {fd : FuncData} {body : List Stmt} {names : List Str}

theorem Ok.entry (D : DefAt G fa fd body names) {av : List Addr} {s s1 : Shared} {vs : List Value} {ds : List PyData} (keep : ∀ b o, G.h0.get? b = some o → s.heap.get? b = some o) (live : ∀ a ∈ av, ∃ o, s.heap.get? a = some o) (hr : RepAll (Pt s.heap av) ds vs) (hlen : ds.length = names.length)
    (x : InCallC s (callEnvC fd s.heap.objs.size fa).locals (bindL (callEnvC fd s.heap.objs.size fa).kindOf (names.zip vs) fun _ => none) (callEnvC fd s.heap.objs.size fa).cells (bindC (callEnvC fd s.heap.objs.size fa).kindOf (names.zip vs) fun _ => none) s1) :
    Ok G av (framePlaces (callEnvC fd s.heap.objs.size fa)) (framePlaces (callEnvC fd s.heap.objs.size fa) ++ av) (callEnvC fd s.heap.objs.size fa) (sig0 names ds) (fun _ => 0) s1 ∧ (∀ a ∈ framePlaces (callEnvC fd s.heap.objs.size fa), s.heap.get? a = none) := by
  have hk1 := x.toInCall.keep
  have hvl : vs.length = names.length := by rw [hr.length, hlen]
  have hz : (names.zip vs).map Prod.fst = names := List.map_fst_zip (by omega)
  have fresh : ∀ a ∈ framePlaces (callEnvC fd s.heap.objs.size fa), s.heap.get? a = none := by
    intro a ha
    unfold framePlaces at ha
    rcases List.mem_cons.mp ha with rfl | ha
    · exact fresh_none x.toInCall.fresh
    · obtain ⟨p, _, hp⟩ := List.mem_filterMap.mp ha
      have := x.above p.1 a (mem_of_lookup hp)
      exact fresh_none (Nat.le_of_lt (Nat.lt_of_le_of_lt x.toInCall.fresh this))
  have livemu : ∀ a ∈ framePlaces (callEnvC fd s.heap.objs.size fa), ∃ o, s1.heap.get? a = some o := by
    intro a ha
    unfold framePlaces at ha
    rcases List.mem_cons.mp ha with rfl | ha
    · obtain ⟨o, _, _, e, _⟩ := x.toInCall.ns; exact ⟨o, e⟩
    · obtain ⟨p, _, hp⟩ := List.mem_filterMap.mp ha
      obtain ⟨o, e, _⟩ := x.cell p.1 a hp
      exact ⟨o, e⟩
  refine ⟨⟨⟨fun b o e => hk1 b o (keep b o e), fun a ha => (List.mem_append.mp ha).elim (livemu a) fun k => let ⟨o, e⟩ := live a k; ⟨o, hk1 a o e⟩, D.kind, D.gl, D.bi, fun y c e => let ⟨o, e', _⟩ := x.cell y c e; ⟨o, e'⟩, fun p hp => ?_⟩, fun a ha => ?_, fun a ha => List.mem_append_left _ ha, fun a ha k => ?_, fun a ha => List.mem_append_right _ ha,
    ⟨List.mem_cons_self, _, x.toInCall.ns⟩, fun y c e => ⟨?_, _, x.cell y c e⟩, x.apart, fun y ys hy => ?_, fun y z ys zs hy => ?_, by rw [sig0_names hlen.symm]; exact D.nodup⟩, fresh⟩
  · obtain ⟨v, d, e1, e2, e3⟩ := sig0_mem (xs := names) hr p hp
    have hn : p.1 ∈ names := by rw [← hz]; exact List.mem_map_of_mem e2
    refine ⟨v, ?_, ?_⟩
    · rcases D.kinds p.1 hn with hl | ⟨hc, hcl⟩
      · exact .inl ⟨hl, _, x.toInCall.ns, bindL_mem hl (by rw [hz]; exact D.nodup) e2⟩
      · obtain ⟨c, hc'⟩ := Option.isSome_iff_exists.mp (hcl (s.heap.objs.size + 1))
        refine .inr ⟨.inl hc, c, hc', ?_⟩
        have := x.cell p.1 c hc'
        rw [bindC_mem (v := v) (fun k => by rw [show (callEnvC fd s.heap.objs.size fa).kindOf p.1 = some .cell from hc] at k; cases k) (by rw [hz]; exact D.nodup) e2] at this
        exact this
    · rw [e1]
      refine Rep.mono (fun a o p => ⟨hk1 a o p.1, fun k => ?_⟩) _ _ e3
      rcases List.mem_append.mp k with k | k
      · exact nomatch (fresh a k).symm.trans p.1
      · exact p.2 k
  · cases e : G.h0.get? a with
    | none => rfl
    | some o => have := keep a o e; rw [fresh a ha] at this; cases this
  · obtain ⟨o, e⟩ := live a k; rw [fresh a ha] at e; cases e
  · exact List.mem_cons_of_mem _ (List.mem_filterMap.mpr ⟨(y, c), mem_of_lookup e, e⟩)
  · obtain ⟨v, d, e1, _⟩ := sig0_mem (xs := names) hr _ hy
    cases e1
  · obtain ⟨v, d, e1, _⟩ := sig0_mem (xs := names) hr _ hy
    cases e1

theorem CallTo.of (D : DefAt G fa fd body names) (hgen : fd.scope.isGenerator = false) {ds : List PyData} {d : PyData} (hlen : ds.length = names.length) (h : ∀ L, ExsTo G n (callEnvC fd L fa) (sig0 names ds) body (.ret d)) : CallTo G (n + 1) fa ds d := fun A hA av s vs keep live hr E => by
  obtain ⟨o, ho, hd⟩ := D.obj
  refine wpAny_call (codeAny_call_cells (by have := hA.dp; omega) (keep _ _ ho) hd (G.lim.keeps keep) (D.code.keeps keep) D.body (D.bind vs (by rw [hr.length, hlen])) D.clo (fun x hx => ?_) (fun s1 x => ?_) D.co hgen D.kind)
  · have hn : x.1 ∈ names := (List.of_mem_zip hx).1
    exact (D.kinds x.1 hn).imp id fun ⟨h1, h2⟩ => ⟨h1, h2 _⟩
  · obtain ⟨ok, fresh⟩ := Ok.entry D keep live hr hlen x
    refine wpAny_mono (h s.heap.objs.size _ hA.deeper av _ _ _ s1 ok _) (fun f s2 hp => ?_) fun _ _ x => x
    obtain ⟨v, rfl, r, m⟩ := hp
    obtain ⟨h1, tk, e1⟩ := x.toInCall.same
    have m0 : Mv [] [] s s1 := ⟨fun b o _ e => x.toInCall.keep b o e, fun i g _ e => by rw [e1]; exact e, fun e => by rw [e1]; exact e, by rw [e1]⟩
    refine ⟨r, (m0.weak.trans (m.mono (wr' := framePlaces (callEnvC fd s.heap.objs.size fa)) (by simp) fun _ h => h)).shrink (fun a ha => .inr (fresh a ha)) (by simp)⟩
end
end Mine
end

section
open PySem PyProof.Rows
namespace Mine

/-- the frame of a comprehension -/
structure OkC (G : Gx) (av : List Addr) (cenv : Env) (σ : Sig) (s : Shared) : Prop where
  e : OkE G av cenv σ (fun _ => 0) s
  ns : ∃ m, s.heap.Ns cenv.locals m
  inav : cenv.locals ∈ av
  low : G.h0.get? cenv.locals = none
  sh : ∀ p ∈ σ, ∃ d, p.2 = .sh d
  nodup : (σ.map Prod.fst).Nodup

section
variable {b : Bool} {G : Gx} {n : Nat} {cenv env : Env} {σ σ' σ1 σ2 : Sig} {av : List Addr} {s s' : Shared}

theorem OkC.mv (h : OkC G av cenv σ s) (m : Mv [] [] s s') : OkC G av cenv σ s' :=
  ⟨h.e.mv m, let ⟨m', e⟩ := h.ns; ⟨m', e.keeps fun b o e => m.heap b o (by simp) e⟩, h.inav, h.low, h.sh, h.nodup⟩
theorem OkC.weak (h : OkC G av cenv σ s) (hs : ∀ p ∈ σ', p ∈ σ) (hn : (σ'.map Prod.fst).Nodup) : OkC G av cenv σ' s :=
  ⟨⟨h.e.keep, h.e.live, h.e.fn, h.e.gl, h.e.bi, h.e.cl, fun p hp => h.e.vars p (hs p hp)⟩, h.ns, h.inav, h.low, fun p hp => h.sh p (hs p hp), hn⟩

/-- places wr are written, none of the frame's; av' are still avoided -/
theorem OkC.left {wr av' : List Addr} {gw : List Nat} (ok : OkC G av cenv σ s) (m : Mv wr gw s s') (hwa : ∀ a ∈ wr, a ∈ av) (hw0 : ∀ a ∈ wr, G.h0.get? a = none) (hC : cenv.locals ∉ wr)
    (ha : ∀ a ∈ av', a ∈ av) (hin : cenv.locals ∈ av') (hl : ∀ a ∈ av', ∃ o, s'.heap.get? a = some o) (hcell : ∀ x c, cenv.cells.lookup x = some c → c ∉ wr) : OkC G av' cenv σ s' := by
  refine ⟨⟨fun b o e => m.heap b o (fun k => by rw [hw0 b k] at e; cases e) (ok.e.keep b o e), hl, ok.e.fn, ok.e.gl, ok.e.bi, fun y c e => let ⟨o, e'⟩ := ok.e.cl y c e; ⟨o, m.heap c o (hcell y c e) e'⟩, fun p hp => ?_⟩, ?_, hin, ok.low, ok.sh, ok.nodup⟩
  · obtain ⟨v, h1, h2⟩ := ok.e.vars p hp
    obtain ⟨d, e⟩ := ok.sh p hp
    rw [e] at h2
    refine ⟨v, ?_, by rw [e]; exact Rep.mono (fun a o p => ⟨m.heap a o (fun k => p.2 (hwa a k)) p.1, fun k => p.2 (ha a k)⟩) _ _ h2⟩
    rcases h1 with ⟨k1, m', k2, k3⟩ | ⟨k1, c', k2, k3⟩
    · exact .inl ⟨k1, m', k2.at' fun o e => m.heap _ o hC e, k3⟩
    · obtain ⟨o, e, hd⟩ := id k3
      exact .inr ⟨k1, c', k2, o, m.heap _ o (hcell _ _ k2) e, hd⟩
  · obtain ⟨m', e⟩ := ok.ns; exact ⟨m', e.at' fun o e => m.heap _ o hC e⟩

theorem OkC.store {A : Around} {x : Str} {v : Value} {d : PyData} (ok : OkC G av cenv σ s) (hk : cenv.kindOf x = some .local) (u : Upd σ x (.sh d) σ') (hv : Rep (Pt s.heap av) d v) (E : Value → Shared → Prop) :
    wpAny G.M A (storeName cenv x v) (fun _ s' => OkC G av cenv σ' s' ∧ Mv [cenv.locals] [] s s') E s := by
  obtain ⟨m, hns⟩ := ok.ns
  refine wpAny_storeName_local hk hns (fun h' hn' hs' => ?_) (by rw [ok.e.fn]; rfl)
  have split := u.mem ok.nodup
  have up : ∀ b o, b ∉ av → s.heap.get? b = some o → h'.get? b = some o := fun b o hb e => hs'.extBut b o (fun k => hb (k ▸ ok.inav)) e
  refine ⟨⟨⟨fun b o e => hs'.extBut b o (fun k => by subst k; rw [ok.low] at e; cases e) (ok.e.keep b o e), fun a ha => ?_, ok.e.fn, ok.e.gl, ok.e.bi, fun y c e => let ⟨o, e'⟩ := ok.e.cl y c e; SameBut.live hs' e' (let ⟨o, _, _, e, _⟩ := hn'; ⟨o, e⟩), fun p hp => ?_⟩, ⟨_, hn'⟩, ok.inav, ok.low, fun p hp => ?_, u.nodup ok.nodup⟩,
    ⟨fun b o hb e => hs'.extBut b o (by simpa using hb) e, fun _ _ _ e => e, fun e => e, rfl⟩⟩
  · obtain ⟨o, e⟩ := ok.e.live a ha
    exact SameBut.live hs' e (let ⟨o, _, _, e, _⟩ := hn'; ⟨o, e⟩)
  · rcases split p hp with rfl | ⟨h1, h2⟩
    · exact ⟨v, .inl ⟨hk, _, hn', by simp⟩, hv.ext up⟩
    · obtain ⟨u', b1, b2⟩ := ok.e.vars p h1
      obtain ⟨d', e⟩ := ok.sh p h1
      rw [e] at b2
      refine ⟨u', ?_, by rw [e]; exact Rep.ext b2 up⟩
      rcases b1 with ⟨k1, m', k2, k3⟩ | ⟨k1, c', k2, k3⟩
      · refine .inl ⟨k1, _, hn', ?_⟩
        have : m' p.1 = m p.1 := by
          obtain ⟨o, es, ep, e, r1, r2, r3⟩ := hns
          obtain ⟨o', es', ep', e', r1', r2', r3'⟩ := k2
          rw [e] at e'; cases e'; rw [r1] at r1'; cases r1'
          rw [← r3 p.1, ← r3' p.1]
        simp only [if_neg h2]
        rw [← this]; exact k3
      · exact .inr ⟨k1, c', k2, k3.sameBut hs' (cell_ne_ns k3 hns)⟩
  · rcases split p hp with rfl | ⟨h1, _⟩
    · exact ⟨d, rfl⟩
    · exact ok.sh p h1

/-- a comprehension's target takes x -/
noncomputable def CTgt (G : Gx) (cenv : Env) (σ : Sig) (tgt : Expr) (x : PyData) (σ' : Sig) : Prop :=
  ∀ (A : Around), Rm 0 A → ∀ (av : List Addr) (s : Shared) (v : Value), OkC G av cenv σ s → Rep (Pt s.heap av) x v → ∀ (E : Value → Shared → Prop),
    wpAny G.M A (assign tgt cenv v) (fun _ s' => OkC G av cenv σ' s' ∧ Mv [cenv.locals] [] s s') E s
theorem CTgt.name {x : Str} {pos : Pos} {d : PyData} (hk : cenv.kindOf x = some .local) (u : Upd σ x (.sh d) σ') : CTgt G cenv σ (.Name x pos) d σ' := fun A hA av s v ok r E => wpAny_assign_Name (ok.store hk u r E)
theorem CTgt.pair {x y : Str} {p1 p2 pos : Pos} {k : Nat} {d1 d2 : PyData} (h1 : cenv.kindOf x = some .local) (u1 : Upd σ x (.sh d1) σ1) (h2 : cenv.kindOf y = some .local) (u2 : Upd σ1 y (.sh d2) σ') :
    CTgt G cenv σ (.Tuple [.Name x p1, .Name y p2] k pos) (.tuple [d1, d2]) σ' := fun A hA av s v ok r E => by
  obtain ⟨a, items, rfl, ha, ht, hr⟩ := r.tuple_inv
  simp only [RepAll] at hr
  obtain ⟨v1, w1, e1, r1, v2, w2, e2, r2, e3⟩ := hr
  subst e3 e2
  have hi : items.toList = [v1, v2] := e1
  refine wpAny_assign_Tuple hA.hh ht (by rw [← Array.length_toList, hi]; rfl) (by rfl) fun h' hext => ?_
  rw [hi]
  have m0 : Mv [] [] s { s with heap := h' } := ⟨fun b o _ e => hext b o (Nat.ne_of_lt (Heap.lt_size e)) e, fun _ _ _ e => e, fun e => e, rfl⟩
  have ok0 := ok.mv m0
  refine wpAny_assignInOrder_more (wpAny_mono (wpAny_assign_Name (ok0.store h1 u1 (r1.ext fun b o _ e => m0.heap b o (by simp) e) E)) (fun _ s1 g1 => ?_) fun _ _ x => x)
  refine wpAny_assignInOrder_more (wpAny_mono (wpAny_assign_Name (g1.1.store h2 u2 ((r2.ext (h' := h') fun b o _ e => m0.heap b o (by simp) e).ext fun b o hb e => g1.2.heap b o (fun k => hb (by simp at k; subst k; exact ok.inav)) e) E)) (fun _ s2 g2 => ?_) fun _ _ x => x)
  exact wpAny_assignInOrder_none ⟨g2.1, (m0.weak.trans g1.2).trans g2.2⟩

noncomputable def testsOf (ifs : List Expr) (env : Env) : Sem Bool := forIn ifs true fun c r => if r = true then do let ok ← isTrue c env (eval c env); pure (ForInStep.yield ok) else pure (ForInStep.yield r)
noncomputable def CTests (G : Gx) (n : Nat) (env : Env) (σ : Sig) (ifs : List Expr) (c : Bool) : Prop :=
  ∀ (A : Around), Rm n A → ∀ (av : List Addr) (ad : Str → Addr) (s : Shared), OkE G av env σ ad s → ∀ (E : Value → Shared → Prop), wpAny G.M A (testsOf ifs env) (fun v s' => v = c ∧ Mv [] [] s s') E s
theorem CTests.none : CTests G n env σ [] true := fun A hA av ad s ok E => wpAny_tests_nil ⟨rfl, Mv.refl s⟩
theorem CTests.one {t : Expr} {c : Bool} (h : TsTo G n env σ t c) : CTests G n env σ [t] c := fun A hA av ad s ok E => wpAny_tests_one (h A hA av ad s ok E)

/-- the turn of a comprehension's innermost clause -/
noncomputable def lastBody (e : Expr) (depth : Nat) (elt target iter : Expr) (ifs : List Expr) (it acc : Value) (env : Env) : Sem Fin := do
  standAt iter.pos
  match ← pyNext it with
  | none => pure (.done .next)
  | some v =>
    letOwnedTupleGo target it v
    assign target env v
    let ok ← testsOf ifs env
    if ok then
      (do let _ ← call (.builtin "list.append") [acc, ← eval elt env])
    again (.compLoop e depth it acc env)

theorem compLoop_last {prog : Program} {w : World} {A : Around} {R : Result → Shared → Prop} {elt0 : Expr} {gens : List Comprehension} {sc : Scope} {ep : Pos} {depth : Nat} {elt target iter : Expr} {ifs : List Expr} {it acc : Value} {env : Env}
    (heq : compTurn (.ListComp elt0 gens sc ep) depth it acc env = lastBody (.ListComp elt0 gens sc ep) depth elt target iter ifs it acc env)
    (h : NxtW (model prog w) A target it (fun r s₁ => match r with
      | none => R (.ok .next) s₁
      | some v => wpAny (model prog w) A (assign target env v) (fun _ s₂ => wpAny (model prog w) A (testsOf ifs env) (fun ok s₃ =>
          if ok = true then wpAny (model prog w) A (eval elt env) (fun x s₄ => wpAny (model prog w) A (call (.builtin "list.append") [acc, x]) (fun _ s₅ => codeAny (model prog w) A (.compLoop (.ListComp elt0 gens sc ep) depth it acc env) R s₅) (notedBy (model prog w) A env fun e s' => R (.error e) s') s₄) (notedBy (model prog w) A env fun e s' => R (.error e) s') s₃
          else codeAny (model prog w) A (.compLoop (.ListComp elt0 gens sc ep) depth it acc env) R s₃) (notedBy (model prog w) A env fun e s' => R (.error e) s') s₂) (notedBy (model prog w) A env fun e s' => R (.error e) s') s₁) (notedBy (model prog w) A env fun e s' => R (.error e) s') s) :
    codeAny (model prog w) A (.compLoop (.ListComp elt0 gens sc ep) depth it acc env) R s := by
  refine codeAny_loop' rfl (fun _ s' => s' = s) (fun n s' hI => ?_) 0 rfl
  subst hI
  show wpAny _ A ((compTurn (.ListComp elt0 gens sc ep) depth it acc env).onRaise (fun x => do noteFrame x env; theTreesLotGoes x)) _ _ s'
  refine wpAny_noted ?_
  rw [heq]
  unfold lastBody
  refine wpAny_bind (wpAny_standAt (wpAny_bind (wpAny_mono h (fun r s₁ h₁ => ?_) fun _ _ h' => h')))
  cases r with
  | none => exact wpAny_pure h₁
  | some v =>
    refine wpAny_bind (wpAny_mono h₁ (fun _ s₂ h₂ => ?_) fun _ _ h' => h')
    refine wpAny_bind (wpAny_mono h₂ (fun _ s₂ h₂ => wpAny_bind (wpAny_mono h₂ (fun ok s₃ h₃ => ?_) fun _ _ h' => h')) fun _ _ h' => h')
    cases ok with
    | false => exact wpAny_pure (.inr ⟨rfl, h₃⟩)
    | true => exact wpAny_bind (wpAny_bind (wpAny_mono h₃ (fun x s₄ h₄ => wpAny_bind (wpAny_mono h₄ (fun _ s₅ h₅ => wpAny_pure (wpAny_pure (.inr ⟨rfl, h₅⟩))) fun _ _ h' => h')) fun _ _ h' => h'))

/-- a comprehension's clause at depth, with what is still to come; out: what it adds -/
noncomputable def CompAt (G : Gx) (n : Nat) (cenv : Env) (e : Expr) (depth : Nat) (tgt : Expr) (σ : Sig) (l out : List PyData) : Prop :=
  ∀ (A : Around), Rm n A → ∀ (av : List Addr) (s : Shared) (D : Addr) (ys : List PyData) (vs : Array Value) (it : Value) (wr : List Addr) (gw : List Nat), OkC G (wr ++ av) cenv σ s → cenv.locals ∈ av → D ∈ av → D ≠ cenv.locals → G.h0.get? D = none →
    s.heap.PlainList D vs → RepAll (Pt s.heap (wr ++ av)) ys vs.toList → ys.length + out.length ≤ sizeLine → (∀ a ∈ wr, a ∉ av) → (∀ a ∈ wr, G.h0.get? a = none) → (∀ x c, cenv.cells.lookup x = some c → c ∉ wr) → (∀ x c, cenv.cells.lookup x = some c → c ≠ D) →
    ItAt G.M A tgt it wr gw true l [cenv.locals, D] (wr ++ av) s → ∀ (R : Result → Shared → Prop),
      (∀ s' vs', OkC G av cenv σ s' → s'.heap.PlainList D vs' → RepAll (Pt s'.heap av) (ys ++ out) vs'.toList → Mv (wr ++ [cenv.locals, D]) gw s s' → R (.ok .next) s') →
      codeAny G.M A (.compLoop e depth it (.ref D) cenv) R s

theorem CompAt.nil {elt0 : Expr} {gens : List Comprehension} {sc : Scope} {ep : Pos} {depth : Nat} {elt tgt iter : Expr} {ifs : List Expr}
    (heq : ∀ it acc, compTurn (.ListComp elt0 gens sc ep) depth it acc cenv = lastBody (.ListComp elt0 gens sc ep) depth elt tgt iter ifs it acc cenv) : CompAt G n cenv (.ListComp elt0 gens sc ep) depth tgt σ [] [] := by
  intro A hA av s D ys vs it wr gw ok hC hD hDC hD0 hp hr hsz hwa hw0 hcl hclD hit R hR
  refine compLoop_last (heq _ _) (hit rfl s (Mv.refl s) _ _ fun s1 m => ?_)
  have nw : ∀ a ∈ av, a ∉ wr := fun a ha k => hwa a k ha
  refine hR s1 vs (ok.left m (fun a h => List.mem_append_left _ h) hw0 (nw _ hC) (fun a h => List.mem_append_right _ h) hC (fun a ha => ?_) hcl) (hp.at fun o e => m.heap _ o (nw _ hD) e) ?_ (m.mono (fun a h => List.mem_append_left _ h) fun _ h => h)
  · obtain ⟨o, e⟩ := ok.e.live a (List.mem_append_right _ ha); exact ⟨o, m.heap a o (nw a ha) e⟩
  · rw [List.append_nil]
    exact RepAll.mono (fun a o p => ⟨m.heap a o (fun k => p.2 (List.mem_append_left _ k)) p.1, fun k => p.2 (List.mem_append_right _ k)⟩) _ _ hr

theorem CompAt.turn {elt0 : Expr} {gens : List Comprehension} {sc : Scope} {ep : Pos} {depth : Nat} {elt tgt iter : Expr} {ifs : List Expr} {x : PyData} {l add out : List PyData} {c : Bool}
    (heq : ∀ it acc, compTurn (.ListComp elt0 gens sc ep) depth it acc cenv = lastBody (.ListComp elt0 gens sc ep) depth elt tgt iter ifs it acc cenv)
    (ht : CTgt G cenv σ tgt x σ1) (hback : ∀ p ∈ σ, p ∈ σ1) (hts : CTests G n cenv σ1 ifs c) (hel : c = true → ∃ d, add = [d] ∧ EvTo G n cenv σ1 elt d) (hno : c = false → add = []) (hr : CompAt G n cenv (.ListComp elt0 gens sc ep) depth tgt σ l out) :
    CompAt G n cenv (.ListComp elt0 gens sc ep) depth tgt σ (x :: l) (add ++ out) := by
  intro A hA av s D ys vs it wr gw ok hC hD hDC hD0 hp hrp hsz hwa hw0 hcl hclD hit R hR
  have nw : ∀ a ∈ av, a ∉ wr := fun a ha k => hwa a k ha
  refine compLoop_last (heq _ _) (hit _ _ s (fun _ h => .inl h) (fun _ h => .inl h) ok.e.live (Mv.refl s) _ _ fun v s1 hv m1 hl1 hit1 => ?_)
  have ok1 : OkC G (wr ++ av) cenv σ s1 := ok.left m1 (fun a h => List.mem_append_left _ h) hw0 (nw _ hC) (fun _ h => h) (List.mem_append_right _ hC) (fun a ha => ?_) hcl
  case refine_1 =>
    by_cases k : a ∈ wr
    · exact hl1 a k
    · obtain ⟨o, e⟩ := ok.e.live a ha; exact ⟨o, m1.heap a o k e⟩
  refine wpAny_mono (ht A hA.zero _ s1 v ok1 hv _) (fun _ s2 h2 => ?_) fun _ _ x => x
  obtain ⟨ok2, m2⟩ := h2
  refine wpAny_mono (hts A hA _ _ s2 ok2.e _) (fun c' s3 h3 => ?_) fun _ _ x => x
  obtain ⟨rfl, m3⟩ := h3
  have ok3 := ok2.mv m3
  -- what is known at a state behind, when D has got the items
  have goOn : ∀ (s5 : Shared) (vs5 : Array Value) (ys5 : List PyData), OkC G (wr ++ av) cenv σ s5 → s5.heap.PlainList D vs5 → RepAll (Pt s5.heap (wr ++ av)) ys5 vs5.toList → ys5 ++ out = ys ++ (add ++ out) → Mv [cenv.locals, D] [] s1 s5 → ys5.length + out.length ≤ sizeLine →
      codeAny G.M A (.compLoop (.ListComp elt0 gens sc ep) depth it (.ref D) cenv) R s5 := by
    intro s5 vs5 ys5 ok5 hp5 hr5 heq5 m5 hsz5
    refine hr A hA av s5 D ys5 vs5 it wr gw ok5 hC hD hDC hD0 hp5 hr5 hsz5 hwa hw0 hcl hclD (hit1.step (fun _ h => .inl h) (fun _ h => .inl h) (fun a ha => ok5.e.live a ?_) m5) R fun s6 vs6 ok6 hp6 hr6 m6 => hR s6 vs6 ok6 hp6 (heq5 ▸ hr6) ?_
    · simp at ha
      rcases ha with rfl | rfl
      · exact List.mem_append_right _ hC
      · exact List.mem_append_right _ hD
    · exact ((m1.mono (wr' := wr ++ [cenv.locals, D]) (gw' := gw) (fun a h => List.mem_append_left _ h) fun _ h => h).trans (m5.mono (fun a h => List.mem_append_right _ h) (by simp))).trans m6
  -- D and its items at s3
  have hp1 : s1.heap.PlainList D vs := hp.at fun o e => m1.heap _ o (nw _ hD) e
  have hr1 : RepAll (Pt s1.heap (wr ++ av)) ys vs.toList := hrp.ext fun b o hb e => m1.heap b o (fun k => hb (List.mem_append_left _ k)) e
  have hp3 : s3.heap.PlainList D vs := (hp1.at fun o e => m2.heap _ o (by simpa using hDC) e).at fun o e => m3.heap _ o (by simp) e
  have hr3 : RepAll (Pt s3.heap (wr ++ av)) ys vs.toList := (hr1.ext (h' := s2.heap) fun b o hb e => m2.heap b o (fun k => hb (by simp at k; subst k; exact List.mem_append_right _ hC)) e).ext fun b o _ e => m3.heap b o (by simp) e
  have m13 : Mv [cenv.locals, D] [] s1 s3 := (m2.mono (fun a h => by simp at h; simp [h]) fun _ h => h).trans m3.weak
  have hlen := hrp.length
  rw [Array.length_toList] at hlen
  cases c' with
  | false =>
    have := hno rfl
    subst this
    simp only [Bool.false_eq_true, if_false]
    exact goOn s3 vs ys (ok3.weak hback ok.nodup) hp3 hr3 (by simp) m13 (by simpa using hsz)
  | true =>
    obtain ⟨d, rfl, he⟩ := hel rfl
    simp only [if_true]
    refine wpAny_mono (he A hA _ _ s3 ok3.e _) (fun y s4 h4 => ?_) fun _ _ x => x
    have ok4 := ok3.mv h4.2
    have hp4 : s4.heap.PlainList D vs := hp3.at fun o e => h4.2.heap _ o (by simp) e
    have hr4 : RepAll (Pt s4.heap (wr ++ av)) ys vs.toList := hr3.ext fun b o _ e => h4.2.heap b o (by simp) e
    simp only [List.length_append, List.length_cons, List.length_nil] at hsz
    refine wpAny_list_append_plain hp4 (fun h' hp' hs' => ?_) (by omega)
    have m5 : Mv [D] [] s4 { s4 with heap := h' } := ⟨fun b o hb e => hs'.extBut b o (by simpa using hb) e, fun _ _ _ e => e, fun e => e, rfl⟩
    have hDa : D ∈ wr ++ av := List.mem_append_right _ hD
    have ok5 : OkC G (wr ++ av) cenv σ1 { s4 with heap := h' } := ok4.left m5 (fun a h => by simp at h; subst h; exact hDa) (fun a h => by simp at h; subst h; exact hD0) (by simpa using Ne.symm hDC) (fun _ h => h) ok4.inav (fun a ha => ?_) (fun y c e k => ?_)
    · refine goOn _ _ (ys ++ [d]) (ok5.weak hback ok.nodup) hp' ?_ (by simp) ((m13.trans h4.2.weak).trans (m5.mono (fun a h => by simp at h; simp [h]) fun _ h => h)) (by simp; omega)
      rw [Array.toList_push]
      exact (hr4.append (RepAll.cons (by simpa [sel] using h4.1) RepAll.nil)).ext fun b o hb e => hs'.extBut b o (fun k => hb (k ▸ hDa)) e
    · obtain ⟨o, e⟩ := ok4.e.live a ha
      exact SameBut.live hs' e (let ⟨k, e⟩ := hp'; ⟨_, e⟩)
    · simp at k
      exact hclD y c e k
end
end Mine
end

section
open PySem PyProof.Rows
namespace Mine

section
variable {prog : Program} {w : World} {A : Around} {E : Value → Shared → Prop} {R : Result → Shared → Prop} {s : Shared}
theorem compStart_at {elt : Expr} {gens : List Comprehension} {scope : Scope} {pos : Pos} {depth : Nat} {g : Comprehension} {it acc : Value} {env : Env} (hg : gens[depth]? = some g) (ha : g.is_async = 0)
    (h0 : codeAny (model prog w) A (.compLoop (.ListComp elt gens scope pos) depth it acc env) R s)
    (h : wpAny (model prog w) A (pyIter it) (fun it' s' => codeAny (model prog w) A (.compLoop (.ListComp elt gens scope pos) depth it' acc env) R s') (notedBy (model prog w) A env fun x s' => R (.error x) s') s) :
    codeAny (model prog w) A (.compStart (.ListComp elt gens scope pos) depth it acc env) R s := by
  refine codeAny_of_tree ?_
  show wpAny _ _ ((compStart (.ListComp elt gens scope pos) depth it acc env).onRaise (fun x => do noteFrame x env; standAt theWindowsPlace)) _ _ s
  refine wpAny_notedAt ?_
  have hc : (clausesOf (.ListComp elt gens scope pos))[depth]? = some g := hg
  unfold compStart
  rw [hc]
  simp only [Option.elim_some, ha, bne_self_eq_false, Bool.false_eq_true, if_false]
  refine wpAny_bind (wpAny_askSetting (wpAny_ite ?_))
  split
  · exact wpAny_pure (And.intro rfl h0)
  · exact wpAny_bind (wpAny_rule (wpAny_bind (wpAny_standAt (wpAny_bind (wpAny_mono h (fun it' s' h' => wpAny_pure (And.intro rfl h')) fun _ _ x => x)))))
end

/-- the turn of a clause that has one more within -/
noncomputable def outBody (e : Expr) (depth : Nat) (target iter target' iter' : Expr) (ifs' : List Expr) (it acc : Value) (env : Env) : Sem Fin := do
  standAt iter.pos
  match ← pyNext it with
  | none => pure (.done .next)
  | some v =>
    letOwnedTupleGo target it v
    assign target env v
    let x ← eval iter' env
    standAt iter'.pos
    let x ← foldedSetIterable iter' env x
    let _ ← runOwn (.compStart e (depth + 1) (← holding [x] (pyIter x)) acc env) env
    again (.compLoop e depth it acc env)

theorem compTurn_two0 (elt t0 i0 t1 i1 : Expr) (ifs1 : List Expr) (scope : Scope) (pos : Pos) (it acc : Value) (env : Env) :
    compTurn (.ListComp elt [⟨t0, i0, [], 0⟩, ⟨t1, i1, ifs1, 0⟩] scope pos) 0 it acc env = outBody (.ListComp elt [⟨t0, i0, [], 0⟩, ⟨t1, i1, ifs1, 0⟩] scope pos) 0 t0 i0 t1 i1 ifs1 it acc env := by rfl
theorem compTurn_two1 (elt t0 i0 t1 i1 : Expr) (ifs0 ifs1 : List Expr) (scope : Scope) (pos : Pos) (it acc : Value) (env : Env) :
    compTurn (.ListComp elt [⟨t0, i0, ifs0, 0⟩, ⟨t1, i1, ifs1, 0⟩] scope pos) 1 it acc env = lastBody (.ListComp elt [⟨t0, i0, ifs0, 0⟩, ⟨t1, i1, ifs1, 0⟩] scope pos) 1 elt t1 i1 ifs1 it acc env := by rfl
theorem compTurn_one (elt t0 i0 : Expr) (ifs : List Expr) (scope : Scope) (pos : Pos) (it acc : Value) (env : Env) :
    compTurn (.ListComp elt [⟨t0, i0, ifs, 0⟩] scope pos) 0 it acc env = lastBody (.ListComp elt [⟨t0, i0, ifs, 0⟩] scope pos) 0 elt t0 i0 ifs it acc env := by rfl

section
variable {prog : Program} {w : World} {A : Around} {R : Result → Shared → Prop} {s : Shared}
theorem compLoop_out {elt0 : Expr} {gens : List Comprehension} {sc : Scope} {ep : Pos} {depth : Nat} {target iter target' iter' : Expr} {ifs' : List Expr} {it acc : Value} {env : Env}
    (heq : compTurn (.ListComp elt0 gens sc ep) depth it acc env = outBody (.ListComp elt0 gens sc ep) depth target iter target' iter' ifs' it acc env)
    (hs : ∀ x, foldedSetIterable iter' env x = pure x)
    (h : NxtW (model prog w) A target it (fun r s₁ => match r with
      | none => R (.ok .next) s₁
      | some v => wpAny (model prog w) A (assign target env v) (fun _ s₂ => wpAny (model prog w) A (eval iter' env) (fun x s₃ => wpAny (model prog w) A (pyIter x) (fun it' s₄ =>
          codeAny (model prog w) A (.compStart (.ListComp elt0 gens sc ep) (depth + 1) it' acc env) (fun r s₅ => match r with
            | .ok _ => codeAny (model prog w) A (.compLoop (.ListComp elt0 gens sc ep) depth it acc env) R s₅
            | .error e => cameBackBy (model prog w) A env (notedBy (model prog w) A env fun e s' => R (.error e) s') e s₅) s₄)
          (notedBy (model prog w) A env fun e s' => R (.error e) s') s₃) (notedBy (model prog w) A env fun e s' => R (.error e) s') s₂) (notedBy (model prog w) A env fun e s' => R (.error e) s') s₁) (notedBy (model prog w) A env fun e s' => R (.error e) s') s) :
    codeAny (model prog w) A (.compLoop (.ListComp elt0 gens sc ep) depth it acc env) R s := by
  refine codeAny_loop' rfl (fun _ s' => s' = s) (fun n s' hI => ?_) 0 rfl
  subst hI
  show wpAny _ A ((compTurn (.ListComp elt0 gens sc ep) depth it acc env).onRaise (fun x => do noteFrame x env; theTreesLotGoes x)) _ _ s'
  refine wpAny_noted ?_
  rw [heq]
  unfold outBody
  refine wpAny_bind (wpAny_standAt (wpAny_bind (wpAny_mono h (fun r s₁ h₁ => ?_) fun _ _ h' => h')))
  cases r with
  | none => exact wpAny_pure h₁
  | some v =>
    refine wpAny_bind (wpAny_mono h₁ (fun _ s₂ h₂ => ?_) fun _ _ h' => h')
    refine wpAny_bind (wpAny_mono h₂ (fun _ s₂ h₂ => wpAny_bind (wpAny_mono h₂ (fun x s₃ h₃ => ?_) fun _ _ h' => h')) fun _ _ h' => h')
    refine wpAny_bind (wpAny_standAt (wpAny_bind (wpAny_of_eq (hs x) (wpAny_bind (wpAny_holding (wpAny_mono h₃ (fun it' s₄ h₄ => ?_) fun _ _ h' => h'))))))
    refine wpAny_bind (wpAny_runOwn (codeAny_mono h₄ fun r s₅ h₅ => ?_))
    cases r with
    | ok f => exact wpAny_pure (.inr ⟨rfl, h₅⟩)
    | error e => exact h₅
end

section
variable {b : Bool} {G : Gx} {n : Nat} {cenv env : Env} {σ σ' σ1 σ2 : Sig} {av : List Addr} {s s' : Shared}

theorem OkC.growAv {wr : List Addr} {s1 : Shared} (ok : OkC G av cenv σ s) (m : Mv [] [] s s1) (hw : ∀ a ∈ wr, s.heap.get? a = none) (hl : ∀ a ∈ wr, ∃ o, s1.heap.get? a = some o) : OkC G (wr ++ av) cenv σ s1 := by
  have ok1 := ok.mv m
  have hk : ∀ b o, s.heap.get? b = some o → s1.heap.get? b = some o := fun b o e => m.heap b o (by simp) e
  refine ⟨⟨ok1.e.keep, fun x hx => (List.mem_append.mp hx).elim (hl x) (ok1.e.live x), ok.e.fn, ok.e.gl, ok.e.bi, ok1.e.cl, fun p hp => ?_⟩, ok1.ns, List.mem_append_right _ ok.inav, ok.low, ok.sh, ok.nodup⟩
  obtain ⟨v, h1, h2⟩ := ok.e.vars p hp
  exact ⟨v, h1.keeps hk, (h2.avs fun x hx => (List.mem_append.mp hx).elim (fun k => .inr (hw x k)) .inl).keeps hk⟩

theorem CompAt.outNil {elt0 : Expr} {gens : List Comprehension} {sc : Scope} {ep : Pos} {depth : Nat} {tgt iter target' iter' : Expr} {ifs' : List Expr}
    (heq : ∀ it acc, compTurn (.ListComp elt0 gens sc ep) depth it acc cenv = outBody (.ListComp elt0 gens sc ep) depth tgt iter target' iter' ifs' it acc cenv) (hs : ∀ x, foldedSetIterable iter' cenv x = pure x) : CompAt G n cenv (.ListComp elt0 gens sc ep) depth tgt σ [] [] := by
  intro A hA av s D ys vs it wr gw ok hC hD hDC hD0 hp hr hsz hwa hw0 hcl hclD hit R hR
  refine compLoop_out (heq _ _) hs (hit rfl s (Mv.refl s) _ _ fun s1 m => ?_)
  have nw : ∀ a ∈ av, a ∉ wr := fun a ha k => hwa a k ha
  refine hR s1 vs (ok.left m (fun a h => List.mem_append_left _ h) hw0 (nw _ hC) (fun a h => List.mem_append_right _ h) hC (fun a ha => ?_) hcl) (hp.at fun o e => m.heap _ o (nw _ hD) e) ?_ (m.mono (fun a h => List.mem_append_left _ h) fun _ h => h)
  · obtain ⟨o, e⟩ := ok.e.live a (List.mem_append_right _ ha); exact ⟨o, m.heap a o (nw a ha) e⟩
  · rw [List.append_nil]
    exact RepAll.mono (fun a o p => ⟨m.heap a o (fun k => p.2 (List.mem_append_left _ k)) p.1, fun k => p.2 (List.mem_append_right _ k)⟩) _ _ hr

theorem CompAt.outTurn {elt0 : Expr} {gens : List Comprehension} {sc : Scope} {ep : Pos} {depth : Nat} {tgt iter target' iter' : Expr} {ifs' : List Expr} {x : PyData} {l l' add out : List PyData} {g' : Comprehension}
    (heq : ∀ it acc, compTurn (.ListComp elt0 gens sc ep) depth it acc cenv = outBody (.ListComp elt0 gens sc ep) depth tgt iter target' iter' ifs' it acc cenv) (hs : ∀ x, foldedSetIterable iter' cenv x = pure x)
    (hg : gens[depth + 1]? = some g') (hga : g'.is_async = 0)
    (ht : CTgt G cenv σ tgt x σ1) (hback : ∀ p ∈ σ, p ∈ σ1) (hi : IterTo G n cenv σ1 target' iter' l' true) (hin : CompAt G n cenv (.ListComp elt0 gens sc ep) (depth + 1) target' σ1 l' add) (hr : CompAt G n cenv (.ListComp elt0 gens sc ep) depth tgt σ l out) :
    CompAt G n cenv (.ListComp elt0 gens sc ep) depth tgt σ (x :: l) (add ++ out) := by
  intro A hA av s D ys vs it wr gw ok hC hD hDC hD0 hp hrp hsz hwa hw0 hcl hclD hit R hR
  have nw : ∀ a ∈ av, a ∉ wr := fun a ha k => hwa a k ha
  refine compLoop_out (heq _ _) hs (hit _ _ s (fun _ h => .inl h) (fun _ h => .inl h) ok.e.live (Mv.refl s) _ _ fun v s1 hv m1 hl1 hit1 => ?_)
  have ok1 : OkC G (wr ++ av) cenv σ s1 := ok.left m1 (fun a h => List.mem_append_left _ h) hw0 (nw _ hC) (fun _ h => h) (List.mem_append_right _ hC) (fun a ha => ?_) hcl
  case refine_1 =>
    by_cases k : a ∈ wr
    · exact hl1 a k
    · obtain ⟨o, e⟩ := ok.e.live a ha; exact ⟨o, m1.heap a o k e⟩
  have hp1 : s1.heap.PlainList D vs := hp.at fun o e => m1.heap _ o (nw _ hD) e
  have hr1 : RepAll (Pt s1.heap (wr ++ av)) ys vs.toList := hrp.ext fun b o hb e => m1.heap b o (fun k => hb (List.mem_append_left _ k)) e
  refine wpAny_mono (ht A hA.zero _ s1 v ok1 hv _) (fun _ s2 h2 => ?_) fun _ _ x => x
  obtain ⟨ok2, m2⟩ := h2
  have inCD : ∀ a ∈ [cenv.locals, D], a ∈ wr ++ av := fun a ha => by simp at ha; rcases ha with rfl | rfl <;> simp [hC, hD]
  have lowCD : ∀ a ∈ [cenv.locals, D], G.h0.get? a = none := fun a ha => by simp at ha; rcases ha with rfl | rfl; exact ok.low; exact hD0
  have hp2 : s2.heap.PlainList D vs := hp1.at fun o e => m2.heap _ o (by simpa using hDC) e
  have hr2 : RepAll (Pt s2.heap (wr ++ av)) ys vs.toList := hr1.ext fun b o hb e => m2.heap b o (fun k => hb (by simp at k; subst k; exact List.mem_append_right _ hC)) e
  refine wpAny_mono (hi A hA [cenv.locals, D] (wr ++ av) _ s2 ok2.e inCD lowCD _) (fun y s3 h3 => wpAny_mono h3 (fun it' s4 h4 => ?_) fun _ _ x => x) fun _ _ x => x
  obtain ⟨wr1, gw1, hw1, hl4, hg1, m4, hself, hit4⟩ := h4
  have ok4 := ok2.growAv m4 hw1 hl4
  have hp4 : s4.heap.PlainList D vs := hp2.at fun o e => m4.heap _ o (by simp) e
  have hr4 : RepAll (Pt s4.heap (wr1 ++ (wr ++ av))) ys vs.toList := (hr2.av (av' := wr1 ++ (wr ++ av)) fun a ha => (List.mem_append.mp ha).elim (fun k => .inr (hw1 a k)) .inl).ext fun b o _ e => m4.heap b o (by simp) e
  have live2 : ∀ a ∈ wr ++ av, a ∉ wr1 := fun a ha k => by obtain ⟨o, e⟩ := ok2.e.live a ha; rw [hw1 a k] at e; cases e
  have run : ∀ s', Mv [] [] s4 s' → codeAny G.M A (.compLoop (.ListComp elt0 gens sc ep) (depth + 1) it' (.ref D) cenv) (fun r s₅ => match r with
            | .ok _ => codeAny G.M A (.compLoop (.ListComp elt0 gens sc ep) depth it (.ref D) cenv) R s₅
            | .error e => cameBackBy G.M A cenv (notedBy G.M A cenv fun e s' => R (.error e) s') e s₅) s' := by
    intro s4' m4'
    refine hin A hA (wr ++ av) s4' D ys vs it' wr1 gw1 (ok4.mv m4') (List.mem_append_right _ hC) (List.mem_append_right _ hD) hDC hD0 (hp4.at fun o e => m4'.heap _ o (by simp) e) (hr4.ext fun b o _ e => m4'.heap b o (by simp) e) (by simp only [List.length_append] at hsz; omega)
      (fun a ha k => live2 a k ha) (fun a ha => ?_) (fun y c e k => ?_) hclD (hit4.step (fun _ h => .inl h) (fun _ h => .inl h) (fun a ha => ?_) m4'.weak) _ fun s5 vs5 ok5 hp5 hr5 m5 => ?_
    · cases e : G.h0.get? a with
      | none => rfl
      | some o => have := ok2.e.keep a o e; rw [hw1 a ha] at this; cases this
    · obtain ⟨o, e'⟩ := ok2.e.cl y c e; rw [hw1 c k] at e'; cases e'
    · exact (ok4.mv m4').e.live a (List.mem_append_right _ (inCD a ha))
    · have m15 : Mv [cenv.locals, D] [] s1 s5 := by
        have q1 : Mv (wr1 ++ [cenv.locals, D]) gw1 s2 s5 := ((m4.trans m4').mono (wr' := wr1 ++ [cenv.locals, D]) (gw' := gw1) (by simp) (by simp)).trans m5
        have q2 : Mv [cenv.locals, D] [] s2 s5 := q1.shrink (fun a ha => (List.mem_append.mp ha).elim (fun k => .inr (hw1 a k)) .inl) (fun g hgg => .inr (hg1 g hgg))
        exact (m2.mono (fun a h => by simp at h; simp [h]) fun _ h => h).trans q2
      refine hr A hA av s5 D (ys ++ add) vs5 it wr gw (ok5.weak hback ok.nodup) hC hD hDC hD0 hp5 hr5 (by simp only [List.length_append] at hsz ⊢; omega) hwa hw0 hcl hclD (hit1.step (fun _ h => .inl h) (fun _ h => .inl h) (fun a ha => ok5.e.live a (inCD a ha)) m15) R fun s6 vs6 ok6 hp6 hr6 m6 => hR s6 vs6 ok6 hp6 (by rw [← List.append_assoc]; exact hr6) ?_
      exact ((m1.mono (wr' := wr ++ [cenv.locals, D]) (gw' := gw) (fun a h => List.mem_append_left _ h) fun _ h => h).trans (m15.mono (fun a h => List.mem_append_right _ h) (by simp))).trans m6
  exact compStart_at hg hga (run s4 (Mv.refl s4)) (hself s4 (Mv.refl s4) _ _ (run s4 (Mv.refl s4)))
end
end Mine
end

section
open PySem PyProof.Rows
namespace Mine

/-- the cells that a comprehension takes along -/
noncomputable def clOf (cells : List (Str × Addr)) : List (Str × NameKind) → List (Str × Addr) → List (Str × Addr)
  | [], acc => acc
  | (x, k) :: r, acc => if k == .free then clOf cells r ((x, (cells.lookup x).getD 0) :: acc) else clOf cells r acc

theorem closureFor_eq {scope : Scope} {env : Env} (h : ∀ p ∈ scope.names, p.2 = .free → ∃ c, env.cells.lookup p.1 = some c) : closureFor scope env = pure (clOf env.cells scope.names []) := by
  have go : ∀ (names : List (Str × NameKind)) (acc : List (Str × Addr)), (∀ p ∈ names, p.2 = .free → ∃ c, env.cells.lookup p.1 = some c) →
      (forIn names acc fun (x : Str × NameKind) (cs : List (Str × Addr)) => (if x.2 == .free then (do let a ← cellOf env x.1; pure (ForInStep.yield ((x.1, a) :: cs))) else pure (ForInStep.yield cs) : Sem (ForInStep (List (Str × Addr))))) = pure (clOf env.cells names acc) := by
    intro names
    induction names with
    | nil => intro acc _; rfl
    | cons p r ih =>
      intro acc hp
      obtain ⟨x, k⟩ := p
      rw [List.forIn_cons]
      by_cases hk : k = .free
      · subst hk
        obtain ⟨c, hc⟩ := hp (x, .free) List.mem_cons_self rfl
        have e : cellOf env x = pure c := by unfold cellOf; rw [hc]
        simp only [beq_self_eq_true, if_true, e, clOf, hc, Option.getD_some]
        exact ih _ fun p hm => hp p (List.mem_cons_of_mem _ hm)
      · have : (k == NameKind.free) = false := by simpa using hk
        simp only [this, Bool.false_eq_true, if_false, clOf]
        exact ih _ fun p hm => hp p (List.mem_cons_of_mem _ hm)
  unfold closureFor
  have := go scope.names [] h
  exact (congrArg (fun (m : Sem (List (Str × Addr))) => m >>= fun r => pure r) this).trans rfl
theorem clOf_lookup {cells : List (Str × Addr)} : ∀ {names : List (Str × NameKind)} {acc : List (Str × Addr)} {x : Str} {c : Addr}, (∀ p ∈ names, p.2 = .free → ∃ c, cells.lookup p.1 = some c) → (clOf cells names acc).lookup x = some c → cells.lookup x = some c ∨ acc.lookup x = some c
  | [], acc, x, c, _, h => .inr h
  | (y, k) :: r, acc, x, c, hp, h => by
    have hp' : ∀ p ∈ r, p.2 = .free → ∃ c, cells.lookup p.1 = some c := fun p hm => hp p (List.mem_cons_of_mem _ hm)
    unfold clOf at h
    by_cases hk : k = .free
    · subst hk
      obtain ⟨c', hc⟩ := hp (y, .free) List.mem_cons_self rfl
      simp only [beq_self_eq_true, if_true, hc, Option.getD_some] at h
      rcases clOf_lookup hp' h with h | h
      · exact .inl h
      · rw [List.lookup_cons] at h
        cases e : x == y with
        | true => rw [e] at h; cases h; rw [beq_iff_eq.mp e]; exact .inl hc
        | false => rw [e] at h; exact .inr h
    · have : (k == NameKind.free) = false := by simpa using hk
      simp only [this, Bool.false_eq_true, if_false] at h
      exact clOf_lookup hp' h
theorem clOf_some {cells : List (Str × Addr)} : ∀ {names : List (Str × NameKind)} {acc : List (Str × Addr)} {x : Str}, ((x, NameKind.free) ∈ names ∨ (acc.lookup x).isSome = true) → ((clOf cells names acc).lookup x).isSome = true
  | [], acc, x, h => by simpa [clOf] using h
  | (y, k) :: r, acc, x, h => by
    unfold clOf
    by_cases hk : k = .free
    · subst hk
      simp only [beq_self_eq_true, if_true]
      refine clOf_some ?_
      rw [List.lookup_cons]
      cases e : x == y with
      | true => exact .inr rfl
      | false =>
        rcases h with h | h
        · rcases List.mem_cons.mp h with h | h
          · cases h; simp at e
          · exact .inl h
        · exact .inr h
    · have : (k == NameKind.free) = false := by simpa using hk
      simp only [this, Bool.false_eq_true, if_false]
      refine clOf_some ?_
      rcases h with h | h
      · rcases List.mem_cons.mp h with h | h
        · cases h; exact absurd rfl hk
        · exact .inl h
      · exact .inr h

theorem lookup_relabel_free {env : Env} : ∀ {names : List (Str × NameKind)} {x : Str}, names.lookup x = some .free →
    (names.map fun (n, k) => if (k == NameKind.free && env.scope.kind == .function && env.kindOf n == some .cell) then (n, NameKind.cell) else (n, k)).lookup x = some .cell ∨
    (names.map fun (n, k) => if (k == NameKind.free && env.scope.kind == .function && env.kindOf n == some .cell) then (n, NameKind.cell) else (n, k)).lookup x = some .free
  | [], _, h => by simp at h
  | (n, k) :: r, x, h => by
    have ih := @lookup_relabel_free env r x
    rw [List.map_cons]
    dsimp only
    cases hx : x == n with
    | true =>
      simp only [List.lookup_cons, hx] at h
      cases h
      by_cases hc : (NameKind.free == NameKind.free && env.scope.kind == .function && env.kindOf n == some .cell) = true
      · left; rw [if_pos hc]; simp [List.lookup_cons, hx]
      · right; rw [if_neg hc]; simp [List.lookup_cons, hx]
    | false =>
      simp only [List.lookup_cons, hx] at h
      by_cases hc : (k == NameKind.free && env.scope.kind == .function && env.kindOf n == some .cell) = true
      · rw [if_pos hc]; simp only [List.lookup_cons, hx]; exact ih h
      · rw [if_neg hc]; simp only [List.lookup_cons, hx]; exact ih h

/-- what a comprehension's block asks of its names -/
structure CompOk (env : Env) (scope : Scope) (σ σf : Sig) : Prop where
  kind : scope.kind = .function
  nocell : ∀ y ∈ scope.names, y.2 ≠ .cell
  names : ∀ x ∈ scope.names, x.2 = .local → scope.names.lookup x.1 = some .local
  free : ∀ p ∈ scope.names, p.2 = .free → ∃ c, env.cells.lookup p.1 = some c
  sub : ∀ p ∈ σf, p ∈ σ ∧ (∃ d, p.2 = .sh d) ∧ scope.names.lookup p.1 = some .free ∧ env.kindOf p.1 ≠ some .local
  nodup : (σf.map Prod.fst).Nodup

noncomputable abbrev cEnv (scope : Scope) (C : Addr) (env : Env) : Env := compEnvC scope (clOf env.cells scope.names []) C env

section
variable {b : Bool} {G : Gx} {n : Nat} {env : Env} {σ σ' σf : Sig} {scope : Scope}

theorem comp_core {elt tgt iter : Expr} {ifs : List Expr} {rest : List Comprehension} {pos : Pos} {l out : List PyData} (cok : CompOk env scope σ σf) (hfirst : IterTo G n env σ tgt iter l true)
    (hloop : ∀ C, CompAt G n (cEnv scope C env) (.ListComp elt (⟨tgt, iter, ifs, 0⟩ :: rest) scope pos) 0 tgt σf l out) (hsz : out.length ≤ sizeLine)
    {A : Around} (hA : Rm n A) {av : List Addr} {ad : Str → Addr} {s : Shared} (ok : OkE G av env σ ad s) (E : Value → Shared → Prop) (RR : Value → Addr → Result → Shared → Prop)
    (hRR : ∀ D C s' vs, s.heap.get? D = none → s.heap.get? C = none → D ≠ C → (∃ m, s'.heap.Ns C m) → s'.heap.PlainList D vs → RepAll (Pt s'.heap (D :: C :: av)) out vs.toList → Mv [] [] s s' → RR (.ref D) C (.ok .next) s') :
    wpAny G.M A (eval iter env) (fun x s₁ => wpAny G.M A (pyIter x) (fun it s₂ => wpAny G.M A (newList []) (fun acc s₃ =>
      wpAny G.M A (newFunctionEnv scope env.globals (clOf env.cells scope.names []) [] env.qual none .none (some env)) (fun cenv s₄ =>
        codeAny G.M A (.compStart (.ListComp elt (⟨tgt, iter, ifs, 0⟩ :: rest) scope pos) 0 it acc { cenv with scope := relabel scope env }) (RR acc cenv.locals) s₄) E s₃) E s₂) E s₁) E s := by
  refine wpAny_mono (hfirst A hA [] av ad s ok (by simp) (by simp) E) (fun x s₁ h₁ => wpAny_mono h₁ (fun it s₂ h₂ => ?_) fun _ _ x => x) fun _ _ x => x
  obtain ⟨wr, gw, hw, hl2, hg, m2, hself, hit⟩ := h₂
  have ok2 := ok.mv m2
  refine wpAny_newObj_type (wpAny_newFunctionEnv cok.nocell (by intro y hy; simp at hy) (fun h₁ hns₁ hsb₁ => ?_) cok.kind)
  dsimp only at hns₁ hsb₁ ⊢
  generalize hH2 : s₂.heap.push { cls := .type "list", dict := none, data := .seq ([] : List Value).toArray } = H2 at hns₁ hsb₁ ⊢
  have hCs : H2.objs.size = s₂.heap.objs.size + 1 := by rw [← hH2, Heap.size_push]
  generalize hD : s₂.heap.objs.size = D at *
  generalize hC : H2.objs.size = C at *
  have hDC : D ≠ C := by rw [hCs]; exact Nat.ne_of_lt (Nat.lt_succ_self _)
  have old : ∀ b o, s₂.heap.get? b = some o → h₁.get? b = some o := fun b o e => hsb₁.extBut b o (by have := Heap.lt_size e; rw [hD] at this; rw [hCs]; exact Nat.ne_of_lt (Nat.lt_succ_of_lt this)) (Heap.get?_push_of_some _ (hH2 ▸ Heap.get?_push_of_some _ e))
  have hp4 : h₁.PlainList D #[] := ⟨_, hsb₁.extBut _ _ hDC (Heap.get?_push_of_some _ (hH2 ▸ hD ▸ Heap.get?_push_size _ rfl))⟩
  have fD : s₂.heap.get? D = none := fresh_none (Nat.le_of_eq hD)
  have fC : s₂.heap.get? C = none := fresh_none (by rw [hD, hCs]; exact Nat.le_succ _)
  have back : ∀ a, s₂.heap.get? a = none → s.heap.get? a = none := fun a => fresh_back (mu := []) m2 (by simp)
  generalize hs4 : ({ s₂ with heap := h₁, toks := s₂.toks + ([] : List (Str × Value)).length } : Shared) = s4
  have e4 : s4.heap = h₁ := by rw [← hs4]
  have m24 : Mv [] [] s₂ s4 := by rw [← hs4]; exact ⟨fun b o _ e => old b o e, fun _ _ _ e => e, fun e => e, rfl⟩
  have notOld : ∀ a o, s.heap.get? a = some o → a ∉ wr ∧ a ≠ D ∧ a ≠ C := by
    intro a o e
    refine ⟨fun k => ?_, fun k => ?_, fun k => ?_⟩
    · rw [hw a k] at e; cases e
    · rw [k, back _ fD] at e; cases e
    · rw [k, back _ fC] at e; cases e
  have keep4 : ∀ b o, s.heap.get? b = some o → s4.heap.get? b = some o := fun b o e => m24.heap b o (by simp) (m2.heap b o (by simp) e)
  have hclo := @clOf_lookup env.cells scope.names []
  have hcl : ∀ x c, (clOf env.cells scope.names []).lookup x = some c → env.cells.lookup x = some c := fun x c e => (hclo cok.free e).elim id fun k => by simp at k
  have low : ∀ a, s.heap.get? a = none → G.h0.get? a = none := fun a ha => by
    cases e : G.h0.get? a with
    | none => rfl
    | some o => have := ok.keep a o e; rw [ha] at this; cases this
  have okC : OkC G (wr ++ D :: C :: av) (cEnv scope C env) σf s4 := by
    refine ⟨⟨fun b o e => keep4 b o (ok.keep b o e), fun a ha => ?_, cok.kind, ok.gl, ok.bi, fun x c e => ?_, fun p hp => ?_⟩, ⟨_, by rw [e4]; exact hns₁⟩, by simp [compEnvC], low _ (back _ fC), fun p hp => (cok.sub p hp).2.1, cok.nodup⟩
    · rcases List.mem_append.mp ha with k | k
      · obtain ⟨o, e⟩ := hl2 a k; exact ⟨o, m24.heap a o (by simp) e⟩
      · rcases List.mem_cons.mp k with rfl | k
        · obtain ⟨q, e⟩ := hp4; exact ⟨_, by rw [e4]; exact e⟩
        · rcases List.mem_cons.mp k with rfl | k
          · obtain ⟨o, _, _, e, _⟩ := hns₁; exact ⟨o, by rw [e4]; exact e⟩
          · obtain ⟨o, e⟩ := ok.live a k; exact ⟨o, keep4 a o e⟩
    · obtain ⟨o, e'⟩ := ok.cl x c (hcl x c e); exact ⟨o, keep4 c o e'⟩
    · obtain ⟨h1, ⟨d, h2⟩, h3, h5⟩ := cok.sub p hp
      obtain ⟨v, b1, b2⟩ := ok.vars p h1
      refine ⟨v, ?_, ?_⟩
      · rcases b1 with ⟨k1, _⟩ | ⟨k1, c, k2, k3⟩
        · exact absurd k1 h5
        · have hs := clOf_some (cells := env.cells) (names := scope.names) (acc := []) (x := p.1) (.inl (mem_of_lookup h3))
          obtain ⟨c', hc'⟩ := Option.isSome_iff_exists.mp hs
          have : c' = c := by have := hcl _ _ hc'; rw [k2] at this; cases this; rfl
          subst this
          exact .inr ⟨lookup_relabel_free (env := env) h3, c', hc', k3.keeps keep4⟩
      · rw [h2] at b2 ⊢
        refine Rep.mono (fun a o q => ⟨keep4 a o q.1, fun k => ?_⟩) _ _ b2
        obtain ⟨n1, n2, n3⟩ := notOld a o q.1
        rcases List.mem_append.mp k with k | k
        · exact n1 k
        · rcases List.mem_cons.mp k with k | k
          · exact n2 k
          · rcases List.mem_cons.mp k with k | k
            · exact n3 k
            · exact q.2 k
  have nwr : ∀ a ∈ wr, a ∉ D :: C :: av := fun a ha k => by
    obtain ⟨o, e⟩ := hl2 a ha
    rcases List.mem_cons.mp k with rfl | k
    · rw [fD] at e; cases e
    · rcases List.mem_cons.mp k with rfl | k
      · rw [fC] at e; cases e
      · obtain ⟨o', e'⟩ := ok.live a k; rw [hw a ha] at e'; cases e'
  have run : ∀ s5, Mv [] [] s4 s5 → codeAny G.M A (.compLoop (.ListComp elt (⟨tgt, iter, ifs, 0⟩ :: rest) scope pos) 0 it (.ref D) (cEnv scope C env)) (RR (.ref D) C) s5 := by
    intro s5 m5
    refine hloop C A hA (D :: C :: av) s5 D [] #[] it wr gw (okC.mv m5) (by simp [compEnvC]) (by simp) hDC (low _ (back _ fD)) ((show s4.heap.PlainList D #[] by rw [e4]; exact hp4).at fun o e => m5.heap _ o (by simp) e) RepAll.nil (by simpa using hsz) nwr (fun a ha => low a (hw a ha)) (fun x c e k => ?_) (fun x c e k => ?_)
      (hit.step (fun a ha => ?_) (fun a ha => ?_) (by simp) (m24.trans m5)) _ fun s6 vs6 ok6 hp6 hr6 m6 => ?_
    · obtain ⟨o, e'⟩ := ok.cl x c (hcl x c e); rw [hw c k] at e'; cases e'
    · obtain ⟨o, e'⟩ := ok.cl x c (hcl x c e); exact (notOld c o e').2.1 k
    · simp [compEnvC] at ha
      rcases ha with rfl | rfl
      · exact .inr fC
      · exact .inr fD
    · rcases List.mem_append.mp ha with k | k
      · exact .inl (List.mem_append_left _ k)
      · rcases List.mem_cons.mp k with rfl | k
        · exact .inr fD
        · rcases List.mem_cons.mp k with rfl | k
          · exact .inr fC
          · exact .inl (List.mem_append_right _ k)
    · refine hRR D C s6 vs6 (back _ fD) (back _ fC) hDC ok6.ns hp6 (by simpa using hr6) ?_
      exact ((((m2.trans m24).trans m5).mono (wr' := wr ++ [C, D]) (gw' := gw) (by simp) (by simp)).trans m6).shrink (fun a ha => by
        simp at ha
        rcases ha with k | k | k
        · exact .inr (hw a k)
        · exact .inr (k ▸ back _ fC)
        · exact .inr (k ▸ back _ fD)) fun g hgg => .inr (hg g hgg)
  exact compStart_at rfl rfl (run s4 (Mv.refl s4)) (hself s4 m24 _ _ (run s4 (Mv.refl s4)))

theorem EvNew.comp {elt tgt iter : Expr} {ifs : List Expr} {rest : List Comprehension} {pos : Pos} {l out : List PyData} (cok : CompOk env scope σ σf) (hfirst : IterTo G n env σ tgt iter l true)
    (hloop : ∀ C, CompAt G n (cEnv scope C env) (.ListComp elt (⟨tgt, iter, ifs, 0⟩ :: rest) scope pos) 0 tgt σf l out) (hsz : out.length ≤ sizeLine) (hs : ∀ x, foldedSetIterable iter env x = pure x) :
    EvNew G n env σ (.ListComp elt (⟨tgt, iter, ifs, 0⟩ :: rest) scope pos) out := fun A hA av ad s ok E => by
  rw [eval_ListComp]
  refine wpAny_comprehension_free (use := none) rfl hs (closureFor_eq cok.free) cok.kind cok.names (comp_core cok hfirst hloop hsz hA ok E (fun acc C => compPost G.M A E none _ acc C) ?_)
  rintro D C s' vs hD hC hDC ⟨m, hns⟩ hp hr mv
  refine ⟨m, hns, fun h' hs' => ⟨D, vs, rfl, hD, hp.at fun o e => hs'.extBut _ o hDC e, ?_, ?_⟩⟩
  · exact RepAll.mono (fun a o p => ⟨hs'.extBut a o (fun k => p.2 (k ▸ by simp)) p.1, fun k => p.2 (by rcases List.mem_cons.mp k with rfl | k <;> simp [*])⟩) _ _ hr
  · exact ⟨fun b o _ e => hs'.extBut b o (fun k => by subst k; rw [hC] at e; cases e) (mv.heap b o (by simp) e), fun i g hi e => mv.gens i g hi e, mv.bare, mv.os⟩

/-- the name takes the list ahead of the block's end -/
theorem exec_comp {elt tgt iter : Expr} {ifs : List Expr} {rest : List Comprehension} {pos : Pos} {l out : List PyData} (cok : CompOk env scope σ σf) (hfirst : IterTo G n env σ tgt iter l true)
    (hloop : ∀ C, CompAt G n (cEnv scope C env) (.ListComp elt (⟨tgt, iter, ifs, 0⟩ :: rest) scope pos) 0 tgt σf l out) (hsz : out.length ≤ sizeLine) (hs : ∀ x, foldedSetIterable iter env x = pure x)
    {y : Str} {py spos : Pos} (hsw : swapsWith (.ListComp elt (⟨tgt, iter, ifs, 0⟩ :: rest) scope pos) (some (.Name y py)) spos.line env = pure true)
    {A : Around} (hA : Rm n A) {av : List Addr} {ad : Str → Addr} {s : Shared} (ok : OkE G av env σ ad s) (E : Value → Shared → Prop) (Q : Flow → Shared → Prop)
    (h : ∀ D C s' vs, s.heap.get? D = none → s.heap.get? C = none → D ≠ C → (∃ m, s'.heap.Ns C m) → s'.heap.PlainList D vs → RepAll (Pt s'.heap (D :: C :: av)) out vs.toList → Mv [] [] s s' →
      wpAny G.M A (storeName env y (.ref D)) (fun _ s'' => ∃ m, s''.heap.Ns C m ∧ ∀ h', Heap.SameBut C s''.heap h' → Q .next { s'' with heap := h' }) E s') :
    wpAny G.M A (exec (.Assign [.Name y py] (.ListComp elt (⟨tgt, iter, ifs, 0⟩ :: rest) scope pos) spos) env) Q E s := by
  rw [exec_Assign_Name_used _ _ _ _ hsw]
  refine wpAny_bind (wpAny_standAt (wpAny_bind ?_))
  show wpAny _ A (do let _ ← comprehension (.ListComp elt (⟨tgt, iter, ifs, 0⟩ :: rest) scope pos) scope env _ (newList []) false (eval iter env) (some (assign (.Name y py) env))) _ _ s
  refine wpAny_bind (wpAny_mono (wpAny_comprehension_free (use := some (assign (.Name y py) env)) (Q := fun _ s' => Q .next s') rfl hs (closureFor_eq cok.free) cok.kind cok.names
    (comp_core cok hfirst hloop hsz hA ok E (fun acc C => compPost G.M A E (some (assign (.Name y py) env)) (fun _ s' => Q .next s') acc C) ?_)) (fun _ s' hq => wpAny_pure (wpAny_pure hq)) fun _ _ e => e)
  intro D C s' vs hD hC hDC hns hp hr mv
  exact wpAny_assign_Name (h D C s' vs hD hC hDC hns hp hr mv)
end
end Mine
end

section
open PySem PyProof.Rows
namespace Mine

section
variable {b : Bool} {G : Gx} {n : Nat} {env : Env} {σ σ' σf : Sig} {scope : Scope} {av0 mu av : List Addr} {ad : Str → Addr} {s s1 : Shared}

theorem Ok.growBoth {nm wr : List Addr} (ok : Ok G av0 mu av env σ ad s) (m : Mv [] [] s s1) (hn : ∀ a ∈ nm, s.heap.get? a = none) (hw : ∀ a ∈ wr, s.heap.get? a = none) (hnl : ∀ a ∈ nm, ∃ o, s1.heap.get? a = some o) (hwl : ∀ a ∈ wr, ∃ o, s1.heap.get? a = some o) :
    Ok G av0 (nm ++ mu) (wr ++ (nm ++ av)) env σ ad s1 := by
  have ok1 := ok.mv m
  have hk : ∀ b o, s.heap.get? b = some o → s1.heap.get? b = some o := fun b o e => m.heap b o (by simp) e
  have inm : ∀ a ∈ wr ++ (nm ++ av), a ∈ av ∨ s.heap.get? a = none := fun a ha => (List.mem_append.mp ha).elim (fun k => .inr (hw a k)) fun k => (List.mem_append.mp k).elim (fun k => .inr (hn a k)) .inl
  refine ⟨⟨ok1.e.keep, fun x hx => ?_, ok.e.fn, ok.e.gl, ok.e.bi, ok1.e.cl, fun p hp => ?_⟩, fun x hx => ?_, fun x hx => ?_, fun x hx => ?_, fun x hx => List.mem_append_right _ (List.mem_append_right _ (ok.sub0 x hx)), ⟨List.mem_append_right _ ok1.loc.1, ok1.loc.2⟩,
    fun x c e => let ⟨h1, h2⟩ := ok1.cel x c e; ⟨List.mem_append_right _ h1, h2⟩, ok.apart, fun x xs hx => List.mem_append_right _ (ok.own x xs hx), ok.inj, ok.nodup⟩
  · exact (List.mem_append.mp hx).elim (hwl x) fun k => (List.mem_append.mp k).elim (hnl x) (ok1.e.live x)
  · obtain ⟨v, h1, h2⟩ := ok.e.vars p hp
    exact ⟨v, h1.keeps hk, (h2.avs inm).keeps hk⟩
  · rcases List.mem_append.mp hx with k | k
    · cases e : G.h0.get? x with
      | none => rfl
      | some o => have := ok.e.keep x o e; rw [hn x k] at this; cases this
    · exact ok.low x k
  · exact List.mem_append_right _ ((List.mem_append.mp hx).elim (fun k => List.mem_append_left _ k) fun k => List.mem_append_right _ (ok.sub x k))
  · rcases List.mem_append.mp hx with k | k
    · intro q
      obtain ⟨o, e⟩ := ok.e.live x (ok.sub0 x q)
      rw [hn x k] at e; cases e
    · exact ok.out x k

theorem ExTo.assignComp {elt tgt iter : Expr} {ifs : List Expr} {rest : List Comprehension} {pos : Pos} {l out : List PyData} {y : Str} {py spos : Pos} (cok : CompOk env scope σ σf) (hfirst : IterTo G n env σ tgt iter l true)
    (hloop : ∀ C, CompAt G n (cEnv scope C env) (.ListComp elt (⟨tgt, iter, ifs, 0⟩ :: rest) scope pos) 0 tgt σf l out) (hsz : out.length ≤ sizeLine) (hs : ∀ x, foldedSetIterable iter env x = pure x)
    (hsw : swapsWith (.ListComp elt (⟨tgt, iter, ifs, 0⟩ :: rest) scope pos) (some (.Name y py)) spos.line env = pure true) (hst : Storable env y) (u : Upd σ y (.sh (.list out)) σ') :
    ExTo G n env σ (.Assign [.Name y py] (.ListComp elt (⟨tgt, iter, ifs, 0⟩ :: rest) scope pos) spos) (.next σ') := fun A hA av0 mu av ad s ok E => by
  refine exec_comp cok hfirst hloop hsz hs hsw hA ok.e E _ ?_
  rintro D C s' vs hD hC hDC ⟨m, hns⟩ ⟨k, hp⟩ hr mv
  have liv : ∀ a ∈ av, a ≠ D ∧ a ≠ C := fun a ha => by
    obtain ⟨o, e⟩ := ok.e.live a ha
    refine ⟨fun k => ?_, fun k => ?_⟩
    · rw [k, hD] at e; cases e
    · rw [k, hC] at e; cases e
  have ok' := ok.growAv (wr := [C]) mv (by simpa using hC) (by simpa using (let ⟨o, _, _, e, _⟩ := hns; ⟨o, e⟩ : ∃ o, s'.heap.get? C = some o))
  have hCm : C ∉ mu := fun k => (liv C (ok.sub C k)).2 rfl
  refine wpAny_mono (ok'.storeSh hst u (Rep.list ⟨hp, fun k => ?_⟩ rfl rfl (hr.av fun a ha => .inl (List.mem_cons_of_mem _ ha))) E) (fun _ s'' h => ?_) fun _ _ x => x
  · rcases List.mem_cons.mp k with k | k
    · exact hDC k
    · exact (liv D k).1 rfl
  · obtain ⟨ok2, m2⟩ := h
    refine ⟨m, hns.at' fun o e => m2.heap _ o hCm e, fun h' hs' => ?_⟩
    have m3 : Mv [C] [] s'' { s'' with heap := h' } := ⟨fun b o hb e => hs'.extBut b o (by simpa using hb) e, fun _ _ _ e => e, fun e => e, rfl⟩
    have ok3 := ok2.left m3 (by simp) (by simpa using hCm) (by
      simp
      cases e : G.h0.get? C with
      | none => rfl
      | some o => have := ok.e.keep C o e; rw [hC] at this; cases this) (by simp; exact fun k => (liv C (ok.sub0 C k)).2 rfl)
    have ok4 : Ok G av0 mu av env σ' ad { s'' with heap := h' } := ok3.avs (fun a ha => by simp [ha]; exact (liv a ha).2) ok.sub ok.sub0
    refine ⟨rfl, After.refl ok4, ?_⟩
    exact (((mv.mono (wr' := C :: mu) (gw' := []) (by simp) (by simp)).trans (m2.mono (fun a h => List.mem_cons_of_mem _ h) fun _ h => h)).trans (m3.mono (fun a h => by simp at h; simp [h]) fun _ h => h)).shrink (fun a ha => (List.mem_cons.mp ha).elim (fun k => .inr (k ▸ hC)) .inl) (by simp)

theorem ExTo.assignCompNew {elt tgt iter : Expr} {ifs : List Expr} {rest : List Comprehension} {pos : Pos} {l out : List PyData} {y : Str} {py spos : Pos} (cok : CompOk env scope σ σf) (hfirst : IterTo G n env σ tgt iter l true)
    (hloop : ∀ C, CompAt G n (cEnv scope C env) (.ListComp elt (⟨tgt, iter, ifs, 0⟩ :: rest) scope pos) 0 tgt σf l out) (hsz : out.length ≤ sizeLine) (hs : ∀ x, foldedSetIterable iter env x = pure x)
    (hsw : swapsWith (.ListComp elt (⟨tgt, iter, ifs, 0⟩ :: rest) scope pos) (some (.Name y py)) spos.line env = pure true) (hst : Storable env y) (u : Upd σ y (.own out) σ') :
    ExTo G n env σ (.Assign [.Name y py] (.ListComp elt (⟨tgt, iter, ifs, 0⟩ :: rest) scope pos) spos) (.next σ') := fun A hA av0 mu av ad s ok E => by
  refine exec_comp cok hfirst hloop hsz hs hsw hA ok.e E _ ?_
  rintro D C s' vs hD hC hDC ⟨m, hns⟩ hp hr mv
  have liv : ∀ a ∈ av, a ≠ D ∧ a ≠ C := fun a ha => by
    obtain ⟨o, e⟩ := ok.e.live a ha
    refine ⟨fun k => ?_, fun k => ?_⟩
    · rw [k, hD] at e; cases e
    · rw [k, hC] at e; cases e
  have ok' := ok.growBoth (nm := [D]) (wr := [C]) mv (by simpa using hD) (by simpa using hC) (by simpa using (let ⟨k, e⟩ := hp; ⟨_, e⟩ : ∃ o, s'.heap.get? D = some o)) (by simpa using (let ⟨o, _, _, e, _⟩ := hns; ⟨o, e⟩ : ∃ o, s'.heap.get? C = some o))
  have hCm : C ∉ [D] ++ mu := fun k => by
    simp at k
    rcases k with k | k
    · exact hDC k.symm
    · exact (liv C (ok.sub C k)).2 rfl
  refine wpAny_mono (ok'.store (ad' := fun z => if z = y then D else ad z) hst u ⟨by simp, vs, by simpa using hp, hr.av fun a ha => .inl (by simp at ha ⊢; rcases ha with h | h | h <;> simp [h])⟩ (fun z hz => by simp [hz]) (fun xs' _ => ⟨by simp, fun z zs hz hne e => ?_⟩) E) (fun _ s'' h => ?_) fun _ _ x => x
  · simp only [if_true] at e
    exact (liv _ (ok.sub _ (ok.own z zs hz))).1 e
  · obtain ⟨ok2, m2⟩ := h
    refine ⟨m, hns.at' fun o e => m2.heap _ o hCm e, fun h' hs' => ?_⟩
    have m3 : Mv [C] [] s'' { s'' with heap := h' } := ⟨fun b o hb e => hs'.extBut b o (by simpa using hb) e, fun _ _ _ e => e, fun e => e, rfl⟩
    have ok3 := ok2.left m3 (by simp) (by simpa using hCm) (by
      simp
      cases e : G.h0.get? C with
      | none => rfl
      | some o => have := ok.e.keep C o e; rw [hC] at this; cases this) (by simp; exact fun k => (liv C (ok.sub0 C k)).2 rfl)
    have ok4 : Ok G av0 ([D] ++ mu) ([D] ++ av) env σ' _ { s'' with heap := h' } := ok3.avs (fun a ha => by
      simp at ha ⊢
      rcases ha with rfl | ha
      · exact ⟨.inl rfl, hDC⟩
      · exact ⟨.inr ha, (liv a ha).2⟩) (fun a ha => (List.mem_append.mp ha).elim (fun k => List.mem_append_left _ k) fun k => List.mem_append_right _ (ok.sub a k)) (fun a ha => List.mem_append_right _ (ok.sub0 a ha))
    have spl : ∀ (l : List Addr) a, a ∈ [D] ++ l → a ∈ l ∨ s.heap.get? a = none := fun l a ha => (List.mem_append.mp ha).elim (fun k => .inr (by simp at k; rw [k]; exact hD)) .inl
    refine ⟨rfl, ⟨_, _, _, spl mu, spl av, fun a ha _ _ => List.mem_append_right _ ha, fun a ha => ok4.muLive a (List.mem_append_right _ ha), ok4⟩, ?_⟩
    · exact (((mv.mono (wr' := C :: D :: mu) (gw' := []) (by simp) (by simp)).trans (m2.mono (fun a h => by simp at h ⊢; exact .inr h) fun _ h => h)).trans (m3.mono (fun a h => by simp at h; simp [h]) fun _ h => h)).shrink (fun a ha => by
        simp at ha
        rcases ha with k | k | k
        · exact .inr (k ▸ hC)
        · exact .inr (k ▸ hD)
        · exact .inl k) (by simp)
end
end Mine
end

section
open PySem PyProof.Rows
namespace Mine

/-- one stretch of a generator, up to where it stops next -/
noncomputable def Sg (M : Model) (A : Around) (Φ : End → Shared → Prop) (c : Code) (t : Sem Fin) (fs : List Frame) (s : Shared) : Prop :=
  ∀ Γ p, Γ.code = c → Γ.Woken A → ∃ e s', Runs M Γ p t fs s e s' ∧ Φ e s'

section
variable {M : Model} {A : Around} {Φ Ψ : End → Shared → Prop} {c : Code} {t : Sem Fin} {fs : List Frame} {s : Shared} {env : Env}

theorem Sg.mono (h : Sg M A Φ c t fs s) (hi : ∀ e s', Φ e s' → Ψ e s') : Sg M A Ψ c t fs s :=
  fun Γ p hc hΓ => let ⟨e, s', hr, hp⟩ := h Γ p hc hΓ; ⟨e, s', hr, hi e s' hp⟩
theorem Sg.wrap {α : Type} {m : Sem α} {K : α → Sem Fin} {H : Value → Sem Fin} {gd : Bool → Bool} {lv : List Value → List Value}
    (h : wpAny M (A.over c fs) m (fun a s' => Sg M A Φ c (K a) fs s') (fun x s' => Sg M A Φ c (H x) fs s') s) : Sg M A Φ c (m.wrap K H gd lv) fs s := by
  rintro Γ p rfl hΓ
  exact runs_wrap_of_wp K H gd lv m (h (Γ.over fs) p (hΓ.over fs)) (fun a p' s' h' => h' Γ p' rfl hΓ) (fun x p' s' h' => h' Γ p' rfl hΓ)
theorem Sg.bind {α : Type} {m : Sem α} {K : α → Sem Fin}
    (h : wpAny M (A.over c fs) m (fun a s' => Sg M A Φ c (K a) fs s') (fun x s' => Sg M A Φ c (.raise x) fs s') s) : Sg M A Φ c (m >>= K) fs s := by
  rw [Sem.bind_eq_wrap']; exact Sg.wrap h
theorem Sg.at {p' : Pos} {k : Unit → Sem Fin} (h : Sg M A Φ c (k ()) fs s) : Sg M A Φ c (.at p' k) fs s :=
  Sg.wrap (m := standAt p') (K := k) (H := .raise) (gd := id) (lv := id) (wpAny_standAt h)
theorem Sg.point {l : List Value} {k : Unit → Sem Fin} (h : Sg M A Φ c (k ()) fs s) : Sg M A Φ c (.point l k) fs s :=
  Sg.wrap (m := PySem.point) (K := k) (H := .raise) (gd := id) (lv := fun _ => l) (wpAny_point h)
theorem Sg.call {c' : Code} {h : Option Value} {g : Bool} {l : List Value} {k : Result → Sem Fin} (hc : ∀ p, Sg M A Φ c' (M.den c') (.ret k h g l c p [] :: fs) s) : Sg M A Φ c (.call c' h g l k) fs s := by
  rintro Γ p rfl hΓ
  obtain ⟨e, s', hr, he⟩ := hc p (Γ.goto c') p rfl (hΓ.goto c')
  exact ⟨e, s', runs_call_seg hr, he⟩
theorem Sg.leaf {k : Result → Sem Fin} {h : Option Value} {g : Bool} {l : List Value} {c₁ : Code} {p₁ : Pos} {kp : List Value} (r : Result) (hk : Sg M A Φ c₁ (k r) fs s) : Sg M A Φ c (leafOf r) (.ret k h g l c₁ p₁ kp :: fs) s := by
  rintro Γ p rfl hΓ
  obtain ⟨e, s', hr, he⟩ := hk (Γ.goto c₁) p₁ rfl (hΓ.goto c₁)
  exact ⟨e, s', Runs.pop r hr, he⟩
theorem Sg.again {c' : Code} (hq : c'.quiet = true) (hc : Sg M A Φ c' (M.den c') fs s) : Sg M A Φ c (.pure (.again c')) fs s := by
  rintro Γ p rfl hΓ
  obtain ⟨e, s', hr, he⟩ := hc (Γ.goto c') p rfl (hΓ.goto c')
  exact ⟨e, s', Runs.head (c₁ := c') (fun _ _ x => .again hq x) hr, he⟩
theorem Sg.end (r : Result) (h : Φ (.ret r) s) : Sg M A Φ c (leafOf r) [] s := by
  rintro Γ p rfl _
  exact ⟨.ret r, s, Runs.leaf r, h⟩
theorem Sg.yield {v : Value} {g : Bool} {l : List Value} {k : Resume → Sem Fin} (hfs : splitAtGen fs = none) (h : ∀ p, Φ (.susp v g l k c p fs) s) : Sg M A Φ c (.yield v g l k) fs s := by
  rintro Γ p rfl _
  exact ⟨_, s, Runs.yield' fs hfs, h p⟩

section
variable {K : Flow → Sem Fin} {H : Value → Sem Fin} {gd : Bool → Bool} {lv : List Value → List Value}

theorem Sg.nil (h : Sg M A Φ c (K .next) fs s) : Sg M A Φ c ((execs [] env).wrap K H gd lv) fs s := h
theorem Sg.cons {st : Stmt} {rest : List Stmt} (h : Sg M A Φ c ((exec st env).wrap (fun f => match f with | .next => (execs rest env).wrap K H gd lv | f => K f) H gd lv) fs s) :
    Sg M A Φ c ((execs (st :: rest) env).wrap K H gd lv) fs s := by rw [execs_cons_wrap]; exact h
theorem Sg.ite {t : Expr} {body orelse : List Stmt} {pos : Pos} (h : wpAny M (A.over c fs) (isTrue t env (eval t env)) (fun b s' => (b = true → Sg M A Φ c ((execs body env).wrap K H gd lv) fs s') ∧ (b = false → Sg M A Φ c ((execs orelse env).wrap K H gd lv) fs s'))
    (fun x s' => Sg M A Φ c (H x) fs s') s) : Sg M A Φ c ((exec (.If t body orelse pos) env).wrap K H gd lv) fs s := by
  rw [exec_If]
  show Sg M A Φ c (.at pos fun _ => (isTrue t env (eval t env) >>= fun b => if b = true then execs body env else execs orelse env).wrap K H gd lv) fs s
  refine Sg.at ?_
  rw [Sem.bind_eq_wrap', Sem.wrap_wrap]
  refine Sg.wrap (wpAny_mono h (fun b s' hb => ?_) fun _ _ x => x)
  cases b with
  | true => exact hb.1 rfl
  | false => exact hb.2 rfl
/-- a yield: what is told, and how it goes on -/
theorem Sg.tell {e : Expr} {ypos pos : Pos} (hfs : splitAtGen fs = none) (hgd : gd false = false) (hfg : fs.any Frame.guarded = false)
    (h : wpAny M (A.over c fs) (eval e env) (fun v s' => ∀ (l : List Value) (k : Resume → Sem Fin) (p : Pos), (∀ A' Ψ s'', Sg M A' Ψ c (K .next) fs s'' → Sg M A' Ψ c (k (.send .none)) fs s'') → Φ (.susp v false l k c p fs) s')
      (fun x s' => Sg M A Φ c (H x) fs s') s) (hco : env.scope.isCoroutine = false) (hi : interactive env = false) :
    Sg M A Φ c ((exec (.Expr (.Yield (some e) ypos) pos) env).wrap K H gd lv) fs s := by
  rw [exec_Expr env _ pos hi rfl]
  show Sg M A Φ c (.at pos fun _ => ((eval e env >>= fun v => (standAt ypos >>= fun _ => yieldOut env v)) >>= fun x =>
    dropValue (.Yield (some e) ypos) pos x).wrap K H gd lv) fs s
  have hy : ∀ v, yieldOut env v = yieldValue v := fun v => by simp only [yieldOut, hco, Bool.false_eq_true, if_false]
  simp only [hy]
  refine Sg.at ?_
  rw [Sem.bind_eq_wrap', Sem.bind_eq_wrap', Sem.wrap_wrap, Sem.wrap_wrap]
  refine Sg.wrap (wpAny_mono h (fun v s' h' => ?_) fun _ _ x => x)
  refine Sg.at (Sg.yield hfs fun p => ?_)
  show Φ (End.susp v (gd false) _ _ c p fs) s'
  rw [hgd]
  exact h' _ _ p (fun A' Ψ s'' hx => hx)
theorem Sg.while {test : Expr} {body orelse : List Stmt} {pos : Pos}
    (h : ∀ p, Sg M A Φ (.whileLoop test body orelse env) (M.den (.whileLoop test body orelse env))
      (.ret (fun r => ((match r with | .ok f => (.pure f : Sem Flow) | .error e => .raise e).onRaise fun (x : Value) => do
        if (← field x 1) == Value.none then unsupported "frame.own-activation:exception-without-traceback"
        setFlight x env.frame).wrap K H gd lv) none (gd false) (lv []) c p [] :: fs) s) :
    Sg M A Φ c ((exec (.While test body orelse pos) env).wrap K H gd lv) fs s :=
  Sg.at (Sg.call h)
theorem Sg.for {tgt e : Expr} {body orelse : List Stmt} {pos : Pos} (hs : ∀ x, foldedSetIterable e env x = pure x)
    (h : wpAny M (A.over c fs) (eval e env) (fun x s1 => wpAny M (A.over c fs) (pyIter x) (fun it s2 => ∀ p, Sg M A Φ (.forLoop tgt it body orelse env) (M.den (.forLoop tgt it body orelse env))
      (.ret (fun r => ((match r with | .ok f => (.pure f : Sem Flow) | .error e => .raise e).onRaise fun (x : Value) => do
        if (← field x 1) == Value.none then unsupported "frame.own-activation:exception-without-traceback"
        setFlight x env.frame).wrap K H gd lv) none (gd false) (lv []) c p [] :: fs) s2) (fun x s' => Sg M A Φ c (H x) fs s') s1) (fun x s' => Sg M A Φ c (H x) fs s') s) :
    Sg M A Φ c ((exec (.For tgt e body orelse pos) env).wrap K H gd lv) fs s := by
  rw [exec_For]
  have hk : ∀ x, (foldedSetIterable e env x >>= fun x => do
      standAt e.pos
      runOwn (.forLoop tgt (← holding [x] (pyIter x)) body orelse env) env) = (do
      standAt e.pos
      runOwn (.forLoop tgt (← holding [x] (pyIter x)) body orelse env) env) := fun x => by rw [hs]; rfl
  show Sg M A Φ c (.at pos fun _ => (eval e env >>= fun x => foldedSetIterable e env x >>= fun x => do
      standAt e.pos
      runOwn (.forLoop tgt (← holding [x] (pyIter x)) body orelse env) env).wrap K H gd lv) fs s
  simp only [hk]
  refine Sg.at ?_
  rw [Sem.bind_eq_wrap', Sem.wrap_wrap]
  refine Sg.wrap (wpAny_mono h (fun x s1 h1 => ?_) fun _ _ x => x)
  refine Sg.at ?_
  show Sg M A Φ c ((holding [x] (pyIter x) >>= fun it => runOwn (.forLoop tgt it body orelse env) env).wrap K H gd lv) fs s1
  rw [Sem.bind_eq_wrap', Sem.wrap_wrap]
  refine Sg.wrap (wpAny_holding (wpAny_mono h1 (fun it s2 h2 => ?_) fun _ _ x => x))
  exact Sg.call h2
end
end

section
variable {prog : Program} {w : World} {A : Around} {Φ : End → Shared → Prop} {fs : List Frame} {s : Shared} {env : Env}

theorem Sg.func {body : List Stmt} (h : Sg (model prog w) A Φ (.func body env) ((execs body env).wrap (fun f => .pure (.done (.ret (match f with | .ret v => v | _ => .none))))
      (fun e => (leaving env e).wrap (fun _ => .raise e) .raise id id) id id) fs s) : Sg (model prog w) A Φ (.func body env) ((model prog w).den (.func body env)) fs s := by
  show Sg _ A Φ _ (.point [] fun _ => ((execs body env).onRaise (leaving env)) >>= _) fs s
  refine Sg.point ?_
  rw [Sem.onRaise_eq_wrap, Sem.bind_eq_wrap', Sem.wrap_wrap]
  rw [Sem.wrap_congr (execs body env) _ _ (K' := fun f => .pure (.done (.ret (match f with | .ret v => v | _ => .none))))
    (H' := fun e => (leaving env e).wrap (fun _ => .raise e) .raise id id) (fun f => by cases f <;> rfl)
    (fun e => by rw [Sem.bind_eq_wrap, Sem.wrap_wrap]; rfl)]
  exact h

/-- while True -/
theorem Sg.whileTrue {test : Expr} {body orelse : List Stmt}
    (h : wpAny (model prog w) (A.over (.whileLoop test body orelse env) fs) (isTrue test env (eval test env)) (fun b s' =>
        b = true ∧
          Sg (model prog w) A Φ (.whileLoop test body orelse env) ((execs body env).wrap (fun f => match f with
            | .next | .cont => .pure (.again (.whileLoop test body orelse env))
            | .brk => .pure (.done .next)
            | .ret v => .pure (.done (.ret v))) (fun e => (do noteFrame e env; theTreesLotGoes e : Sem Unit).wrap (fun _ => .raise e) .raise id id) id id) fs s')
      (fun x s' => Sg (model prog w) A Φ (.whileLoop test body orelse env) ((do noteFrame x env; theTreesLotGoes x : Sem Unit).wrap (fun _ => .raise x) .raise id id) fs s') s) :
    Sg (model prog w) A Φ (.whileLoop test body orelse env) ((model prog w).den (.whileLoop test body orelse env)) fs s := by
  show Sg _ A Φ _ ((whileTurn test body orelse env).onRaise (fun x => do noteFrame x env; theTreesLotGoes x)) fs s
  unfold whileTurn
  rw [Sem.onRaise_eq_wrap, Sem.bind_eq_wrap', Sem.wrap_wrap]
  refine Sg.wrap (wpAny_mono h (fun b s' hb => ?_) fun x s' hx => ?_)
  · obtain ⟨rfl, hb⟩ := hb
    show Sg _ A Φ _ (Sem.wrap _ _ _ _ (if true = true then _ else _)) fs s'
    rw [if_pos rfl, Sem.bind_eq_wrap', Sem.wrap_wrap]
    rw [Sem.wrap_congr (execs body env) _ _ (K' := fun f => match f with
            | .next | .cont => .pure (.again (.whileLoop test body orelse env))
            | .brk => .pure (.done .next)
            | .ret v => .pure (.done (.ret v))) (H' := (fun e => (do noteFrame e env; theTreesLotGoes e : Sem Unit).wrap (fun _ => .raise e) .raise id id))
        (fun f => by cases f <;> rfl)
        (fun e => by first | exact Sem.bind_eq_wrap _ _ | (show (do noteFrame e env; theTreesLotGoes e : Sem Unit).bind (fun _ => .raise e) = _; rw [Sem.bind_eq_wrap]))]
    exact hb
  · first
      | (rw [← Sem.bind_eq_wrap] at hx; exact hx)
      | (show Sg _ A Φ _ ((do noteFrame x env; theTreesLotGoes x : Sem Unit).bind fun _ => .raise x) fs s'; rw [Sem.bind_eq_wrap]; exact hx)

theorem Sg.forTurn {tgt : Expr} {it : Value} {body : List Stmt}
    (h : NxtW (model prog w) (A.over (.forLoop tgt it body [] env) fs) tgt it (fun r s1 => match r with
      | none => Sg (model prog w) A Φ (.block [] env) ((model prog w).den (.block [] env)) fs s1
      | some v => wpAny (model prog w) (A.over (.forLoop tgt it body [] env) fs) (assign tgt env v) (fun _ s2 => Sg (model prog w) A Φ (.forLoop tgt it body [] env) ((execs body env).wrap (fun f => match f with
            | .next | .cont => .pure (.again (.forLoop tgt it body [] env))
            | .brk => .pure (.done .next)
            | .ret v => .pure (.done (.ret v))) (fun e => (do noteFrame e env; theTreesLotGoes e : Sem Unit).wrap (fun _ => .raise e) .raise id id) id id) fs s2)
          (fun _ _ => False) s1) (fun _ _ => False) s) :
    Sg (model prog w) A Φ (.forLoop tgt it body [] env) ((model prog w).den (.forLoop tgt it body [] env)) fs s := by
  show Sg _ A Φ _ ((PySem.forTurn tgt it body [] env).onRaise (fun x => do noteFrame x env; theTreesLotGoes x)) fs s
  unfold PySem.forTurn
  rw [Sem.onRaise_eq_wrap, Sem.bind_eq_wrap', Sem.wrap_wrap]
  refine Sg.wrap (wpAny_standAt ?_)
  rw [Sem.bind_eq_wrap', Sem.wrap_wrap]
  refine Sg.wrap (wpAny_onRaise (wpAny_mono h (fun r s1 h1 => ?_) fun _ _ x => x.elim))
  cases r with
  | none => exact Sg.again rfl h1
  | some v =>
    show Sg _ A Φ _ (Sem.wrap _ _ _ _ (letOwnedTupleGo tgt it v >>= _)) fs s1
    rw [Sem.bind_eq_wrap', Sem.wrap_wrap]
    refine Sg.wrap (wpAny_mono h1 (fun _ s2 h2 => ?_) fun _ _ x => x.elim)
    show Sg _ A Φ _ (Sem.wrap _ _ _ _ (assign tgt env v >>= _)) fs s2
    rw [Sem.bind_eq_wrap', Sem.wrap_wrap]
    refine Sg.wrap (wpAny_mono h2 (fun _ s3 h3 => ?_) fun _ _ x => x.elim)
    show Sg _ A Φ _ (Sem.wrap _ _ _ _ (execs body env >>= _)) fs s3
    rw [Sem.bind_eq_wrap', Sem.wrap_wrap]
    rw [Sem.wrap_congr (execs body env) _ _ (K' := fun f => match f with
            | .next | .cont => .pure (.again (.forLoop tgt it body [] env))
            | .brk => .pure (.done .next)
            | .ret v => .pure (.done (.ret v))) (H' := (fun e => (do noteFrame e env; theTreesLotGoes e : Sem Unit).wrap (fun _ => .raise e) .raise id id))
        (fun f => by cases f <;> rfl)
        (fun e => by first | exact Sem.bind_eq_wrap _ _ | (show (do noteFrame e env; theTreesLotGoes e : Sem Unit).bind (fun _ => .raise e) = _; rw [Sem.bind_eq_wrap]))]
    exact h3
theorem Sg.blockNil {k : Result → Sem Fin} {h : Option Value} {g : Bool} {l : List Value} {c₁ : Code} {p₁ : Pos} {kp : List Value} (hk : Sg (model prog w) A Φ c₁ (k (.ok .next)) fs s) : Sg (model prog w) A Φ (.block [] env) ((model prog w).den (.block [] env)) (.ret k h g l c₁ p₁ kp :: fs) s :=
  Sg.leaf (.ok .next) hk
end
end Mine
end

section
open PySem PyProof.Rows
namespace Mine

/-- a generator's next stretch -/
noncomputable def Gq (M : Model) (A : Around) (Φ : End → Shared → Prop) (gs : GenState) (s : Shared) : Prop :=
  match gs with
  | .fresh c => Sg M A Φ c (M.den c) [] s
  | .suspended k _ c _ fs _ => Sg M A Φ c (k (.send .none)) fs s
  | _ => False

section
variable {M : Model} {A : Around} {E : Value → Shared → Prop} {s : Shared} {Φ : End → Shared → Prop}

theorem resumeSg {g : Nat} {gs : GenState} {l : List Value} {α : Type} {k : GenResult → Sem α} {Q : α → Shared → Prop} (hg : s.gens[g]? = some gs)
    (hgo : Gq M A Φ gs (s.setGen g .running)) (hq : ∀ e s₁, Φ e s₁ → e.quiet = true) (hk : ∀ e s₁, Φ e s₁ → wpAny M A (k e.result) Q E (s₁.setGen g e.genState)) :
    wpAny M A (.resume g (.send .none) l k) Q E s := by
  intro Γ p hΓ
  rw [Sem.wp_resume]
  cases gs with
  | fresh c =>
    obtain ⟨e₁, s₁, hr, he⟩ := hgo (Γ.wake c p) p rfl (hΓ.wake c p)
    exact ⟨_, _, by unfold Wakes; rw [hg]; exact ⟨e₁, s₁, hr, hq e₁ s₁ he, rfl, rfl⟩, hk e₁ s₁ he Γ p hΓ⟩
  | suspended k₀ l₀ c₀ p₀ fs₀ cl =>
    obtain ⟨e₁, s₁, hr, he⟩ := hgo (Γ.wake c₀ p) p₀ rfl (hΓ.wake c₀ p)
    exact ⟨_, _, by unfold Wakes; rw [hg]; exact ⟨e₁, s₁, hr, hq e₁ s₁ he, rfl, rfl⟩, hk e₁ s₁ he Γ p hΓ⟩
  | running => exact hgo.elim
  | finished => exact hgo.elim
end

section
variable {prog : Program} {w : World} {A : Around} {E : Value → Shared → Prop} {s : Shared} {Φ : End → Shared → Prop}

/-- a generator function's draw -/
theorem pyNext_sg {a : Addr} {g : Nat} {gs : GenState} {Q : Option Value → Shared → Prop} (hh : A.handled = none) (hl : s.heap.NoLimit) (hroom : A.depth < recursionLimit) (hg : s.heap.IsGen a g) (hgs : s.gens[g]? = some gs)
    (hgo : Gq (model prog w) A.in1 Φ gs (s.setGen g .running))
    (hQ : ∀ e s₁, Φ e s₁ → e.quiet = true ∧ ((∃ v g0 l0 k0 c0 p0 fs0, e = .susp v g0 l0 k0 c0 p0 fs0 ∧ Q (some v) (s₁.setGen g e.genState)) ∨
      (e = .ret (.ok (.ret .none)) ∧ ∀ h', (∀ b o, s₁.heap.get? b = some o → h'.get? b = some o) → Q none { s₁.setGen g .finished with heap := h' }))) :
    wpAny (model prog w) A (pyNext (.ref a)) Q E s := by
  unfold pyNext
  refine wpAny_bind (wpAny_attempt (wpAny_callSpecial?_slot (name := Str.ofString "__next__") hg.typeIs slot_gen_next
    (wpAny_call_entry slot_gen_next hg.typeIs entry_gen_next ?_ (args_gen_next _))))
  show wpAny _ A.in1 (Builtin.Generator.genWake (.ref a) (.send .none)) _ _ s
  unfold Builtin.Generator.genWake
  refine wpAny_bind (wpAny_holding (wpAny_genNumber hg (wpAny_bind (wpAny_genState hgs ?_))))
  cases gs with
  | running => exact hgo.elim
  | finished => exact hgo.elim
  | _ =>
    refine wpAny_bind (wpAny_roomToWake hl hroom ?_)
    show wpAny _ A.in1 (.resume g (.send .none) [] _) _ _ s
    refine resumeSg hgs hgo (fun e s₁ he => (hQ e s₁ he).1) (fun e s₁ he => ?_)
    rcases (hQ e s₁ he).2 with ⟨v, g0, l0, k0, c0, p0, fs0, rfl, hv⟩ | ⟨rfl, hP⟩
    · exact wpAny_pure ⟨v, rfl, wpAny_pure hv⟩
    · show wpAny _ A.in1 (newExc (.type "StopIteration") [] >>= _) _ _ _
      refine wpAny_bind ?_
      simp only [newExc, newTuple]
      refine wpAny_bind (wpAny_newObj_type ?_ (by size_fits))
      refine wpAny_bind (m := firstArgMember _ _) (wpAny_of_eq (a := Value.none) (by first | rfl | (simp only [firstArgMember]; rfl)) ?_)
      refine wpAny_newObj_type ?_ (by size_fits)
      simp only [raiseNew]
      refine wpAny_bind (wpAny_bind (wpAny_handled ?_))
      first | rw [show A.in1.handled = none from hh] | rw [hh]
      refine wpAny_throw ?_
      refine wpAny_bind (wpAny_isInstance (T := "StopIteration") (b := true) ⟨_, Heap.get?_push_size _ rfl, rfl⟩ isSubtype_stop ?_)
      exact wpAny_pure (hP _ fun b o hb => Heap.get?_push_of_some _ (Heap.get?_push_of_some _ hb))

theorem lot_gen {tgt : Expr} (ht : TgtOk tgt) {a : Addr} {g : Nat} {v : Value} {Q : Unit → Shared → Prop} (hg : s.heap.IsGen a g) (h : Q () s) : wpAny (model prog w) A (letOwnedTupleGo tgt (.ref a) v) Q E s := by
  cases ht with
  | name x p => exact wpAny_pure h
  | tup es k p =>
    cases v with
    | ref T =>
      obtain ⟨o, nm, qn, ho, hc, hd, _⟩ := hg
      show wpAny (model prog w) A (load a >>= _) Q E s
      refine wpAny_bind (wpAny_load ho ?_)
      rw [hc, hd]
      exact wpAny_pure h
    | _ => exact wpAny_pure h
end

theorem bare_set {a : Array GenState} {g : Nat} {x : GenState} (h : AllBare a) (hx : x.bare = true) : AllBare (a.setIfInBounds g x) := by
  intro y hy
  obtain ⟨i, hi, rfl⟩ := Array.mem_iff_getElem.mp hy
  rw [Array.getElem_setIfInBounds (by simpa using hi)]
  split
  · exact hx
  · exact h _ (Array.getElem_mem _)
/-- a draw's change, with the generator's own mark -/
theorem Mv.drawn {wr : List Addr} {g : Nat} {s s1 : Shared} {x : GenState} {h' : Heap} (m : Mv wr [] (s.setGen g .running) s1) (hx : x.bare = true) (hh : ∀ b o, s1.heap.get? b = some o → h'.get? b = some o) :
    Mv wr [g] s { s1.setGen g x with heap := h' } := by
  refine ⟨fun b o hb e => hh b o (m.heap b o hb e), fun i y hi e => ?_, fun hb => bare_set (m.bare (bare_set hb rfl)) hx, m.os⟩
  have hne : i ≠ g := by simpa using hi
  have e1 : (s.setGen g .running).gens[i]? = some y := by rw [(GenOnly.setGen s g _).2 i hne]; exact e
  have e2 := m.gens i y (by simp) e1
  show (s1.setGen g x).gens[i]? = some y
  rw [(GenOnly.setGen s1 g _).2 i hne]; exact e2

/-- told things are made of what is new since the draw -/
noncomputable def FreshRep (wr : List Addr) (s₀ s : Shared) (d : PyData) (v : Value) : Prop := Rep (fun a o => s.heap.get? a = some o ∧ s₀.heap.get? a = none ∧ a ∉ wr) d v
/-- what a generator needs still stands -/
noncomputable def Held (G : Gx) (dep : List Addr) (s s'' : Shared) : Prop := (∀ b o, G.h0.get? b = some o → s''.heap.get? b = some o) ∧ ∀ b ∈ dep, ∀ o, s.heap.get? b = some o → s''.heap.get? b = some o

/-- where a stretch that begins at s0 may stop, if these are still to be told -/
noncomputable def GEnd (G : Gx) (A : Around) (dep wr : List Addr) (ended : Bool) : List PyData → Shared → End → Shared → Prop
  | [], s0, e, s' => e = .ret (.ok (.ret .none)) ∧ Mv wr [] s0 s'
  | x :: r, s0, e, s' => (∃ v g l k c p fs, e = .susp v g l k c p fs ∧ FreshRep wr s0 s' x v) ∧ e.quiet = true ∧ Mv wr [] s0 s' ∧ (∀ a ∈ dep, ∃ o, s'.heap.get? a = some o) ∧
      ((r = [] → ended = true) → ∀ s'', Held G dep s' s'' → Gq G.M A (GEnd G A dep wr ended r s'') e.genState s'')

section
variable {G : Gx} {A : Around} {tgt : Expr}

theorem GEnd.quiet {dep wr : List Addr} {ended : Bool} {l : List PyData} {s0 s' : Shared} {e : End} (h : GEnd G A dep wr ended l s0 e s') : e.quiet = true := by
  cases l with
  | nil => obtain ⟨rfl, _⟩ := h; rfl
  | cons x r => exact h.2.1

theorem genIt (ht : TgtOk tgt) (hA : Rm 1 A) {a : Addr} {g : Nat} {dep wr : List Addr} {ended : Bool} (hsub : ∀ b ∈ wr, b ∈ dep) (haw : a ∉ wr) (hw0 : ∀ b ∈ wr, G.h0.get? b = none) : ∀ (l : List PyData) (mu av : List Addr) (s : Shared),
    (∀ b o, G.h0.get? b = some o → s.heap.get? b = some o) → s.heap.IsGen a g → (∃ gs, s.gens[g]? = some gs ∧ ((l = [] → ended = true) → ∀ s'', Held G dep s s'' → Gq G.M A.in1 (GEnd G A.in1 dep wr ended l s'') gs s'')) →
    (∀ b ∈ dep, ∃ o, s.heap.get? b = some o) → (∀ b ∈ dep, b ∉ mu) → a ∉ mu → (∀ b ∈ mu, G.h0.get? b = none) → ItAt G.M A tgt (.ref a) wr [g] ended l mu av s
  | [], mu, av, s, keep, hg, hgo, hdl, hdm, ham, hmu => fun hend s' m Q E hQ => by
    obtain ⟨gs, hgs, hgo⟩ := hgo
    have keep' : ∀ b o, G.h0.get? b = some o → s'.heap.get? b = some o := fun b o e => m.heap b o (fun k => by rw [hmu b k] at e; cases e) (keep b o e)
    obtain ⟨o, nm, qn, ho, hr⟩ := id hg
    have hg' : s'.heap.IsGen a g := ⟨o, nm, qn, m.heap _ o ham ho, hr⟩
    refine pyNext_sg hA.hh (G.lim.keeps keep') (by have := hA.dp; omega) hg' (m.gens g gs (by simp) hgs) (hgo (fun _ => hend) (s'.setGen g .running) ⟨keep', fun b hb o e => m.heap b o (hdm b hb) e⟩) fun e s₁ he => ⟨he.quiet, .inr ?_⟩
    obtain ⟨rfl, mv⟩ := he
    exact ⟨rfl, fun h' hh => hQ _ (mv.drawn rfl hh)⟩
  | x :: r, mu, av, s, keep, hg, hgo, hdl, hdm, ham, hmu => fun mu' av' s' g1 g2 g3 m Q E hQ => by
    obtain ⟨gs, hgs, hgo⟩ := hgo
    have keep' : ∀ b o, G.h0.get? b = some o → s'.heap.get? b = some o := fun b o e => m.heap b o (fun k => by rw [hmu b k] at e; cases e) (keep b o e)
    obtain ⟨o, nm, qn, ho, hr⟩ := id hg
    have hg' : s'.heap.IsGen a g := ⟨o, nm, qn, m.heap _ o ham ho, hr⟩
    have hgs' := m.gens g gs (by simp) hgs
    refine pyNext_sg hA.hh (G.lim.keeps keep') (by have := hA.dp; omega) hg' hgs' (hgo (fun h => nomatch h) (s'.setGen g .running) ⟨keep', fun b hb o e => m.heap b o (hdm b hb) e⟩) fun e s₁ he => ⟨he.quiet, .inl ?_⟩
    obtain ⟨⟨v, g0, l0, k0, c0, p0, fs0, rfl, hf⟩, hq, mv, hl1, hnext⟩ := he
    refine ⟨v, g0, l0, k0, c0, p0, fs0, rfl, ?_⟩
    have hg1 : (s₁.setGen g (End.susp v g0 l0 k0 c0 p0 fs0).genState).heap.IsGen a g := ⟨o, nm, qn, mv.heap _ o haw (m.heap _ o ham ho), hr⟩
    have keep1 : ∀ b o, G.h0.get? b = some o → s₁.heap.get? b = some o := fun b o e => mv.heap b o (fun k => by rw [hw0 b k] at e; cases e) (keep' b o e)
    refine lot_gen ht hg1 (hQ v _ ?_ (mv.drawn (End.bare_of_quiet hq) fun _ _ e => e) (fun b hb => hl1 b (hsub b hb)) ?_)
    · refine Rep.mono (fun b o p => ⟨p.1, fun k => ?_⟩) _ _ hf
      obtain ⟨o', e'⟩ := g3 b k
      exact nomatch e'.symm.trans p.2.1
    · have hgr : s₁.gens[g]? = some .running := mv.gens g _ (by simp) (setGen_self hgs')
      refine genIt ht hA hsub haw hw0 r mu' av' _ keep1 hg1 ⟨_, setGen_self hgr, hnext⟩ hl1 (fun b hb k => ?_) (fun k => ?_) fun b hb => ?_
      · rcases g1 b k with k | k
        · exact hdm b hb k
        · obtain ⟨o, e⟩ := hdl b hb; rw [k] at e; cases e
      · rcases g1 a k with k | k
        · exact ham k
        · rw [k] at ho; cases ho
      · rcases g1 b hb with k | k
        · exact hmu b k
        · cases e : G.h0.get? b with
          | none => rfl
          | some o => have := keep b o e; rw [k] at this; cases this
end
end Mine
end

section
open PySem PyProof.Rows
namespace Mine

/-- a generator function, called with plain values: what it will tell -/
noncomputable def GenTo (G : Gx) (n : Nat) (f : Addr) (ds : List PyData) (l : List PyData) (ended : Bool) : Prop :=
  ∀ (A : Around), Rm n A → ∀ (av : List Addr) (s : Shared) (vs : List Value), (∀ b o, G.h0.get? b = some o → s.heap.get? b = some o) → (∀ a ∈ av, ∃ o, s.heap.get? a = some o) → RepAll (Pt s.heap av) ds vs →
    ∀ (E : Value → Shared → Prop), wpAny G.M A (call (.ref f) vs) (fun v s' => ∃ a g gs, v = .ref a ∧ Mv [] [] s s' ∧ s.heap.get? a = none ∧ s.gens[g]? = none ∧ s'.heap.IsGen a g ∧ s'.gens[g]? = some gs ∧
      ∀ A', Rm n A' → Gq G.M A'.in1 (fun e s'' => ∃ dep wr, (∀ b ∈ wr, b ∈ dep) ∧ a ∉ wr ∧ (∀ b ∈ wr, s.heap.get? b = none) ∧ (∀ b ∈ dep, b ∉ av) ∧ GEnd G A'.in1 dep wr ended l (s'.setGen g .running) e s'') gs (s'.setGen g .running)) E s

section
variable {b : Bool} {G : Gx} {n : Nat} {env : Env} {σ σ' σ1 σ2 : Sig}

/-- a loop's first turn and what follows, for an iterator that has not begun -/
noncomputable def ForG (G : Gx) (n : Nat) (env : Env) (tgt : Expr) (body : List Stmt) (σ : Sig) (l : List PyData) (ended : Bool) (o : Out) : Prop :=
  match l with
  | [] => ended = true ∧ o = .next σ
  | x :: r => ∃ σ1 ob, TgtTo G env σ tgt x σ1 ∧ ExsTo G n env σ1 body ob ∧ (∀ σ', ob = .next σ' → ForAt G n env tgt body σ' r ended o) ∧ (∀ σ', ob = .brk σ' → o = .next σ') ∧ (∀ d, ob = .ret d → o = .ret d)

theorem ForG.nil {tgt : Expr} {body : List Stmt} : ForG G n env tgt body σ [] true (.next σ) := ⟨rfl, rfl⟩
theorem ForG.next {tgt : Expr} {body : List Stmt} {x : PyData} {r : List PyData} {ended : Bool} {o : Out} (ht : TgtTo G env σ tgt x σ1) (hb : ExsTo G n env σ1 body (.next σ2)) (hr : ForAt G n env tgt body σ2 r ended o) : ForG G n env tgt body σ (x :: r) ended o :=
  ⟨_, _, ht, hb, fun _ e => (by cases e; exact hr), fun _ e => (by cases e), fun _ e => (by cases e)⟩
theorem ForG.brk {tgt : Expr} {body : List Stmt} {x : PyData} {r : List PyData} {ended : Bool} (ht : TgtTo G env σ tgt x σ1) (hb : ExsTo G n env σ1 body (.brk σ2)) : ForG G n env tgt body σ (x :: r) ended (.next σ2) :=
  ⟨_, _, ht, hb, fun _ e => (by cases e), fun _ e => (by cases e; rfl), fun _ e => (by cases e)⟩
theorem ForG.ret {tgt : Expr} {body : List Stmt} {x : PyData} {r : List PyData} {ended : Bool} {d : PyData} (ht : TgtTo G env σ tgt x σ1) (hb : ExsTo G n env σ1 body (.ret d)) : ForG G n env tgt body σ (x :: r) ended (.ret d) :=
  ⟨_, _, ht, hb, fun _ e => (by cases e), fun _ e => (by cases e), fun _ e => (by cases e; rfl)⟩

theorem forMid {tgt : Expr} {body : List Stmt} {x : PyData} {r : List PyData} {ended : Bool} {o : Out} {ob : Out} (ht : TgtTo G env σ tgt x σ1) (hb : ExsTo G n env σ1 body ob)
    (hn : ∀ σ', ob = .next σ' → ForAt G n env tgt body σ' r ended o) (hk : ∀ σ', ob = .brk σ' → o = .next σ') (hr : ∀ d, ob = .ret d → o = .ret d) {A : Around} (hA : Rm n A) {av0 mu av : List Addr} {ad : Str → Addr} {s1 : Shared} {it : Value} {wr : List Addr} {gw : List Nat} {v : Value}
    (hwa : ∀ a ∈ wr, a ∈ av) (hwm : ∀ a ∈ wr, a ∉ mu) (hw0 : ∀ a ∈ wr, G.h0.get? a = none) (hwo : ∀ a ∈ wr, a ∉ av0) (ok1 : Ok G av0 mu av env σ ad s1) (hv : Rep (Pt s1.heap av) x v) (hit1 : ItAt G.M A tgt it wr gw ended r mu av s1)
    {R : Result → Shared → Prop} (hR : ∀ f s', PostW G av0 mu av env wr gw s1 o f s' → R (.ok f) s') {E1 E2 : Value → Shared → Prop} :
    wpAny G.M A (assign tgt env v) (fun _ s₂ => wpAny G.M A (execs body env) (fun f s₃ => match f with
          | .next | .cont => codeAny G.M A (.forLoop tgt it body [] env) R s₃
          | .brk => R (.ok .next) s₃
          | .ret v => R (.ok (.ret v)) s₃) E2 s₂) E1 s1 := by
  have hl1 : ∀ a ∈ wr, ∃ o, s1.heap.get? a = some o := fun a ha => ok1.e.live a (hwa a ha)
  refine wpAny_mono (ht A hA.zero av0 mu av ad s1 v ok1 hv _) (fun _ s2 h2 => ?_) fun _ _ x => x
  obtain ⟨ok2, m2⟩ := h2
  have hl2 : ∀ a ∈ wr, ∃ o, s2.heap.get? a = some o := fun a ha => let ⟨o, e⟩ := hl1 a ha; ⟨o, m2.heap a o (hwm a ha) e⟩
  have m12 : Mv (wr ++ mu) gw s1 s2 := m2.mono (fun a h => List.mem_append_right _ h) (by simp)
  refine wpAny_mono (hb A hA av0 mu av ad s2 ok2 _) (fun f s3 hp => ?_) fun _ _ x => x
  have hp' : PostW G av0 mu av env wr gw s1 ob f s3 := PostW.then ok1.e.live hwm (fun _ h => .inl h) (fun _ h => .inl h) (fun _ h _ _ => h) ok2.muLive hl2 m12 (PostW.more hp)
  cases ob with
  | brk σ' =>
    obtain ⟨rfl, h1, h2⟩ := hp'
    have := hk _ rfl
    subst this
    exact hR _ _ ⟨rfl, h1, h2⟩
  | ret d =>
    obtain ⟨v, rfl, h1, h2⟩ := hp'
    have := hr _ rfl
    subst this
    exact hR _ _ ⟨v, rfl, h1, h2⟩
  | next σ' =>
    obtain ⟨rfl, ⟨mu3, av3, ad3, g1, g2, g3, g4, ok3⟩, m3⟩ := hp
    have back : ∀ a, s2.heap.get? a = none → s1.heap.get? a = none := fun a => fresh_back (mu := mu) m2 ok2.muLive
    have hl3 : ∀ a ∈ wr, ∃ o, s3.heap.get? a = some o := fun a ha => let ⟨o, e⟩ := hl2 a ha; ⟨o, m3.heap a o (by simpa using hwm a ha) e⟩
    have hit3 : ItAt G.M A tgt it wr gw ended r mu3 av3 s3 := hit1.step (fun a ha => (g1 a ha).imp id (back a)) (fun a ha => (g2 a ha).imp id (back a)) g4 (m2.trans m3)
    refine hn σ' rfl A hA av0 mu3 av3 ad3 s3 it wr gw (fun a ha => g3 a (hwa a ha) (hwm a ha) (by simp)) (fun a ha hm => ?_) hw0 hwo ok3 hit3 R fun f' s' hp3 => hR f' s' ?_
    · rcases g1 a hm with k | k
      · exact hwm a ha k
      · obtain ⟨o, e⟩ := hl2 a ha; rw [k] at e; cases e
    · exact PostW.then ok1.e.live hwm (fun a ha => (g1 a ha).imp id (back a)) (fun a ha => (g2 a ha).imp id (back a)) (fun a ha hm _ => g3 a ha hm (by simp)) g4 hl3 (m12.trans (m3.mono (fun a h => List.mem_append_right _ (by simpa using h)) (by simp))) hp3

theorem PostW.close {av0 mu av wr : List Addr} {gw : List Nat} {ad : Str → Addr} {s s2 s' : Shared} {o : Out} {f : Flow} (ok : Ok G av0 mu av env σ ad s) (hw : ∀ a ∈ wr, s.heap.get? a = none) (hg : ∀ g ∈ gw, s.gens[g]? = none) (m : Mv [] [] s s2)
    (hp : PostW G av0 mu (wr ++ av) env wr gw s2 o f s') : Post G av0 mu av env s o f s' := by
  have hav : ∀ a ∈ av, a ∉ wr := fun a ha k => by obtain ⟨o, e⟩ := ok.e.live a ha; rw [hw a k] at e; cases e
  have back : ∀ a, s2.heap.get? a = none → s.heap.get? a = none := fun a => fresh_back (mu := []) m (by simp)
  have mm : Mv (wr ++ mu) gw s2 s' → Mv ([] ++ mu) [] s s' := fun m2 => ((m.mono (wr' := wr ++ mu) (gw' := gw) (by simp) (by simp)).trans m2).shrink (fun a ha => (List.mem_append.mp ha).elim (fun k => .inr (hw a k)) .inl) (fun g hgg => .inr (hg g hgg))
  have aft : ∀ σ', After G av0 mu (wr ++ av) env wr s2 σ' s' → After G av0 mu av env [] s σ' s' := by
    rintro σ' ⟨mu', av', ad', h1, h2, h3, h4, ok'⟩
    refine ⟨mu', av', ad', fun a ha => (h1 a ha).imp id (back a), fun a ha => ?_, fun a ha hm _ => h3 a (List.mem_append_right _ ha) hm (hav a ha), h4, ok'⟩
    rcases h2 a ha with k | k
    · exact (List.mem_append.mp k).elim (fun k => .inr (hw a k)) .inl
    · exact .inr (back a k)
  cases o with
  | next σ' => obtain ⟨rfl, h1, h2⟩ := hp; exact ⟨rfl, aft _ h1, mm h2⟩
  | brk σ' => obtain ⟨rfl, h1, h2⟩ := hp; exact ⟨rfl, aft _ h1, mm h2⟩
  | ret d => obtain ⟨v, rfl, h1, h2⟩ := hp; exact ⟨v, rfl, h1, mm h2⟩

/-- a loop over a generator function's call -/
theorem ExTo.forGen {f : Str} {fa : Addr} {o' : Obj} {fd : FuncData} {np cpos : Pos} {e : Expr} {es : List Expr} {ds : List PyData} {tgt : Expr} {body : List Stmt} {pos : Pos} {l : List PyData} {ended : Bool} {o : Out} (ht : TgtOk tgt) (hk : env.kindOf f = some .globalImplicit) (hv : GlobIs G f (.ref fa)) (hx : okName f = true)
    (ho : G.h0.get? fa = some o') (hd : o'.data = .func fd) (hs : EvsTo G (n + 1) env σ (e :: es) ds) (h : GenTo G (n + 1) fa ds l ended) (he : starEach (e :: es) env = (false, eval e env) :: starEach es env) (hf : ForG G (n + 1) env tgt body σ l ended o)
    (hfs : ∀ x, foldedSetIterable (.Call (.Name f np) (e :: es) [] cpos) env x = pure x) : ExTo G (n + 1) env σ (.For tgt (.Call (.Name f np) (e :: es) [] cpos) body [] pos) o := fun A hA av0 mu av ad s ok E => by
  refine wpAny_For (Call_ (wpAny_globName ok.e hk hv hx (callWith_def hd (wpAny_mono (hs A hA av ad s ok.e cpos E) (fun vs s1 h1 => ?_) fun _ _ x => x) he)) rfl) hfs
  have ok1 := ok.mv h1.2
  refine ⟨ok1.e.keep _ _ ho, wpAny_mono (h A hA av s1 vs ok1.e.keep ok1.e.live h1.1 E) (fun v s2 h2 => ?_) fun _ _ x => x⟩
  obtain ⟨a, g, gs, rfl, m2, ha, hg, hig, hgs, hgo⟩ := h2
  have m02 : Mv [] [] s s2 := h1.2.trans m2
  have keep2 : ∀ b o, G.h0.get? b = some o → s2.heap.get? b = some o := (ok.mv m02).e.keep
  have ha' : s.heap.get? a = none := fresh_back (mu := []) h1.2 (by simp) ha
  have hg' : s.gens[g]? = none := by
    cases e : s.gens[g]? with
    | none => rfl
    | some x => have := h1.2.gens g x (by simp) e; rw [hg] at this; cases this
  refine wpAny_pyIter_gen hig (forLoop_step (pyNext_sg hA.hh (G.lim.keeps keep2) (by have := hA.dp; omega) hig hgs (hgo A hA) fun e s3 he => ?_))
  obtain ⟨dep, wr, hsub, haw, hw1, hdav, hend⟩ := he
  refine ⟨hend.quiet, ?_⟩
  have hw : ∀ b ∈ wr, s.heap.get? b = none := fun b hb => fresh_back (mu := []) h1.2 (by simp) (hw1 b hb)
  have hw0 : ∀ b ∈ wr, G.h0.get? b = none := fun b hb => by
    cases e : G.h0.get? b with
    | none => rfl
    | some o => have := ok.e.keep b o e; rw [hw b hb] at this; cases this
  cases l with
  | nil =>
    obtain ⟨rfl, m3⟩ := hend
    obtain ⟨rfl, rfl⟩ := hf
    refine .inr ⟨rfl, fun h' hh => ?_⟩
    have m3' : Mv [] [] s { s3.setGen g .finished with heap := h' } := ((m02.weak (wr := wr) (gw := [g])).trans (m3.drawn rfl hh)).shrink (fun b hb => .inr (hw b hb)) (fun i hi => .inr (by simp at hi; subst hi; exact hg'))
    exact wpAny_execs_nil ⟨rfl, After.refl (ok.mv m3'), m3'.weak⟩
  | cons x r =>
    obtain ⟨⟨v, g0, l0, k0, c0, p0, fs0, rfl, hfr⟩, hq, m3, hl3, hnext⟩ := hend
    obtain ⟨σ1, ob, hf1, hf2, hf3, hf4, hf5⟩ := hf
    refine .inl ⟨v, g0, l0, k0, c0, p0, fs0, rfl, ?_⟩
    obtain ⟨oa, nm, qn, hoa, hra⟩ := id hig
    have m3' : Mv [] [] s (s3.setGen g (End.susp v g0 l0 k0 c0 p0 fs0).genState) := ((m02.weak (wr := wr) (gw := [g])).trans (m3.drawn (End.bare_of_quiet hq) fun _ _ e => e)).shrink (fun b hb => .inr (hw b hb)) (fun i hi => .inr (by simp at hi; subst hi; exact hg'))
    have hg3 : (s3.setGen g (End.susp v g0 l0 k0 c0 p0 fs0).genState).heap.IsGen a g := ⟨oa, nm, qn, m3.heap _ oa haw hoa, hra⟩
    refine lot_gen ht hg3 ?_
    have ok3 := ok.growAv (wr := wr) m3' hw (fun b hb => hl3 b (hsub b hb))
    have hav : ∀ b ∈ av, b ∉ wr := fun b hb k => by obtain ⟨o, e⟩ := ok.e.live b hb; rw [hw b k] at e; cases e
    have hgr : s3.gens[g]? = some .running := m3.gens g _ (by simp) (setGen_self hgs)
    refine forMid hf1 hf2 hf3 hf4 hf5 hA (it := .ref a) (gw := [g]) (wr := wr) (fun b hb => List.mem_append_left _ hb) (fun b hb k => hav b (ok.sub b k) hb) hw0 (fun b hb k => hav b (ok.sub0 b k) hb) ok3 ?_ ?_ fun f' s' hp => ?_
    · refine Rep.mono (fun b o p => ⟨p.1, fun k => ?_⟩) _ _ hfr
      rcases List.mem_append.mp k with k | k
      · exact p.2.2 k
      · obtain ⟨o', e'⟩ := ok.e.live b k
        exact nomatch (m02.heap b o' (by simp) e').symm.trans p.2.1
    · refine genIt ht (hA.le (by omega)) hsub haw hw0 r mu _ _ (fun b o e => m3'.heap b o (by simp) (ok.e.keep b o e)) hg3 ⟨_, setGen_self hgr, hnext⟩ hl3 (fun b hb k => hdav b hb (ok.sub b k)) (fun k => ?_) ok.low
      obtain ⟨o, e⟩ := ok.e.live a (ok.sub a k)
      rw [ha'] at e; cases e
    · exact PostW.close ok hw (fun i hi => by simp at hi; subst hi; exact hg') m3' hp
end
end Mine
end

section
open PySem PyProof.Rows
namespace Mine

/-- the body of a generator function, from its first draw -/
noncomputable def GBody (G : Gx) (n : Nat) (env : Env) (σ : Sig) (body : List Stmt) (l : List PyData) (ended : Bool) : Prop :=
  ∀ (A : Around), Rm (n + 1) A → ∀ (av0 mu av : List Addr) (ad : Str → Addr) (s0 : Shared), Ok G av0 mu av env σ ad s0 →
    Sg G.M A (fun e s' => ∃ dep wr, (∀ b ∈ wr, b ∈ dep) ∧ (∀ b ∈ wr, b ∈ mu ∨ s0.heap.get? b = none) ∧ (∀ b ∈ dep, b ∈ mu ∨ b ∉ av) ∧ GEnd G A dep wr ended l s0 e s') (.func body env)
      ((execs body env).wrap (fun f => .pure (.done (.ret (match f with | .ret v => v | _ => .none)))) (fun e => (leaving env e).wrap (fun _ => .raise e) .raise id id) id id) [] s0

section
variable {G : Gx} {n : Nat} {fa : Addr} {fd : FuncData} {body : List Stmt} {names : List Str}

theorem Ok.up {env : Env} {σ : Sig} {av0 mu av : List Addr} {ad : Str → Addr} {s s' : Shared} (h : Ok G av0 mu av env σ ad s) (hk : ∀ b o, s.heap.get? b = some o → s'.heap.get? b = some o) : Ok G av0 mu av env σ ad s' :=
  have h1 : Ok G av0 mu av env σ ad { s with heap := s'.heap, toks := s.toks } := h.mv (Mv.of_heap (tk := s.toks) fun b o _ e => hk b o e)
  ⟨⟨h1.e.keep, h1.e.live, h1.e.fn, h1.e.gl, h1.e.bi, h1.e.cl, h1.e.vars⟩, h1.low, h1.sub, h1.out, h1.sub0, h1.loc, h1.cel, h1.apart, h1.own, h1.inj, h1.nodup⟩

theorem GenTo.of (D : DefAt G fa fd body names) (hgen : fd.scope.isGenerator = true) {ds l : List PyData} {ended : Bool} (hlen : ds.length = names.length) (h : ∀ L, GBody G n (callEnvC fd L fa) (sig0 names ds) body l ended) : GenTo G (n + 2) fa ds l ended := fun A hA av s vs keep live hr E => by
  obtain ⟨o, ho, hd⟩ := D.obj
  refine wpAny_call (codeAny_call_generator (by have := hA.dp; omega) (keep _ _ ho) hd D.co hgen D.body (D.code.keeps keep) ?_)
  rw [D.bind vs (by rw [hr.length, hlen]), D.clo]
  refine wpAny_pure (wpAny_newFunctionEnv_cells D.kind (fun x hx => ?_) fun env he s1 x => ?_)
  · have hn : x.1 ∈ names := (List.of_mem_zip hx).1
    exact (D.kinds x.1 hn).imp id fun ⟨h1, h2⟩ => ⟨h1, h2 _⟩
  · subst he
    have x' : InCallC s (callEnvC fd s.heap.objs.size fa).locals (bindL (callEnvC fd s.heap.objs.size fa).kindOf (names.zip vs) fun _ => none) (callEnvC fd s.heap.objs.size fa).cells (bindC (callEnvC fd s.heap.objs.size fa).kindOf (names.zip vs) fun _ => none) s1 := x
    refine ⟨(G.lim.keeps keep).keeps x.toInCall.keep, ?_⟩
    obtain ⟨ok, fresh⟩ := Ok.entry D keep live hr hlen x'
    obtain ⟨h1, tk, e1⟩ := x'.toInCall.same
    have m0 : Mv [] [] s s1 := ⟨fun b o _ e => x'.toInCall.keep b o e, fun i g _ e => by rw [e1]; exact e, fun e => by rw [e1]; exact e, by rw [e1]⟩
    have hgn : s.gens[s1.gens.size]? = none := by rw [e1]; simp
    refine ⟨s1.heap.objs.size, s1.gens.size, _, rfl, m0.trans ⟨fun b o _ e => Heap.get?_push_of_some _ e, fun i g _ e => ?_, fun hb y hy => ?_, rfl⟩, ?_, hgn, ⟨_, _, _, Heap.get?_push_size _ rfl, rfl, rfl, rfl⟩, Array.getElem?_push_size, fun A' hA' => ?_⟩
    · show (s1.gens.push _)[i]? = some g
      rw [Array.getElem?_push]
      split
      · rename_i hi; subst hi; simp at e
      · exact e
    · rcases Array.mem_push.mp hy with h | h
      · exact hb y h
      · subst h; rfl
    · exact fresh_back (mu := []) m0 (by simp) (fresh_none (Nat.le_refl _))
    · refine Sg.func (Sg.mono (h s.heap.objs.size _ hA'.in1 av _ _ _ _ (ok.up fun b o e => Heap.get?_push_of_some _ e)) ?_)
      rintro e s' ⟨dep, wr, g1, g2, g3, g4⟩
      have hmu : ∀ b, b ∈ framePlaces (callEnvC fd s.heap.objs.size fa) → b ≠ s1.heap.objs.size := fun b hb k => by
        obtain ⟨o, e⟩ := ok.muLive b hb
        exact absurd (Heap.lt_size e) (by rw [k]; exact Nat.lt_irrefl _)
      refine ⟨dep, wr, g1, fun hb => ?_, fun b hb => ?_, fun b hb k => ?_, g4⟩
      · rcases g2 _ hb with k | k
        · exact hmu _ k rfl
        · have : (s1.heap.push _).get? s1.heap.objs.size = none := k
          rw [Heap.get?_push_size _ rfl] at this; cases this
      · rcases g2 b hb with k | k
        · exact fresh b k
        · exact fresh_back (mu := []) (s1 := { s1 with heap := s1.heap.push _ }) (m0.trans (Mv.push _)) (by simp) k
      · rcases g3 b hb with k' | k'
        · exact ok.out b k' k
        · exact k' (ok.sub0 b k)
end
end Mine
end

section
open PySem PyProof.Rows
namespace Mine

section
variable {n : Nat} {A : Around} {env : Env}
theorem Rm.overF {b : List Stmt} (h : Rm (n + 1) A) : Rm n (A.over (.func b env) []) :=
  ⟨h.hh, by have := h.dp; show A.depth + 0 + 1 + n < _; omega, by have := h.un; show A.units + 0 + 3 + 100 * n + 200 < _; omega⟩
theorem Rm.overL {b bd : List Stmt} {tgt : Expr} {it : Value} {k : Result → Sem Fin} {g : Bool} {l : List Value} {p : Pos} (h : Rm (n + 1) A) : Rm n (A.over (.forLoop tgt it bd [] env) [.ret k none g l (.func b env) p []]) :=
  ⟨h.hh, by have := h.dp; show A.depth + 1 + 0 + n < _; omega, by have := h.un; show A.units + 3 + 0 + 100 * n + 200 < _; omega⟩
theorem Rm.overW {b bd wb : List Stmt} {tgt t : Expr} {it : Value} {k k2 : Result → Sem Fin} {g g2 : Bool} {l l2 : List Value} {p p2 : Pos} (h : Rm (n + 1) A) :
    Rm n (A.over (.whileLoop t wb [] env) [.ret k2 none g2 l2 (.forLoop tgt it bd [] env) p2 [], .ret k none g l (.func b env) p []]) :=
  ⟨h.hh, by have := h.dp; show A.depth + 1 + 0 + n < _; omega, by have := h.un; show A.units + 3 + 0 + 100 * n + 200 < _; omega⟩
end

noncomputable def FlatSig (σ : Sig) : Prop := ∀ p ∈ σ, ∃ d, p.2 = .sh d ∧ flat d = true

section
variable {G : Gx} {n : Nat} {A : Around} {env : Env} {σ σ' : Sig} {av0 mu av : List Addr} {ad : Str → Addr} {s s' : Shared}

theorem Ok.held (hf : FlatSig σ) (ok : Ok G av0 mu av env σ ad s) (keep' : ∀ b o, G.h0.get? b = some o → s'.heap.get? b = some o) (hd : ∀ b ∈ av, ∀ o, s.heap.get? b = some o → s'.heap.get? b = some o) : Ok G av0 mu av env σ ad s' := by
  have mk : ∀ b ∈ mu, ∀ o, s.heap.get? b = some o → s'.heap.get? b = some o := fun b hb => hd b (ok.sub b hb)
  have bnd : ∀ y u', Bound s.heap env y u' → Bound s'.heap env y u' := by
    intro y u' h
    rcases h with ⟨h1, m', h2, h3⟩ | ⟨h1, c', h2, h3⟩
    · exact .inl ⟨h1, m', h2.at' fun o e => mk _ ok.loc.1 o e, h3⟩
    · obtain ⟨o, e, hd⟩ := h3
      exact .inr ⟨h1, c', h2, o, mk _ (ok.cel _ _ h2).1 o e, hd⟩
  refine ⟨⟨keep', fun a ha => let ⟨o, e⟩ := ok.e.live a ha; ⟨o, hd a ha o e⟩, ok.e.fn, ok.e.gl, ok.e.bi, fun y c e => let ⟨h1, v, o, e', hd⟩ := ok.cel y c e; ⟨o, mk _ h1 o e'⟩, fun p hp => ?_⟩, ok.low, ok.sub, ok.out, ok.sub0, ⟨ok.loc.1, ?_⟩, fun y c e => ?_, ok.apart, ok.own, ok.inj, ok.nodup⟩
  · obtain ⟨v, h1, h2⟩ := ok.e.vars p hp
    obtain ⟨d, e, hfd⟩ := hf p hp
    refine ⟨v, bnd _ _ h1, ?_⟩
    rw [e] at h2 ⊢
    exact Rep.flat hfd h2
  · obtain ⟨m', e⟩ := ok.loc.2; exact ⟨m', e.at' fun o e => mk _ ok.loc.1 o e⟩
  · obtain ⟨h1, v, o, e', hd⟩ := ok.cel y c e
    exact ⟨h1, v, o, mk _ h1 o e', hd⟩

/-- all that stands -/
noncomputable def standing (h : Heap) : List Addr := (List.range h.objs.size).filter fun a => (h.get? a).isSome
theorem standing_mem {h : Heap} {a : Addr} : a ∈ standing h ↔ ∃ o, h.get? a = some o := by
  simp only [standing, List.mem_filter, List.mem_range, Option.isSome_iff_exists]
  exact ⟨fun h => h.2, fun ⟨o, e⟩ => ⟨Heap.lt_size e, o, e⟩⟩
theorem Ok.all (hf : FlatSig σ) (ok : Ok G av0 mu av env σ ad s) : OkE G (standing s.heap) env σ ad s :=
  ⟨ok.e.keep, fun a ha => standing_mem.mp ha, ok.e.fn, ok.e.gl, ok.e.bi, ok.e.cl, fun p hp => by
    obtain ⟨v, h1, h2⟩ := ok.e.vars p hp
    obtain ⟨d, e, hfd⟩ := hf p hp
    refine ⟨v, h1, ?_⟩
    rw [e] at h2 ⊢
    exact Rep.flat hfd h2⟩

/-- the generator's own frame, apart from its caller's -/
theorem Ok.alone (ok : Ok G av0 mu av env σ ad s) : Ok G [] mu mu env σ ad s :=
  have h1 : OkE G mu env σ ad s := ok.e.avs ok.sub
  ⟨h1, ok.low, fun _ h => h, fun _ _ h => (by cases h), fun _ h => (by cases h), ok.loc, ok.cel, ok.apart, ok.own, ok.inj, ok.nodup⟩

section
variable {Φ : End → Shared → Prop} {c : Code} {fs : List Frame} {K : Flow → Sem Fin} {H : Value → Sem Fin} {gd : Bool → Bool} {lv : List Value → List Value}

theorem Sg.assignTo {x : Str} {e : Expr} {pos' pos : Pos} {d : PyData} (he : EvTo G n env σ e d) (hst : Storable env x) (u : Upd σ x (.sh d) σ') (hs : swapsWith e (some (.Name x pos')) pos.line env = pure false) (hA : Rm n (A.over c fs))
    (ok : Ok G av0 mu av env σ ad s) (h : ∀ s', Ok G av0 mu av env σ' ad s' → Mv mu [] s s' → Sg G.M A Φ c (K .next) fs s') : Sg G.M A Φ c ((exec (.Assign [.Name x pos'] e pos) env).wrap K H gd lv) fs s := by
  refine Sg.wrap (wpAny_Assign_Name (wpAny_mono (he _ hA av ad s ok.e _) (fun v s1 h1 => ?_) fun _ _ x => x) hs)
  have ok1 := ok.mv h1.2
  exact wpAny_mono (ok1.storeSh hst u (by simpa [sel] using h1.1) _) (fun _ s2 h2 => h s2 h2.1 (h1.2.weak.trans h2.2)) fun _ _ x => x

theorem Sg.iteTo {t : Expr} {body orelse : List Stmt} {pos : Pos} {b : Bool} (ht : TsTo G n env σ t b) (hA : Rm n (A.over c fs)) (ok : Ok G av0 mu av env σ ad s)
    (h : ∀ s', Ok G av0 mu av env σ ad s' → Mv [] [] s s' → Sg G.M A Φ c ((execs (if b = true then body else orelse) env).wrap K H gd lv) fs s') : Sg G.M A Φ c ((exec (.If t body orelse pos) env).wrap K H gd lv) fs s := by
  refine Sg.ite (wpAny_mono (ht _ hA av ad s ok.e _) (fun b' s1 hm => ?_) fun _ _ x => x)
  obtain ⟨rfl, m⟩ := hm
  have := h s1 (ok.mv m) m
  refine ⟨fun e => ?_, fun e => ?_⟩ <;> · subst e; simpa using this

theorem Sg.tellTo {dep wr : List Addr} {ended : Bool} {x : PyData} {r : List PyData} {s0 : Shared} {e : Expr} {ypos pos : Pos} (hfs : splitAtGen fs = none) (hgd : gd false = false) (hfg : fs.any Frame.guarded = false) (hco : env.scope.isCoroutine = false) (hi : interactive env = false)
    (he : EvTo G n env σ e x) (hf : FlatSig σ) (hA : Rm n (A.over c fs)) (ok : Ok G [] mu wr env σ ad s) (m : Mv wr [] s0 s) (hl : ∀ a ∈ dep, ∃ o, s.heap.get? a = some o) (hwd : ∀ b ∈ wr, b ∈ dep)
    (h : (r = [] → ended = true) → ∀ s'', Ok G [] mu wr env σ ad s'' → (∀ b ∈ dep, ∀ o, s.heap.get? b = some o → s''.heap.get? b = some o) → Sg G.M A (GEnd G A dep wr ended r s'') c (K .next) fs s'') :
    Sg G.M A (GEnd G A dep wr ended (x :: r) s0) c ((exec (.Expr (.Yield (some e) ypos) pos) env).wrap K H gd lv) fs s := by
  refine Sg.tell hfs hgd hfg (wpAny_mono (he _ hA (standing s.heap) ad s (ok.all hf) _) (fun v s1 h1 l k p hk => ?_) fun _ _ x => x) hco hi
  have r1 : Rep (Pt s1.heap (standing s.heap)) x v := by simpa [sel] using h1.1
  have m1 := h1.2
  have hwl : ∀ a ∈ wr, ∃ o, s.heap.get? a = some o := fun a ha => hl a (hwd a ha)
  refine ⟨⟨v, _, _, _, _, _, _, rfl, ?_⟩, by simp [End.quiet, hfg], m.trans m1.weak, fun a ha => let ⟨o, e⟩ := hl a ha; ⟨o, m1.heap a o (by simp) e⟩, fun hr s'' hh => ?_⟩
  · refine Rep.mono (fun a o p => ?_) _ _ r1
    have hn : s.heap.get? a = none := by
      cases e : s.heap.get? a with
      | none => rfl
      | some o => exact absurd (standing_mem.mpr ⟨o, e⟩) p.2
    exact ⟨p.1, fresh_back (mu := []) m hwl hn, fun k => by obtain ⟨o, e⟩ := hwl a k; rw [hn] at e; cases e⟩
  · have hd : ∀ b ∈ dep, ∀ o, s.heap.get? b = some o → s''.heap.get? b = some o := fun b hb o e => hh.2 b hb o (m1.heap b o (by simp) e)
    exact hk A _ s'' (h hr s'' (ok.held hf hh.1 fun b hb => hd b (hwd b hb)) hd)
end
end
end Mine
end

section
open PySem PyProof.Rows
namespace Mine

/-- an iterator that stands on the places fp and writes wr of them; what it tells is new -/
noncomputable def HIt (M : Model) (tgt : Expr) (it : Value) (lv : Bool) (fp wr : List Addr) : List PyData → Heap → Prop
  | [], h => ∀ (A : Around), A.handled = none → ∀ (s' : Shared), (∀ b ∈ fp, ∀ o, h.get? b = some o → s'.heap.get? b = some o) → ∀ (Q : Option Value → Shared → Prop) (E : Value → Shared → Prop),
      (∀ s'', Mv wr [] s' s'' → (lv = true → ∀ a ∈ fp, ∃ o, s''.heap.get? a = some o) → Q none s'') → NxtW M A tgt it Q E s'
  | x :: r, h => ∀ (A : Around), A.handled = none → ∀ (s' : Shared), (∀ b ∈ fp, ∀ o, h.get? b = some o → s'.heap.get? b = some o) → ∀ (Q : Option Value → Shared → Prop) (E : Value → Shared → Prop),
      (∀ v s'', Rep (fun a o => s''.heap.get? a = some o ∧ s'.heap.get? a = none) x v → Mv wr [] s' s'' → (∀ a ∈ fp, ∃ o, s''.heap.get? a = some o) → HIt M tgt it lv fp wr r s''.heap → Q (some v) s'') → NxtW M A tgt it Q E s'

theorem HIt.held {M : Model} {tgt : Expr} {it : Value} {lv : Bool} {fp wr : List Addr} {l : List PyData} {h h' : Heap} (x : HIt M tgt it lv fp wr l h) (hk : ∀ b ∈ fp, ∀ o, h.get? b = some o → h'.get? b = some o) : HIt M tgt it lv fp wr l h' := by
  cases l with
  | nil => exact fun A hA s' hs => x A hA s' fun b hb o e => hs b hb o (hk b hb o e)
  | cons d r => exact fun A hA s' hs => x A hA s' fun b hb o e => hs b hb o (hk b hb o e)

section
variable {prog : Program} {w : World}

theorem HIt.list {tgt : Expr} (ht : TgtOk tgt) {I ax : Addr} {items : Array Value} (hne : ax ≠ I) : ∀ (ns : List Int) (i : Nat) (h : Heap), h.IsListIter I ax i → h.IsList ax items → IntsAre (items.toList.drop i) ns →
    HIt (model prog w) tgt (.ref I) false [I, ax] [I] (ns.map .int) h
  | [], i, h, hit, hl, hr => fun A hh s' hk Q E hQ => by
    have hx : items[i]? = none := by
      have := hr.length
      simp only [List.length_drop, Array.length_toList, List.length_nil] at this
      exact Array.getElem?_eq_none (by omega)
    exact wpAny_pyNext_list_end hh (hit.at fun o e => hk _ (by simp) o e) (hl.at fun o e => hk _ (by simp) o e) hx fun h' he => hQ _ ⟨fun b o hb e => he b o (by simpa using hb) e, fun _ _ _ e => e, fun e => e, rfl⟩ (fun k => nomatch k)
  | n :: ns, i, h, hit, hl, hr => fun A hh s' hk Q E hQ => by
    have hit' := hit.at (h' := s'.heap) fun o e => hk _ (by simp) o e
    have hl' := hl.at (h' := s'.heap) fun o e => hk _ (by simp) o e
    generalize hd : items.toList.drop i = vs at hr
    cases hr with
    | cons _ t hr =>
      rename_i vs
      have hx : items[i]? = some (.int n t) := by
        have : items.toList[i]? = some (.int n t) := by
          have := congrArg (fun l => l[0]?) hd
          simpa using this
        simpa using this
      have hd' : items.toList.drop (i + 1) = vs := by
        have := congrArg List.tail hd
        simpa using this
      refine wpAny_pyNext_list_item hit' hl' hx fun h' hit2 hs2 => ?_
      refine lot_list ht hit2 (hQ _ _ Rep.int ⟨fun b o hb e => hs2.extBut b o (by simpa using hb) e, fun _ _ _ e => e, fun e => e, rfl⟩ (fun a ha => ?_) ?_)
      · simp at ha
        rcases ha with rfl | rfl
        · obtain ⟨o, e, _⟩ := hit2; exact ⟨o, e⟩
        · obtain ⟨o, e, _⟩ := hl'; exact ⟨o, hs2.extBut _ o hne e⟩
      · exact HIt.list ht hne ns (i + 1) _ hit2 (hl'.extBut hs2.extBut hne) (by rw [hd']; exact hr)

/-- a text's signs, numbered -/
noncomputable def signs (i : Nat) : List Nat → List PyData
  | [] => []
  | c :: r => .tuple [.int i, .str ⟨#[c]⟩] :: signs (i + 1) r

theorem ascii_end {A : Around} {E : Value → Shared → Prop} {s : Shared} {it : Addr} {x : Str} {t : Tok} {i : Nat} {Q : Value → Shared → Prop} (hh : A.handled = none)
    (hit : s.heap.IsStrIter it "str_ascii_iterator" x t i) (hx : x.cps[i]? = none)
    (hE : ∀ h' e, Heap.ExtBut it s.heap h' → (∃ o, h'.get? it = some o) → (∃ o, h'.get? e = some o ∧ o.cls = .type "StopIteration") → E (.ref e) { s with heap := h' }) :
    wpAny (model prog w) A (Builtin.SmallTypes.nextOf (.ref it)) Q E s := by
  obtain ⟨o, ho, hc, hd⟩ := id hit
  unfold Builtin.SmallTypes.nextOf
  refine wpAny_bind (wpAny_callSpecial?_slot (name := Str.ofString "__next__") hit.typeIs F.slot_str_ascii_iterator_next
    (wpAny_call_entry F.slot_str_ascii_iterator_next hit.typeIs F.entry_str_ascii_iterator_next ?_ (F.args_str_ascii_iterator_next_1 _)))
  show wpAny _ _ (field (.ref it) 0 >>= _) _ _ s
  refine wpAny_bind (wpAny_field ho hd (x := .str x t) rfl ?_)
  show wpAny _ _ (field (.ref it) 1 >>= _) _ _ s
  refine wpAny_bind (wpAny_field ho hd (x := .int i 0) rfl ?_)
  simp only [Int.toNat_natCast, hx]
  refine wpAny_bind (wpAny_rule (wpAny_bind (wpAny_setField ho hd (by simp) (wpAny_bind (wpAny_letGo ?_)))))
  show wpAny _ _ (newExc (.type "StopIteration") [] >>= _) _ _ _
  refine wpAny_bind ?_
  simp only [newExc, newTuple]
  refine wpAny_bind (wpAny_newObj_type ?_ (by size_fits))
  refine wpAny_bind (m := firstArgMember _ _) (wpAny_of_eq (a := Value.none) (by first | rfl | (simp only [firstArgMember]; rfl)) ?_)
  refine wpAny_newObj_type ?_ (by size_fits)
  simp only [raiseNew]
  refine wpAny_bind (wpAny_handled ?_)
  rw [show A.in1.handled = none from hh]
  refine wpAny_bind (wpAny_pure (wpAny_throw ?_))
  exact hE _ _ (((Heap.SameBut.update ..).extBut.push _).push _) ⟨_, Heap.get?_push_of_some _ (Heap.get?_push_of_some _ (Heap.get?_update_self _ ho (Obj.isFreed_of_fields (Obj.data_mapFields hd _))))⟩ ⟨_, Heap.get?_push_size _ rfl, rfl⟩

theorem enum_end {A : Around} {E : Value → Shared → Prop} {s : Shared} {e it : Addr} {x : Str} {t : Tok} {i : Nat} {k : Int} {old : Value} {Q : Option Value → Shared → Prop} (hh : A.handled = none) (he : IsEnum s.heap e it k old)
    (hit : s.heap.IsStrIter it "str_ascii_iterator" x t i) (hx : x.cps[i]? = none) (hQ : ∀ h', Heap.ExtBut it s.heap h' → (∃ o, h'.get? it = some o) → Q none { s with heap := h' }) : wpAny (model prog w) A (pyNext (.ref e)) Q E s := by
  have hT : s.TypeIs (.ref e) "enumerate" := ⟨_, he, rfl⟩
  unfold pyNext
  refine wpAny_bind (wpAny_attempt (wpAny_callSpecial?_slot (name := Str.ofString "__next__") hT F.slot_enumerate_next
    (wpAny_call_entry F.slot_enumerate_next hT F.entry_enumerate_next ?_ (F.args_enumerate_next_1 _))))
  show wpAny _ _ (field (.ref e) 2 >>= _) _ _ _
  refine wpAny_bind (wpAny_field he rfl (x := .ref it) rfl ?_)
  refine wpAny_bind (ascii_end hh hit hx fun h' y he' hl' hx' => ?_)
  obtain ⟨o, ho, hc⟩ := hx'
  refine wpAny_bind (wpAny_isInstance (T := "StopIteration") (b := true) ⟨o, ho, hc⟩ isSubtype_stop ?_)
  exact wpAny_pure (hQ _ he' hl')

theorem HIt.enumStr {es : List Expr} {k : Nat} {p : Pos} {e it : Addr} {x : Str} {t : Tok} (hne : e ≠ it) : ∀ (cs : List Nat) (i : Nat) (old : Value) (h : Heap), IsEnum h e it i old → h.IsStrIter it "str_ascii_iterator" x t i → x.cps.toList.drop i = cs →
    HIt (model prog w) (.Tuple es k p) (.ref e) true [e, it] [e, it] (signs i cs) h
  | [], i, old, h, he, hit, hd => fun A hh s' hk Q E hQ => by
    have hx : x.cps[i]? = none := by
      have := congrArg List.length hd
      simp only [List.length_drop, Array.length_toList, List.length_nil] at this
      exact Array.getElem?_eq_none (by omega)
    obtain ⟨o, ho, hr⟩ := id hit
    have hit' : s'.heap.IsStrIter it "str_ascii_iterator" x t i := ⟨o, hk _ (by simp) o ho, hr⟩
    have he' : IsEnum s'.heap e it i old := hk _ (by simp) _ he
    refine enum_end hh he' hit' hx fun h' hext hl => hQ _ ⟨fun b o hb e => hext b o (by simp at hb; exact hb.2) e, fun _ _ _ e => e, fun e => e, rfl⟩ (fun _ a ha => ?_)
    simp at ha
    rcases ha with rfl | rfl
    · exact ⟨_, hext _ _ hne he'⟩
    · exact hl
  | c :: cs, i, old, h, he, hit, hd => fun A hh s' hk Q E hQ => by
    have hx : x.cps[i]? = some c := by
      have : x.cps.toList[i]? = some c := by
        have := congrArg (fun l => l[0]?) hd
        simpa using this
      simpa using this
    have hd' : x.cps.toList.drop (i + 1) = cs := by
      have := congrArg List.tail hd
      simpa using this
    have hlt : i < x.cps.size := by
      by_cases k : i < x.cps.size
      · exact k
      · rw [Array.getElem?_eq_none (by omega)] at hx; cases hx
    obtain ⟨o, ho, hr⟩ := id hit
    have hit' : s'.heap.IsStrIter it "str_ascii_iterator" x t i := ⟨o, hk _ (by simp) o ho, hr⟩
    have he' : IsEnum s'.heap e it i old := hk _ (by simp) _ he
    refine wpAny_pyNext_enum_itemD (Draws.strAscii (A := A.in1) hh it x t) he' hit' hlt hne (by simpa using hne) fun y h' tk hP he2 hit2 htup hsz hk2 => ?_
    obtain ⟨c', u, hc', rfl⟩ := hP
    rw [hx] at hc'; cases hc'
    refine lot_enum he2 fun h'' he3 hs3 => ?_
    have hee : s'.heap.objs.size ≠ e := fun k => Nat.lt_irrefl _ (k ▸ Heap.lt_size he')
    have up : ∀ b o, b ≠ e → b ≠ it → s'.heap.get? b = some o → h''.get? b = some o := fun b o hb1 hb2 eb => hs3.extBut b o hb1 (hk2 b o hb1 hb2 eb)
    refine hQ _ _ ?_ ⟨fun b o hb eb => up b o (by simp at hb; exact hb.1) (by simp at hb; exact hb.2) eb, fun _ _ _ e => e, fun e => e, rfl⟩ (fun a ha => ?_) ?_
    · exact Rep.tuple (o := { cls := .type "tuple", data := .seq #[.int i tk, .str ⟨#[c]⟩ u] }) (n := 0) ⟨hs3.extBut _ _ hee htup, fresh_none (Nat.le_refl _)⟩ rfl rfl (RepAll.cons Rep.int (RepAll.cons Rep.str RepAll.nil))
    · simp at ha
      rcases ha with rfl | rfl
      · exact ⟨_, he3⟩
      · obtain ⟨o, eo, _⟩ := hit2
        exact ⟨o, hs3.extBut _ o (Ne.symm hne) eo⟩
    · have e4 : ((i : Int) + 1) = ((i + 1 : Nat) : Int) := by omega
      exact HIt.enumStr hne cs (i + 1) _ _ (by rw [← e4]; exact he3) (hit2.extBut hs3.extBut (Ne.symm hne)) hd'
end

section
variable {G : Gx} {n : Nat} {A : Around} {env : Env} {σ σ' : Sig} {mu wr : List Addr} {ad : Str → Addr} {s : Shared} {Φ : End → Shared → Prop} {fs : List Frame}

theorem Sg.turnTo {tgt : Expr} {it : Value} {body : List Stmt} {lv : Bool} {fp wi : List Addr} {x : PyData} {r : List PyData} (hit : HIt G.M tgt it lv fp wi (x :: r) s.heap) (ht : TgtTo G env σ tgt x σ') (hA : Rm n (A.over (.forLoop tgt it body [] env) fs)) (ok : Ok G [] mu wr env σ ad s)
    (hwr : ∀ b ∈ wi, b ∈ wr) (hwf : ∀ b ∈ wi, b ∈ fp) (hfm : ∀ b ∈ fp, b ∉ mu) (hw0 : ∀ b ∈ wi, G.h0.get? b = none)
    (h : ∀ s', Ok G [] mu wr env σ' ad s' → Mv wr [] s s' → (∀ a ∈ fp, ∃ o, s'.heap.get? a = some o) → HIt G.M tgt it lv fp wi r s'.heap →
      Sg G.M A Φ (.forLoop tgt it body [] env) ((execs body env).wrap (fun f => match f with
            | .next | .cont => .pure (.again (.forLoop tgt it body [] env))
            | .brk => .pure (.done .next)
            | .ret v => .pure (.done (.ret v))) (fun e => (do noteFrame e env; theTreesLotGoes e : Sem Unit).wrap (fun _ => .raise e) .raise id id) id id) fs s') :
    Sg G.M A Φ (.forLoop tgt it body [] env) (G.M.den (.forLoop tgt it body [] env)) fs s := by
  refine Sg.forTurn (hit _ hA.hh s (fun _ _ _ e => e) _ _ fun v s1 rv m1 l1 hit1 => ?_)
  have ok1 := ok.drawn m1 hwr (fun a ha => hfm a (hwf a ha)) hw0 (fun a ha => l1 a (hwf a ha))
  refine wpAny_mono (ht _ hA.zero [] mu wr ad s1 v ok1 (Rep.mono (fun a o p => ⟨p.1, fun k => by obtain ⟨o', e'⟩ := ok.e.live a k; exact nomatch p.2.symm.trans e'⟩) _ _ rv) _) (fun _ s2 h2 => ?_) fun _ _ x => x
  · refine h s2 h2.1 ((m1.mono hwr (by simp)).trans (h2.2.mono ok.sub (by simp))) (fun a ha => ?_) (hit1.held fun b hb o e => h2.2.heap b o (hfm b hb) e)
    obtain ⟨o, e⟩ := l1 a ha
    exact ⟨o, h2.2.heap a o (hfm a ha) e⟩

theorem Sg.doneTo {tgt : Expr} {it : Value} {body : List Stmt} {lv : Bool} {fp wi : List Addr} {k : Result → Sem Fin} {hd : Option Value} {g : Bool} {l : List Value} {c₁ : Code} {p₁ : Pos} {kp : List Value} (hit : HIt G.M tgt it lv fp wi [] s.heap) (hA : Rm n (A.over (.forLoop tgt it body [] env) (.ret k hd g l c₁ p₁ kp :: fs)))
    (h : ∀ s', Mv wi [] s s' → (lv = true → ∀ a ∈ fp, ∃ o, s'.heap.get? a = some o) → Sg G.M A Φ c₁ (k (.ok .next)) fs s') :
    Sg G.M A Φ (.forLoop tgt it body [] env) (G.M.den (.forLoop tgt it body [] env)) (.ret k hd g l c₁ p₁ kp :: fs) s :=
  Sg.forTurn (hit _ hA.hh s (fun _ _ _ e => e) _ _ fun s1 m1 l1 => Sg.blockNil (h s1 m1 l1))
end
end Mine
end

section
open PySem PyProof.Rows
namespace Mine


/-- the defs of the text, by their place -/
noncomputable def defAt (i : Nat) : DefItem :=
  match Challenge.pw_ph0033_01.main.body[i]? with
  | some (.FunctionDef nm a b _ _ _ sc _ _ p) => ⟨nm, a, b, sc, p⟩
  | _ => ⟨Str.empty, ⟨[], [], none, [], [], none, []⟩, [], ⟨.function, [], false, false, []⟩, ⟨0, 0, 0, 0⟩⟩
/-- such a def's record -/
noncomputable abbrev fdAt (i : Nat) (pm cd doc : Value) : FuncData := Calls.docDef (defAt i).name (defAt i).params (defAt i).body (defAt i).scope pm cd doc
noncomputable abbrev envAt (i : Nat) (pm cd doc : Value) (L fa : Addr) : Env := callEnvC (fdAt i pm cd doc) L fa

theorem cellsFrom_some : ∀ {names : List (Str × NameKind)} {k : Nat} {acc : List (Str × Addr)} {x : Str}, ((x, NameKind.cell) ∈ names ∨ (acc.lookup x).isSome = true) → ((cellsFrom k names acc).lookup x).isSome = true
  | [], k, acc, x, h => by simpa [cellsFrom] using h
  | (y, kd) :: r, k, acc, x, h => by
    unfold cellsFrom
    by_cases hk : kd = .cell
    · subst hk
      simp only [beq_self_eq_true, if_true]
      refine cellsFrom_some ?_
      rw [List.lookup_cons]
      cases e : x == y with
      | true => exact .inr rfl
      | false =>
        rcases h with h | h
        · rcases List.mem_cons.mp h with h | h
          · cases h; simp at e
          · exact .inl h
        · exact .inr h
    · have : (kd == NameKind.cell) = false := by simpa using hk
      simp only [this, Bool.false_eq_true, if_false]
      refine cellsFrom_some ?_
      rcases h with h | h
      · rcases List.mem_cons.mp h with h | h
        · cases h; exact absurd rfl hk
        · exact .inl h
      · exact .inr h

theorem cell_at {fd : FuncData} {L fa : Addr} {x : Str} (h : fd.scope.names.lookup x = some .cell) : ∃ c, (callEnvC fd L fa).cells.lookup x = some c :=
  Option.isSome_iff_exists.mp (cellsFrom_some (.inl (mem_of_lookup h)))
theorem stl {i : Nat} {pm cd doc : Value} {L fa : Addr} {x : Str} (h : (defAt i).scope.names.lookup x = some .local) : Storable (envAt i pm cd doc L fa) x := .inl h
theorem stc {i : Nat} {pm cd doc : Value} {L fa : Addr} {x : Str} (h : (defAt i).scope.names.lookup x = some .cell) : Storable (envAt i pm cd doc L fa) x := .inr ⟨h, cell_at h⟩

/-- the ground's def -/
structure Has (G : Gx) (i : Nat) (fa : Addr) (pm cd doc : Value) : Prop where
  name : G.mg (defAt i).name = some (.ref fa)
  obj : ∃ o, G.h0.get? fa = some o ∧ o.data = .func (fdAt i pm cd doc)
  code : G.h0.CodeRec cd (defAt i).name

theorem Has.at {G : Gx} {i : Nat} {fa : Addr} {pm cd doc : Value} (h : Has G i fa pm cd doc) {names : List Str} (hco : (defAt i).scope.isCoroutine = false) (hk : (defAt i).scope.kind = .function) (hn : names.Nodup)
    (hkinds : (names.all fun x => decide ((defAt i).scope.names.lookup x = some .local) || decide ((defAt i).scope.names.lookup x = some .cell)) = true)
    (hb : ∀ vs : List Value, vs.length = names.length → bindArgs (fdAt i pm cd doc) ⟨vs, []⟩ = pure (names.zip vs)) : DefAt G fa (fdAt i pm cd doc) (defAt i).body names where
  obj := h.obj
  code := h.code
  body := rfl
  clo := rfl
  gl := rfl
  bi := rfl
  co := hco
  kind := hk
  nodup := hn
  kinds := fun x hx => by
    have := List.all_eq_true.mp hkinds x hx
    simp only [Bool.or_eq_true, decide_eq_true_eq] at this
    exact this.imp id fun e => ⟨e, fun k => cellsFrom_some (.inl (mem_of_lookup e))⟩
  bind := hb

/-- the j-th statement of a row, taken as a loop -/
noncomputable def loopIn (b : List Stmt) (j : Nat) : Expr × Expr × List Stmt :=
  match b[j]? with
  | some (.For t it bd _ _) => (t, it, bd)
  | _ => (.Name Str.empty ⟨0, 0, 0, 0⟩, .Name Str.empty ⟨0, 0, 0, 0⟩, [])

section
variable {G : Gx} {n : Nat} {env : Env} {σ σ' σ1 : Sig}
theorem TsTo.cast {e : Expr} {c c' : Bool} (h : TsTo G n env σ e c) (q : c = c') : TsTo G n env σ e c' := q ▸ h
theorem ForAt.out {tgt : Expr} {body : List Stmt} {l : List PyData} {ended : Bool} (h : ForAt G n env tgt body σ l ended (.next σ1)) (hs : ∀ p ∈ σ', p ∈ σ1) (hn : (σ'.map Prod.fst).Nodup) : ForAt G n env tgt body σ l ended (.next σ') :=
  fun A hA av0 mu av ad s it wr gw hwa hwm hw0 hwo ok hit R hR => h A hA av0 mu av ad s it wr gw hwa hwm hw0 hwo ok hit R fun f s' hp => hR f s' ⟨hp.1, hp.2.1.sub hs hn, hp.2.2⟩
end
local macro_rules | `(tactic| walk_at "mem") => `(tactic| repeat (first | (with_reducible exact List.mem_cons_self) | with_reducible apply List.mem_cons_of_mem))
local macro_rules | `(tactic| walk_at "upd") => `(tactic| repeat (first | (with_reducible exact Upd.here) | (with_reducible exact Upd.new) | (with_reducible apply Upd.next; decide +kernel)))
local macro_rules | `(tactic| walk_at "st") => `(tactic| first | exact stl (by decide +kernel) | exact stc (by decide +kernel))
local macro_rules | `(tactic| walk_at "ev") => `(tactic| repeat' (first
  | exact EvP.cInt | exact EvP.cStr | exact EvP.cBool | exact EvP.cNone
  | (apply EvP.name; (walk_at "mem"); decide +kernel)
  | (apply EvP.bin)
  | (refine' EvP.cmp (b1 := true) (b2 := true) ?_ ?_ ?_ (by with_unfolding_all rfl))
  | (refine' TsTo.cmp (b1 := true) (b2 := true) ?_ ?_ ?_ (by with_unfolding_all rfl))
  | exact BinP.addI _ _ | exact BinP.subI _ _ 
  | exact CmpP.eqI _ _ | exact CmpP.eqS _ _ | exact CmpP.lt _ _ | exact CmpP.le _ _ | exact CmpP.gt _ _ | exact CmpP.ge _ _))
local macro_rules | `(tactic| walk_at "sub") => `(tactic| (simp only [List.mem_cons, List.not_mem_nil, or_false, forall_eq_or_imp, forall_eq, true_or, or_true, and_self]))
local macro_rules | `(tactic| walk_at "nodup") => `(tactic| (simp only [List.map_cons, List.map_nil]; decide +kernel))



noncomputable def markedL (row : List Int) (place : Int) : Int → Int → List Int → Option Bool
  | _, _, [] => none
  | k, told, size :: r =>
    if size = 127 then some false else if size = 0 then some ((place - told).fmod (row.getD (k - 1).toNat 0) == 0)
    else if place ≤ told + size then some (told + size == place) else markedL row place (k + 1) (told + size) r
noncomputable def markedP (row : List Int) (place : Int) : Bool := (markedL row place 0 0 row).getD false

noncomputable abbrev rowSig (row : List Int) (place told : Int) : Sig := [(Str.ofString "row", .sh (.list (row.map .int))), (Str.ofString "place", .sh (.int place)), (Str.ofString "told", .sh (.int told))]

noncomputable abbrev rowSig2 (row : List Int) (place told k size : Int) : Sig := [(Str.ofString "row", .sh (.list (row.map .int))), (Str.ofString "place", .sh (.int place)), (Str.ofString "told", .sh (.int told)), (Str.ofString "k", .sh (.int k)), (Str.ofString "size", .sh (.int size))]

theorem map_get {row : List Int} {k : Nat} {c : Int} (h : row[k]? = some c) : (row.map PyData.int)[k]? = some (.int c) := by rw [List.getElem?_map, h]; rfl

set_option maxHeartbeats 1000000 in
theorem marked_loop {G : Gx} {fa L : Addr} {pm cd doc : Value} (row : List Int) (place : Int) (hrow : ∀ k : Nat, row[k]? = some 0 → ∃ c, 1 ≤ k ∧ row[k - 1]? = some c ∧ c ≠ 0) (hlen : row.length < 100) : ∀ (r : List Int) (k : Nat) (told : Int), row.drop k = r →
    match markedL row place k told r with
    | some b => ForAt G 0 (envAt 8 pm cd doc L fa) (loopIn (defAt 8).body 1).1 (loopIn (defAt 8).body 1).2.2 (rowSig row place told) (numbered k (r.map .int)) true (.ret (.bool b))
    | none => ForAt G 0 (envAt 8 pm cd doc L fa) (loopIn (defAt 8).body 1).1 (loopIn (defAt 8).body 1).2.2 (rowSig row place told) (numbered k (r.map .int)) true (.next [])
  | [], k, told, hd => by
    simp only [markedL]
    exact ForAt.out ForAt.nil (by simp) (by simp)
  | size :: r, k, told, hd => by
    have ht : TgtTo G (envAt 8 pm cd doc L fa) (rowSig row place told) (loopIn (defAt 8).body 1).1 (.tuple [.int k, .int size]) (rowSig2 row place told k size) :=
      TgtTo.pair (by walk_at "st") (by walk_at "upd") (by walk_at "st") (by walk_at "upd")
    have hk : row[k]? = some size := by
      have := congrArg (fun l => l[0]?) hd
      simpa using this
    have hd' : row.drop (k + 1) = r := by
      have := congrArg List.tail hd
      simpa using this
    have hkl : k < row.length := by
      have := (List.getElem?_eq_some_iff.mp hk).1
      exact this
    simp only [markedL]
    by_cases h1 : size = 127
    · subst h1
      simp only [if_true]
      refine' ForAt.ret ht (ExsTo.ret (ExTo.ite (c := (127 == 127 : Bool)) (by walk_at "ev") (fun _ => ExsTo.ret (ExTo.return (by walk_at "ev"))) (fun h => nomatch h)))
    · rw [if_neg h1]
      have e1 : (size == 127) = false := by simpa using h1
      by_cases h2 : size = 0
      · subst h2
        simp only [if_true]
        obtain ⟨c, hk1, hc, hc0⟩ := hrow k hk
        have hkk : ((k : Int) - 1).toNat = k - 1 := by omega
        refine' ForAt.ret ht (ExsTo.cons (ExTo.ite (c := false) (TsTo.cast (by walk_at "ev") e1) (fun h => nomatch h) (fun _ => ExsTo.nil)) (ExsTo.ret (ExTo.ite (c := ((0 : Int) == 0)) (by walk_at "ev") (fun _ => ExsTo.ret (ExTo.return ?_)) (fun h => nomatch h))))
        have hg : row.getD ((k : Int) - 1).toNat 0 = c := by rw [hkk, List.getD_eq_getElem?_getD, hc]; rfl
        rw [hg]
        refine' EvP.cmp (b1 := true) (b2 := true) (EvP.bin (by walk_at "ev") (EvP.item (b1 := true) (by walk_at "ev") (by walk_at "ev") (by omega) (by omega) (by rw [hkk]; exact map_get hc) (fun _ _ => rfl)) (BinP.modI _ _ hc0)) (by walk_at "ev") (CmpP.eqI _ _) (by with_unfolding_all rfl)
      · rw [if_neg h2]
        have e2 : (size == 0) = false := by simpa using h2
        by_cases h3 : place ≤ told + size
        · rw [if_pos h3]
          have e3 : decide (place ≤ told + size) = true := by simpa using h3
          refine' ForAt.ret ht (ExsTo.cons (ExTo.ite (c := false) (TsTo.cast (by walk_at "ev") e1) (fun h => nomatch h) (fun _ => ExsTo.nil)) (ExsTo.cons (ExTo.ite (c := false) (TsTo.cast (by walk_at "ev") e2) (fun h => nomatch h) (fun _ => ExsTo.nil))
            (ExsTo.cons (ExTo.aug (by walk_at "mem") (by walk_at "ev") (.inl rfl) (BinP.addI _ _) (by walk_at "st") (by walk_at "upd") (by decide +kernel)) (ExsTo.ret (ExTo.ite (c := true) (TsTo.cast (by walk_at "ev") e3) (fun _ => ExsTo.ret (ExTo.return (by walk_at "ev"))) (fun h => nomatch h))))))
        · rw [if_neg h3]
          have e3 : decide (place ≤ told + size) = false := by simpa using h3
          have ih := marked_loop row place hrow hlen r (k + 1) (told + size) hd' (G := G) (fa := fa) (L := L) (pm := pm) (cd := cd) (doc := doc)
          have turn : ExsTo G 0 (envAt 8 pm cd doc L fa) (rowSig2 row place told k size) (loopIn (defAt 8).body 1).2.2 (.next (rowSig2 row place (told + size) k size)) := by
            refine' ExsTo.cons (ExTo.ite (c := false) (TsTo.cast (by walk_at "ev") e1) (fun h => nomatch h) (fun _ => ExsTo.nil)) (ExsTo.cons (ExTo.ite (c := false) (TsTo.cast (by walk_at "ev") e2) (fun h => nomatch h) (fun _ => ExsTo.nil))
              (ExsTo.cons (ExTo.aug (by walk_at "mem") (by walk_at "ev") (.inl rfl) (BinP.addI _ _) (by walk_at "st") (by walk_at "upd") (by decide +kernel)) (ExsTo.cons (ExTo.ite (c := false) (TsTo.cast (by walk_at "ev") e3) (fun h => nomatch h) (fun _ => ExsTo.nil)) ExsTo.nil)))
          have e4 : (((k + 1 : Nat) : Int)) = (k : Int) + 1 := by omega
          rw [e4] at ih
          split at ih
          · exact ForAt.next ht turn (ForAt.sub (by walk_at "sub") (by walk_at "nodup") ih)
          · exact ForAt.next ht turn (ForAt.sub (by walk_at "sub") (by walk_at "nodup") ih)

set_option maxHeartbeats 1000000 in
theorem marked_call {G : Gx} {fa : Addr} {pm cd doc : Value} (H : Has G 8 fa pm cd doc) (hen : GlobIs G (Str.ofString "enumerate") (.type "enumerate")) (row : List Int) (place : Int)
    (hrow : ∀ k : Nat, row[k]? = some 0 → ∃ c, 1 ≤ k ∧ row[k - 1]? = some c ∧ c ≠ 0) (hlen : row.length < 100) : CallTo G 1 fa [.list (row.map .int), .int place] (.bool (markedP row place)) := by
  refine CallTo.of (H.at (names := [Str.ofString "row", Str.ofString "place"]) (by decide +kernel) (by decide +kernel) (by decide +kernel) (by decide +kernel) (fun vs h => by
    match vs, h with
    | [a, b], _ => rfl)) (by rfl) rfl fun L => ?_
  show ExsTo G 0 (envAt 8 pm cd doc L fa) [(Str.ofString "row", .sh (.list (row.map .int))), (Str.ofString "place", .sh (.int place))] _ _
  refine' ExsTo.cons (ExTo.assign (x := Str.ofString "told") EvP.cInt (by walk_at "st") (by walk_at "upd") (by rfl)) ?_
  have ih := marked_loop (G := G) (fa := fa) (L := L) (pm := pm) (cd := cd) (doc := doc) row place hrow hlen row 0 0 rfl
  unfold markedP
  split at ih
  · rename_i b e
    rw [show markedL row place 0 0 row = some b from e]
    exact ExsTo.ret (ExTo.for (IterTo.enum (by rfl) hen (by walk_at "ev") (by rfl)) ih (fun _ => rfl))
  · rename_i e
    rw [show markedL row place 0 0 row = none from e]
    exact ExsTo.cons (ExTo.for (IterTo.enum (by rfl) hen (by walk_at "ev") (by rfl)) ih (fun _ => rfl)) (ExsTo.ret (ExTo.return (by walk_at "ev")))



theorem FlatSig.nil : FlatSig [] := fun p hp => by cases hp
theorem FlatSig.cons {x : Str} {d : PyData} {σ : Sig} (h : flat d = true) (hs : FlatSig σ) : FlatSig ((x, .sh d) :: σ) := fun p hp => by
  rcases List.mem_cons.mp hp with rfl | hp
  · exact ⟨d, rfl, h⟩
  · exact hs p hp
local macro_rules | `(tactic| walk_at "flat") => `(tactic| repeat (first | exact FlatSig.nil | refine FlatSig.cons rfl ?_))

noncomputable def bs : Str := Str.ofString "\\"
/-- what _iter_escaped_chars tells -/
noncomputable def escP : Nat → Bool → Int → List Nat → List PyData
  | _, esc, pos, [] => if esc then [.tuple [.int pos, .str bs]] else []
  | i, esc, _, c :: r => if esc then .tuple [.int i, .str (bs ++ ⟨#[c]⟩)] :: escP (i + 1) false i r
      else if (⟨#[c]⟩ : Str) == bs then escP (i + 1) true i r
      else .tuple [.int i, .str ⟨#[c]⟩] :: escP (i + 1) false i r

noncomputable abbrev escSig (x : Str) (pos : Int) (esc : Bool) : Sig := [(Str.ofString "addr", .sh (.str x)), (Str.ofString "pos", .sh (.int pos)), (Str.ofString "escape", .sh (.bool esc))]
noncomputable abbrev escSig2 (x : Str) (pos : Int) (esc : Bool) (c : Nat) : Sig := [(Str.ofString "addr", .sh (.str x)), (Str.ofString "pos", .sh (.int pos)), (Str.ofString "escape", .sh (.bool esc)), (Str.ofString "ch", .sh (.str ⟨#[c]⟩))]

noncomputable abbrev escL := loopIn (defAt 1).body 2

set_option maxHeartbeats 2000000 in
theorem esc_loop {G : Gx} {fa L : Addr} {pm cd doc : Value} {n : Nat} {A : Around} (hA : Rm (n + 1) A) {mu : List Addr} {ad : Str → Addr} (x : Str) {e it : Addr} (hem : e ∉ mu) (him : it ∉ mu) (he0 : G.h0.get? e = none) (hi0 : G.h0.get? it = none) {k : Result → Sem Fin} {l : List Value} {p : Pos}
    (hk : ∀ (esc : Bool) (pos : Int) (s0 s : Shared), Ok G [] mu (e :: it :: mu) (envAt 1 pm cd doc L fa) (escSig x pos esc) ad s → Mv (e :: it :: mu) [] s0 s →
      Sg G.M A (GEnd G A (e :: it :: mu) (e :: it :: mu) true (escP 0 esc pos []) s0) (.func (defAt 1).body (envAt 1 pm cd doc L fa)) (k (.ok .next)) [] s) :
    ∀ (cs : List Nat) (i : Nat) (esc : Bool) (pos : Int) (s0 s : Shared), HIt G.M escL.1 (.ref e) true [e, it] [e, it] (signs i cs) s.heap → Ok G [] mu (e :: it :: mu) (envAt 1 pm cd doc L fa) (escSig x pos esc) ad s → Mv (e :: it :: mu) [] s0 s →
      Sg G.M A (GEnd G A (e :: it :: mu) (e :: it :: mu) true (escP i esc pos cs) s0) (.forLoop escL.1 (.ref e) escL.2.2 [] (envAt 1 pm cd doc L fa)) (G.M.den (.forLoop escL.1 (.ref e) escL.2.2 [] (envAt 1 pm cd doc L fa)))
        [.ret k none false l (.func (defAt 1).body (envAt 1 pm cd doc L fa)) p []] s
  | [], i, esc, pos, s0, s, hit, ok, m => by
    refine Sg.doneTo hit hA.overL fun s1 m1 l1 => hk esc pos s0 s1 (ok.drawn m1 (by simp) (by simp [hem, him]) (by simp [he0, hi0]) (by simpa using l1 rfl)) (m.trans (m1.mono (by simp) (by simp)))
  | c :: cs, i, esc, pos, s0, s, hit, ok, m => by
    have hRm : Rm n (A.over (.forLoop escL.1 (.ref e) escL.2.2 [] (envAt 1 pm cd doc L fa)) [.ret k none false l (.func (defAt 1).body (envAt 1 pm cd doc L fa)) p []]) := hA.overL
    have ht : TgtTo G (envAt 1 pm cd doc L fa) (escSig x pos esc) escL.1 (.tuple [.int i, .str ⟨#[c]⟩]) (escSig2 x i esc c) :=
      TgtTo.pair (by walk_at "st") (by walk_at "upd") (by walk_at "st") (by walk_at "upd")
    refine Sg.turnTo hit ht hRm ok (by simp) (by simp) (by simp [hem, him]) (by simp [he0, hi0]) fun s1 ok1 m1 l1 hit1 => ?_
    have nm : ∀ b ∈ [e, it], b ∉ mu := by simp [hem, him]
    have inw : ∀ b ∈ [e, it], b ∈ e :: it :: mu := by simp +contextual
    refine Sg.cons (Sg.iteTo (b := esc) (TsTo.val (b := true) (by walk_at "ev") (fun _ => by rfl)) hRm ok1 fun s2 ok2 m2 => ?_)
    have m02 := (m.trans m1).trans m2.weak
    have hit2 : HIt G.M escL.1 (.ref e) true [e, it] [e, it] (signs (i + 1) cs) s2.heap := hit1.held fun b _ o q => m2.heap b o (by simp) q
    cases esc with
    | true =>
      simp only [if_true]
      show Sg G.M A (GEnd G A (e :: it :: mu) (e :: it :: mu) true (.tuple [.int i, .str (bs ++ ⟨#[c]⟩)] :: escP (i + 1) false i cs) s0) _ _ _ s2
      refine Sg.cons (Sg.tellTo rfl rfl rfl (by rfl) (by rfl) (EvP.tup (EvsTo.cons (by walk_at "ev") (EvsTo.cons (EvP.bin (by walk_at "ev") (by walk_at "ev") (BinP.addS _ _ (by show _ + 1 ≤ _; decide +kernel))) EvsTo.nil (by rfl)) (by rfl)) (by show 2 ≤ sizeLine; decide +kernel)) (by walk_at "flat") hRm ok2 m02 ok2.e.live (fun _ h => h) fun _ s3 ok3 hd3 => ?_)
      refine Sg.cons (Sg.assignTo (σ' := escSig2 x i false c) (by walk_at "ev") (by walk_at "st") (by walk_at "upd") (by rfl) hRm ok3 fun s4 ok4 m4 => ?_)
      refine Sg.nil (Sg.nil (Sg.again rfl ?_))
      refine esc_loop hA x hem him he0 hi0 hk cs (i + 1) false i s3 s4 (hit2.held fun b hb o q => m4.heap b o (nm b hb) (hd3 b (inw b hb) o q)) (ok4.weak (by walk_at "sub") (by walk_at "nodup")) (m4.mono (by simp +contextual) (by simp))
    | false =>
      simp only [Bool.false_eq_true, if_false]
      refine Sg.cons (Sg.iteTo (b := (⟨#[c]⟩ : Str) == bs) (by walk_at "ev") hRm ok2 fun s3 ok3 m3 => ?_)
      have m03 := m02.trans m3.weak
      have hit3 : HIt G.M escL.1 (.ref e) true [e, it] [e, it] (signs (i + 1) cs) s3.heap := hit2.held fun b _ o q => m3.heap b o (by simp) q
      cases hc : (⟨#[c]⟩ : Str) == bs with
      | true =>
        simp only [if_true]
        refine Sg.cons (Sg.assignTo (σ' := escSig2 x i true c) (by walk_at "ev") (by walk_at "st") (by walk_at "upd") (by rfl) hRm ok3 fun s4 ok4 m4 => ?_)
        refine Sg.nil (Sg.nil (Sg.nil (Sg.again rfl ?_)))
        have := esc_loop (l := l) (p := p) hA x hem him he0 hi0 hk cs (i + 1) true i s0 s4 (hit3.held fun b hb o q => m4.heap b o (nm b hb) q) (ok4.weak (by walk_at "sub") (by walk_at "nodup")) (m03.trans (m4.mono (by simp +contextual) (by simp)))
        simp only [escP, hc, Bool.false_eq_true, if_false, if_true]
        exact this
      | false =>
        simp only [Bool.false_eq_true, if_false]
        have eq : escP i false pos (c :: cs) = .tuple [.int i, .str ⟨#[c]⟩] :: escP (i + 1) false i cs := by simp only [escP, hc, Bool.false_eq_true, if_false]
        rw [eq]
        refine Sg.cons (Sg.tellTo rfl rfl rfl (by rfl) (by rfl) (EvP.tup (EvsTo.cons (by walk_at "ev") (EvsTo.cons (by walk_at "ev") EvsTo.nil (by rfl)) (by rfl)) (by show 2 ≤ sizeLine; decide +kernel)) (by walk_at "flat") hRm ok3 m03 ok3.e.live (fun _ h => h) fun _ s4 ok4 hd4 => ?_)
        refine Sg.nil (Sg.nil (Sg.nil (Sg.again rfl ?_)))
        refine esc_loop hA x hem him he0 hi0 hk cs (i + 1) false i s4 s4 (hit3.held fun b hb o q => hd4 b (inw b hb) o q) (ok4.weak (by walk_at "sub") (by walk_at "nodup")) (Mv.refl _)

theorem IterE.enumS {G : Gx} {n : Nat} {A : Around} {env : Env} {σ : Sig} {av : List Addr} {ad : Str → Addr} {s : Shared} {E : Value → Shared → Prop} {np pos : Pos} (tgt : Expr) {e : Expr} {x : Str} {Q : Value → Shared → Prop} (ht : ∃ es k p, tgt = .Tuple es k p) (hA : Rm n A) (ok : OkE G av env σ ad s)
    (hk : env.kindOf (Str.ofString "enumerate") = some .globalImplicit) (hv : GlobIs G (Str.ofString "enumerate") (.type "enumerate")) (h : EvTo G n env σ e (.str x)) (ha : strIterType x = "str_ascii_iterator")
    (he : starEach [e] env = [(false, eval e env)])
    (hQ : ∀ e it s', e ≠ it → s.heap.get? e = none → s.heap.get? it = none → (∃ o, s'.heap.get? e = some o) → (∃ o, s'.heap.get? it = some o) → Mv [] [] s s' → HIt G.M tgt (.ref e) true [e, it] [e, it] (signs 0 x.cps.toList) s'.heap → Q (.ref e) s') :
    wpAny G.M A (eval (.Call (.Name (Str.ofString "enumerate") np) [e] [] pos) env) (fun v s1 => wpAny G.M A (pyIter v) Q E s1) E s := by
  obtain ⟨es, k, p, rfl⟩ := ht
  refine Call_ (wpAny_globName ok hk hv (by decide +kernel) (PyProof.Rows.callWith_type1 (args_cons (wpAny_mono (h A hA av ad s ok E) (fun v s1 h1 => args_nil ?_) fun _ _ x => x) he) he)) rfl
  obtain ⟨r, m⟩ := h1
  obtain ⟨t, rfl⟩ := r.str_inv
  refine call_enumerate_str fun h' he hit hsz hk' => ?_
  rw [ha] at hit
  have m2 : Mv [] [] s { s1 with heap := h' } := m.trans ⟨fun b o _ e => hk' b o e, fun _ _ _ e => e, fun e => e, rfl⟩
  refine wpAny_pyIter_enum he (hQ _ _ _ (Nat.succ_ne_self _) (none_of_size m (Nat.le_succ _)) (none_of_size m (Nat.le_refl _)) ⟨_, he⟩ (let ⟨o, e, _⟩ := hit; ⟨o, e⟩) m2 ?_)
  exact HIt.enumStr (Nat.succ_ne_self _) _ 0 .none _ he hit (by simp)

set_option maxHeartbeats 2000000 in
theorem esc_body {G : Gx} {fa L : Addr} {pm cd doc : Value} {n : Nat} (hen : GlobIs G (Str.ofString "enumerate") (.type "enumerate")) (x : Str) (ha : strIterType x = "str_ascii_iterator") :
    GBody G n (envAt 1 pm cd doc L fa) (sig0 [Str.ofString "addr"] [.str x]) (defAt 1).body (escP 0 false 0 x.cps.toList) true := fun A hA av0 mu av ad s0 ok0 => by
  have hRm : Rm n (A.over (.func (defAt 1).body (envAt 1 pm cd doc L fa)) []) := hA.overF
  have ok := ok0.alone
  refine Sg.cons (Sg.assignTo (x := Str.ofString "pos") (d := .int 0) (σ' := [(Str.ofString "addr", .sh (.str x)), (Str.ofString "pos", .sh (.int 0))]) (by walk_at "ev") (by walk_at "st") (Upd.next (by decide +kernel) Upd.new) (by rfl) hRm ok fun s1 ok1 m1 => ?_)
  refine Sg.cons (Sg.assignTo (x := Str.ofString "escape") (d := .bool false) (σ' := escSig x 0 false) (by walk_at "ev") (by walk_at "st") (by walk_at "upd") (by rfl) hRm ok1 fun s2 ok2 m2 => ?_)
  refine Sg.cons (Sg.for (fun _ => rfl) (IterE.enumS escL.1 ⟨_, _, _, rfl⟩ hRm ok2.e (by rfl) hen (by walk_at "ev") ha (by rfl) fun e it s3 hne he hi le li m3 hit p => ?_))
  have m03 : Mv mu [] s0 s3 := (m1.trans m2).trans m3.weak
  have fr : ∀ a, s2.heap.get? a = none → a ∉ mu ∧ s0.heap.get? a = none := fun a h => ⟨fun k => (by obtain ⟨o, q⟩ := ok2.muLive a k; rw [h] at q; cases q), fresh_back (mu := mu) (m1.trans m2) ok2.muLive h⟩
  have low : ∀ a, s2.heap.get? a = none → G.h0.get? a = none := fun a h => by
    cases q : G.h0.get? a with
    | none => rfl
    | some o => have := ok2.e.keep a o q; rw [h] at this; cases this
  have ok3 : Ok G [] mu (e :: it :: mu) (envAt 1 pm cd doc L fa) (escSig x 0 false) ad s3 := ok2.growAv (wr := [e, it]) m3 (by simp [he, hi]) (by simp [le, li])
  refine Sg.mono (esc_loop hA x (fr e he).1 (fr it hi).1 (low e he) (low it hi) (fun esc pos s4 s5 ok5 m5 => ?_) x.cps.toList 0 false 0 s0 s3 hit ok3 (m03.mono (by simp +contextual) (by simp))) fun q s' h => ⟨_, _, fun _ h => h, fun b hb => ?_, fun b hb => ?_, h⟩
  · refine Sg.cons (Sg.iteTo (b := esc) (TsTo.val (b := true) (by walk_at "ev") (fun _ => by rfl)) hRm ok5 fun s6 ok6 m6 => ?_)
    cases esc with
    | true =>
      simp only [if_true]
      show Sg G.M A (GEnd G A (e :: it :: mu) (e :: it :: mu) true (.tuple [.int pos, .str bs] :: []) s4) _ _ _ s6
      refine Sg.cons (Sg.tellTo rfl rfl rfl (by rfl) (by rfl) (EvP.tup (EvsTo.cons (by walk_at "ev") (EvsTo.cons (by walk_at "ev") EvsTo.nil (by rfl)) (by rfl)) (by show 2 ≤ sizeLine; decide +kernel)) (by walk_at "flat") hRm ok6 (m5.trans m6.weak) ok6.e.live (fun _ h => h) fun _ s7 ok7 hd7 => ?_)
      exact Sg.nil (Sg.nil (Sg.end (.ok (.ret .none)) ⟨rfl, Mv.refl _⟩))
    | false =>
      simp only [Bool.false_eq_true, if_false]
      exact Sg.nil (Sg.nil (Sg.end (.ok (.ret .none)) ⟨rfl, m5.trans m6.weak⟩))
  · rcases List.mem_cons.mp hb with rfl | hb
    · exact .inr (fr _ he).2
    · rcases List.mem_cons.mp hb with rfl | hb
      · exact .inr (fr _ hi).2
      · exact .inl hb
  · rcases List.mem_cons.mp hb with rfl | hb
    · refine .inr fun k => ?_
      obtain ⟨o, q⟩ := ok0.e.live _ k; rw [(fr _ he).2] at q; cases q
    · rcases List.mem_cons.mp hb with rfl | hb
      · refine .inr fun k => ?_
        obtain ⟨o, q⟩ := ok0.e.live _ k; rw [(fr _ hi).2] at q; cases q
      · exact .inl hb

theorem esc_gen {G : Gx} {fa : Addr} {pm cd doc : Value} (H : Has G 1 fa pm cd doc) (hen : GlobIs G (Str.ofString "enumerate") (.type "enumerate")) (x : Str) (ha : strIterType x = "str_ascii_iterator") :
    GenTo G 2 fa [.str x] (escP 0 false 0 x.cps.toList) true := by
  refine GenTo.of (H.at (names := [Str.ofString "addr"]) (by decide +kernel) (by decide +kernel) (by decide +kernel) (by decide +kernel) (fun vs h => by
    match vs, h with
    | [a], _ => rfl)) (by rfl) rfl fun L => ?_
  exact esc_body hen x ha



noncomputable def whileIn (b : List Stmt) (j : Nat) : Expr × List Stmt :=
  match b[j]? with
  | some (.While t bd _ _) => (t, bd)
  | _ => (.Name Str.empty ⟨0, 0, 0, 0⟩, [])
noncomputable def ifIn (b : List Stmt) (j : Nat) : Expr × List Stmt × List Stmt :=
  match b[j]? with
  | some (.If t bd o _) => (t, bd, o)
  | _ => (.Name Str.empty ⟨0, 0, 0, 0⟩, [], [])

/-- what _grouping_intervals tells; an endless row is cut -/
noncomputable def grpP (m : Nat) : Int → List Int → List Int × Bool
  | _, [] => ([], true)
  | last, i :: r => if i = 127 then ([], true) else if i = 0 then (List.replicate (m + 1) last, false) else (i :: (grpP m i r).1, (grpP m i r).2)

noncomputable abbrev lastD : Option Int → PyData
  | none => .none
  | some i => .int i
theorem lastD_flat (o : Option Int) : flat (lastD o) = true := by cases o <;> rfl

noncomputable abbrev grpSig (last : Option Int) : Sig := [(Str.ofString "last_interval", .sh (lastD last))]
noncomputable abbrev grpSig2 (last : Option Int) (i : Int) : Sig := [(Str.ofString "last_interval", .sh (lastD last)), (Str.ofString "interval", .sh (.int i))]

noncomputable abbrev grpL := loopIn (defAt 6).body 1
noncomputable abbrev grpW := whileIn (ifIn grpL.2.2 1).2.1 1

set_option maxHeartbeats 2000000 in
theorem grp_while {G : Gx} {fa L : Addr} {pm cd doc : Value} {n : Nat} {A : Around} (hA : Rm (n + 1) A) {mu dep : List Addr} {ad : Str → Addr} {I : Addr} (c i : Int) (hwd : ∀ b ∈ I :: mu, b ∈ dep) {k k2 : Result → Sem Fin} {l l2 : List Value} {p p2 : Pos} :
    ∀ (j : Nat) (s0 s : Shared), Ok G [] mu (I :: mu) (envAt 6 pm cd doc L fa) (grpSig2 (some c) i) ad s → Mv (I :: mu) [] s0 s → (∀ a ∈ dep, ∃ o, s.heap.get? a = some o) →
      Sg G.M A (GEnd G A dep (I :: mu) false ((List.replicate (j + 1) c).map .int) s0) (.whileLoop grpW.1 grpW.2 [] (envAt 6 pm cd doc L fa)) (G.M.den (.whileLoop grpW.1 grpW.2 [] (envAt 6 pm cd doc L fa)))
        [.ret k2 none false l2 (.forLoop grpL.1 (.ref I) grpL.2.2 [] (envAt 6 pm cd doc L fa)) p2 [], .ret k none false l (.func (defAt 6).body (envAt 6 pm cd doc L fa)) p []] s := by
  intro j
  induction j with
  | zero =>
    intro s0 s ok m hl
    refine Sg.whileTrue (wpAny_mono (TsTo.val (b := true) (e := grpW.1) (c := true) EvP.cBool (fun _ => by rfl) _ hA.overW (I :: mu) ad s ok.e _) (fun b s1 hb => ⟨hb.1, ?_⟩) fun _ _ x => x)
    have m1 := hb.2
    refine Sg.cons (Sg.tellTo (x := .int c) (r := []) rfl rfl rfl (by rfl) (by rfl) (by walk_at "ev") (FlatSig.cons (lastD_flat _) (by walk_at "flat")) hA.overW (ok.mv m1) (m.trans m1.weak) (fun a ha => let ⟨o, e⟩ := hl a ha; ⟨o, m1.heap a o (by simp) e⟩) hwd fun h => absurd (h rfl) (by simp))
  | succ j ih =>
    intro s0 s ok m hl
    refine Sg.whileTrue (wpAny_mono (TsTo.val (b := true) (e := grpW.1) (c := true) EvP.cBool (fun _ => by rfl) _ hA.overW (I :: mu) ad s ok.e _) (fun b s1 hb => ⟨hb.1, ?_⟩) fun _ _ x => x)
    have m1 := hb.2
    have hl1 : ∀ a ∈ dep, ∃ o, s1.heap.get? a = some o := fun a ha => let ⟨o, e⟩ := hl a ha; ⟨o, m1.heap a o (by simp) e⟩
    refine Sg.cons (Sg.tellTo (x := .int c) (r := (List.replicate (j + 1) c).map .int) rfl rfl rfl (by rfl) (by rfl) (by walk_at "ev") (FlatSig.cons (lastD_flat _) (by walk_at "flat")) hA.overW (ok.mv m1) (m.trans m1.weak) hl1 hwd fun _ s2 ok2 hd2 => ?_)
    exact Sg.nil (Sg.again rfl (ih s2 s2 ok2 (Mv.refl _) fun a ha => let ⟨o, e⟩ := hl1 a ha; ⟨o, hd2 a ha o e⟩))

set_option maxHeartbeats 2000000 in
theorem grp_loop {G : Gx} {fa L : Addr} {pm cd doc : Value} {n : Nat} {A : Around} {t : Tok} (hcm : GlobIs G (Str.ofString "CHAR_MAX") (.int 127 t)) (hA : Rm (n + 1) A) {mu : List Addr} {ad : Str → Addr} {I ax : Addr} (him : I ∉ mu) (ham : ax ∉ mu) (hi0 : G.h0.get? I = none) {k : Result → Sem Fin} {l : List Value} {p : Pos} (mm : Nat)
    (hk : ∀ (s0 s : Shared), Mv (I :: mu) [] s0 s → Sg G.M A (GEnd G A (I :: ax :: mu) (I :: mu) true [] s0) (.func (defAt 6).body (envAt 6 pm cd doc L fa)) (k (.ok .next)) [] s)
    (hk2 : ∀ (s0 s : Shared), Mv (I :: mu) [] s0 s → Sg G.M A (GEnd G A (I :: ax :: mu) (I :: mu) true [] s0) (.func (defAt 6).body (envAt 6 pm cd doc L fa)) (k (.ok (.ret .none))) [] s) :
    ∀ (r : List Int) (last : Option Int) (s0 s : Shared), (last = none → r.head? ≠ some 0) → HIt G.M grpL.1 (.ref I) false [I, ax] [I] (r.map .int) s.heap → Ok G [] mu (I :: mu) (envAt 6 pm cd doc L fa) (grpSig last) ad s → Mv (I :: mu) [] s0 s → (∀ a ∈ I :: ax :: mu, ∃ o, s.heap.get? a = some o) →
      Sg G.M A (GEnd G A (I :: ax :: mu) (I :: mu) (grpP mm (last.getD 0) r).2 ((grpP mm (last.getD 0) r).1.map .int) s0) (.forLoop grpL.1 (.ref I) grpL.2.2 [] (envAt 6 pm cd doc L fa)) (G.M.den (.forLoop grpL.1 (.ref I) grpL.2.2 [] (envAt 6 pm cd doc L fa)))
        [.ret k none false l (.func (defAt 6).body (envAt 6 pm cd doc L fa)) p []] s
  | [], last, s0, s, hne, hit, ok, m, hl => by
    exact Sg.doneTo hit hA.overL fun s1 m1 l1 => hk s0 s1 (m.trans (m1.mono (by simp) (by simp)))
  | i :: r, last, s0, s, hne, hit, ok, m, hl => by
    have hRm : Rm n (A.over (.forLoop grpL.1 (.ref I) grpL.2.2 [] (envAt 6 pm cd doc L fa)) [.ret k none false l (.func (defAt 6).body (envAt 6 pm cd doc L fa)) p []]) := hA.overL
    have ht : TgtTo G (envAt 6 pm cd doc L fa) (grpSig last) grpL.1 (.int i) (grpSig2 last i) := TgtTo.name (by walk_at "st") (by walk_at "upd")
    have nm : ∀ b ∈ [I, ax], b ∉ mu := by simp [him, ham]
    have inw : ∀ b ∈ [I, ax], b ∈ I :: ax :: mu := by simp +contextual
    have hwd : ∀ b ∈ I :: mu, b ∈ I :: ax :: mu := by simp +contextual
    have flat2 : FlatSig (grpSig2 last i) := FlatSig.cons (lastD_flat _) (by walk_at "flat")
    refine Sg.turnTo hit ht hRm ok (by simp) (by simp) nm (by simp [hi0]) fun s1 ok1 m1 l1 hit1 => ?_
    have live1 : ∀ a ∈ I :: ax :: mu, ∃ o, s1.heap.get? a = some o := fun a ha => by
      rcases List.mem_cons.mp ha with rfl | ha
      · exact l1 _ (by simp)
      · rcases List.mem_cons.mp ha with rfl | ha
        · exact l1 _ (by simp)
        · exact ok1.muLive a ha
    have hch : EvTo G n (envAt 6 pm cd doc L fa) (grpSig2 last i) (.Name (Str.ofString "CHAR_MAX") ⟨0, 0, 0, 0⟩) (.int 127) := EvP.globInt (by rfl) hcm (by decide +kernel)
    refine Sg.cons (Sg.iteTo (b := i == 127) (TsTo.cmp (b1 := true) (b2 := true) (by walk_at "ev") (EvP.globInt (by rfl) hcm (by decide +kernel)) (CmpP.eqI _ _) (by with_unfolding_all rfl)) hRm ok1 fun s2 ok2 m2 => ?_)
    have m02 := (m.trans m1).trans m2.weak
    have hit2 := hit1.held (h' := s2.heap) fun b _ o q => m2.heap b o (by simp) q
    have live2 : ∀ a ∈ I :: ax :: mu, ∃ o, s2.heap.get? a = some o := fun a ha => let ⟨o, e⟩ := live1 a ha; ⟨o, m2.heap a o (by simp) e⟩
    by_cases h1 : i = 127
    · subst h1
      simp only [grpP, if_true, beq_self_eq_true]
      refine Sg.cons ?_
      refine Sg.wrap (wpAny_Return_none ?_)
      exact Sg.leaf (.ok (.ret .none)) (hk2 s0 s2 m02)
    · have e1 : (i == 127) = false := by simpa using h1
      simp only [e1, Bool.false_eq_true, if_false]
      refine Sg.nil (Sg.cons (Sg.iteTo (b := i == 0) (by walk_at "ev") hRm ok2 fun s3 ok3 m3 => ?_))
      have m03 := m02.trans m3.weak
      have hit3 := hit2.held (h' := s3.heap) fun b _ o q => m3.heap b o (by simp) q
      have live3 : ∀ a ∈ I :: ax :: mu, ∃ o, s3.heap.get? a = some o := fun a ha => let ⟨o, e⟩ := live2 a ha; ⟨o, m3.heap a o (by simp) e⟩
      by_cases h2 : i = 0
      · subst h2
        cases last with
        | none => exact absurd rfl (hne rfl)
        | some c =>
          have eq : grpP mm ((some c).getD 0) (0 :: r) = (List.replicate (mm + 1) c, false) := by simp [grpP]
          rw [eq]
          simp only [if_true, beq_self_eq_true]
          refine Sg.cons (Sg.iteTo (b := false) (TsTo.cmp (b1 := true) (b2 := true) (by walk_at "ev") (by walk_at "ev") (CmpP.isNoneI c) (by with_unfolding_all rfl)) hRm ok3 fun s4 ok4 m4 => ?_)
          simp only [Bool.false_eq_true, if_false]
          refine Sg.nil (Sg.cons (Sg.while fun p2 => ?_))
          exact grp_while hA c 0 hwd mm s0 s4 ok4 (m03.trans m4.weak) fun a ha => let ⟨o, e⟩ := live3 a ha; ⟨o, m4.heap a o (by simp) e⟩
      · have e2 : (i == 0) = false := by simpa using h2
        have eq : grpP mm (last.getD 0) (i :: r) = (i :: (grpP mm i r).1, (grpP mm i r).2) := by simp [grpP, h1, h2]
        rw [eq]
        simp only [e2, Bool.false_eq_true, if_false, List.map_cons]
        refine Sg.nil (Sg.cons (Sg.tellTo rfl rfl rfl (by rfl) (by rfl) (by walk_at "ev") flat2 hRm ok3 m03 live3 hwd fun _ s4 ok4 hd4 => ?_))
        refine Sg.cons (Sg.assignTo (σ' := grpSig2 (some i) i) (by walk_at "ev") (by walk_at "st") (by walk_at "upd") (by rfl) hRm ok4 fun s5 ok5 m5 => ?_)
        refine Sg.nil (Sg.again rfl ?_)
        refine grp_loop hcm hA him ham hi0 mm hk hk2 r (some i) s4 s5 (fun h => nomatch h) (hit3.held fun b hb o q => m5.heap b o (nm b hb) (hd4 b (inw b hb) o q)) (ok5.weak (by walk_at "sub") (by walk_at "nodup")) (m5.mono (by simp +contextual) (by simp)) fun a ha => ?_
        obtain ⟨o, e⟩ := live3 a ha
        by_cases hm : a ∈ mu
        · exact ok5.muLive a hm
        · exact ⟨o, m5.heap a o hm (hd4 a ha o e)⟩

theorem IterE.list {G : Gx} {n : Nat} {A : Around} {env : Env} {σ : Sig} {av : List Addr} {ad : Str → Addr} {s : Shared} {E : Value → Shared → Prop} (tgt : Expr) {e : Expr} {ns : List Int} {Q : Value → Shared → Prop} (ht : TgtOk tgt) (hA : Rm n A) (ok : OkE G av env σ ad s)
    (h : EvTo G n env σ e (.list (ns.map .int)))
    (hQ : ∀ I ax s', s.heap.get? I = none → ax ∉ av → (∃ o, s'.heap.get? I = some o) → (∃ o, s'.heap.get? ax = some o) → Mv [] [] s s' → HIt G.M tgt (.ref I) false [I, ax] [I] (ns.map .int) s'.heap → Q (.ref I) s') :
    wpAny G.M A (eval e env) (fun v s1 => wpAny G.M A (pyIter v) Q E s1) E s := by
  refine wpAny_mono (h A hA av ad s ok E) (fun v s1 h1 => ?_) fun _ _ x => x
  obtain ⟨r, m⟩ := h1
  obtain ⟨ax, items, rfl, ha, hl, hr⟩ := (show Rep (Pt s1.heap av) (.list (ns.map .int)) v by simpa [sel] using r).list_inv
  obtain ⟨oA, eA, _⟩ := id hl
  have hlt : ax < s1.heap.objs.size := Heap.lt_size eA
  refine wpAny_pyIter_list hl (hQ _ ax _ (none_of_size m (Nat.le_refl _)) ha ⟨_, Heap.get?_push_size _ rfl⟩ ⟨_, Heap.get?_push_of_some _ eA⟩ (m.trans (Mv.push _)) ?_)
  exact HIt.list ht (Nat.ne_of_lt hlt) ns 0 _ ⟨_, Heap.get?_push_size _ rfl, rfl, rfl⟩ (hl.push _) (by rw [List.drop_zero]; exact hr.ints)

set_option maxHeartbeats 2000000 in
theorem grp_body {G : Gx} {fa L : Addr} {pm cd doc : Value} {n : Nat} {t : Tok} (hcm : GlobIs G (Str.ofString "CHAR_MAX") (.int 127 t)) (row : List Int) (hrow : row.head? ≠ some 0) (mm : Nat) :
    GBody G n (envAt 6 pm cd doc L fa) (sig0 [Str.ofString "grouping"] [.list (row.map .int)]) (defAt 6).body ((grpP mm 0 row).1.map .int) (grpP mm 0 row).2 := fun A hA av0 mu av ad s0 ok0 => by
  have hRm : Rm n (A.over (.func (defAt 6).body (envAt 6 pm cd doc L fa)) []) := hA.overF
  refine Sg.cons (Sg.assignTo (x := Str.ofString "last_interval") (d := lastD none) (σ' := [(Str.ofString "grouping", .sh (.list (row.map .int))), (Str.ofString "last_interval", .sh (lastD none))]) EvP.cNone (by walk_at "st") (Upd.next (by decide +kernel) Upd.new) (by rfl) hRm ok0 fun s2 ok2 m2 => ?_)
  refine Sg.cons (Sg.for (fun _ => rfl) (IterE.list (ns := row) grpL.1 (.name _ _) hRm ok2.e (by walk_at "ev") fun I ax s3 hI hax lI lax m3 hit p => ?_))
  have m03 : Mv mu [] s0 s3 := m2.trans m3.weak
  have fr : ∀ a, s2.heap.get? a = none → a ∉ mu ∧ s0.heap.get? a = none := fun a h => ⟨fun k => (by obtain ⟨o, q⟩ := ok2.muLive a k; rw [h] at q; cases q), fresh_back (mu := mu) m2 ok2.muLive h⟩
  have low : ∀ a, s2.heap.get? a = none → G.h0.get? a = none := fun a h => by
    cases q : G.h0.get? a with
    | none => rfl
    | some o => have := ok2.e.keep a o q; rw [h] at this; cases this
  have ok3 : Ok G [] mu (I :: mu) (envAt 6 pm cd doc L fa) (grpSig none) ad s3 := (ok2.alone.growAv (wr := [I]) m3 (by simp [hI]) (by simp [lI])).weak (by walk_at "sub") (by walk_at "nodup")
  refine Sg.mono (grp_loop hcm hA (fr I hI).1 (fun k => hax (ok2.sub _ k)) (low I hI) mm (fun s4 s5 m5 => ?_) (fun s4 s5 m5 => ?_) row none s0 s3 (fun _ => hrow) hit ok3 (m03.mono (by simp +contextual) (by simp)) fun a ha => ?_) fun q s' h => ⟨_, _, by simp +contextual, fun b hb => ?_, fun b hb => ?_, h⟩
  · exact Sg.end (.ok (.ret .none)) ⟨rfl, m5⟩
  · exact Sg.end (.ok (.ret .none)) ⟨rfl, m5⟩
  · rcases List.mem_cons.mp ha with rfl | ha
    · exact lI
    · rcases List.mem_cons.mp ha with rfl | ha
      · exact lax
      · exact ok3.muLive a ha
  · rcases List.mem_cons.mp hb with rfl | hb
    · exact .inr (fr _ hI).2
    · exact .inl hb
  · rcases List.mem_cons.mp hb with rfl | hb
    · refine .inr fun k => ?_
      obtain ⟨o, q⟩ := ok0.e.live _ k; rw [(fr _ hI).2] at q; cases q
    · rcases List.mem_cons.mp hb with rfl | hb
      · exact .inr hax
      · exact .inl hb

theorem grp_gen {G : Gx} {fa : Addr} {pm cd doc : Value} (H : Has G 6 fa pm cd doc) {t : Tok} (hcm : GlobIs G (Str.ofString "CHAR_MAX") (.int 127 t)) (row : List Int) (hrow : row.head? ≠ some 0) (mm : Nat) :
    GenTo G 2 fa [.list (row.map .int)] ((grpP mm 0 row).1.map .int) (grpP mm 0 row).2 := by
  refine GenTo.of (H.at (names := [Str.ofString "grouping"]) (by decide +kernel) (by decide +kernel) (by decide +kernel) (by decide +kernel) (fun vs h => by
    match vs, h with
    | [a], _ => rfl)) (by rfl) rfl fun L => ?_
  exact grp_body hcm row hrow mm



theorem CallTo.level {G : Gx} {n m : Nat} {fa : Addr} {ds : List PyData} {d : PyData} (h : CallTo G n fa ds d) (hm : n ≤ m) : CallTo G m fa ds d := fun A hA => h A (hA.le hm)

noncomputable def toldP : Int → List Int → List Int
  | _, [] => []
  | at', s :: r => if 6 < at' + s then [] else (at' + s) :: toldP (at' + s) r
noncomputable def toldB : Int → List Int → Bool
  | _, [] => false
  | at', s :: r => decide (6 < at' + s) || toldB (at' + s) r

theorem ExsTo.brkOut {G : Gx} {n : Nat} {env : Env} {σ σ' σ1 : Sig} {sts : List Stmt} (h : ExsTo G n env σ sts (.brk σ1)) (hs : ∀ p ∈ σ', p ∈ σ1) (hn : (σ'.map Prod.fst).Nodup) : ExsTo G n env σ sts (.brk σ') := fun A hA av0 mu av ad s ok E =>
  wpAny_mono (h A hA av0 mu av ad s ok E) (fun f s1 hp => ⟨hp.1, hp.2.1.sub hs hn, hp.2.2⟩) fun _ _ x => x

noncomputable abbrev toldL := loopIn (defAt 9).body 2
noncomputable abbrev toldSig (row : List Int) (marks : List Int) (at' : Int) : Sig := [(Str.ofString "row", .sh (.list (row.map .int))), (Str.ofString "marks", .own (marks.map .int)), (Str.ofString "at", .sh (.int at'))]
noncomputable abbrev toldSig2 (row : List Int) (marks : List Int) (at' size : Int) : Sig := [(Str.ofString "row", .sh (.list (row.map .int))), (Str.ofString "marks", .own (marks.map .int)), (Str.ofString "at", .sh (.int at')), (Str.ofString "size", .sh (.int size))]

theorem map_snoc (marks : List Int) (a : Int) : (marks.map PyData.int) ++ [PyData.int a] = (marks ++ [a]).map PyData.int := by simp

set_option maxHeartbeats 1000000 in
theorem told_turn {G : Gx} {n : Nat} {fa L : Addr} {pm cd doc : Value} (row marks : List Int) (at' size : Int) (hs : size ≠ 127) (hm : marks.length ≤ sizeLine) (h : at' + size ≤ 6) :
    ExsTo G n (envAt 9 pm cd doc L fa) (toldSig2 row marks at' size) toldL.2.2 (.next (toldSig2 row (marks ++ [at' + size]) (at' + size) size)) := by
  have e1 : (size == 127) = false := by simpa using hs
  have e2 : decide (6 < at' + size) = false := by simp; omega
  refine' ExsTo.cons (ExTo.ite (c := false) (TsTo.cast (by walk_at "ev") e1) (fun h => nomatch h) (fun _ => ExsTo.nil)) ?_
  refine' ExsTo.cons (ExTo.aug (by walk_at "mem") (by walk_at "ev") (.inl rfl) (BinP.addI _ _) (by walk_at "st") (by walk_at "upd") (by decide +kernel)) ?_
  refine' ExsTo.cons (ExTo.ite (c := false) (TsTo.cast (by walk_at "ev") e2) (fun h => nomatch h) (fun _ => ExsTo.nil)) ?_
  refine' ExsTo.cons (ExTo.append (xs := marks.map .int) (d := .int (at' + size)) (by walk_at "mem") (by decide +kernel) (by walk_at "ev") (by rw [map_snoc]; walk_at "upd") (by simpa using hm) (by rfl) (by rfl) (by rfl) (by rfl) (by rfl) (by rfl)) ExsTo.nil

set_option maxHeartbeats 1000000 in
theorem told_brk {G : Gx} {n : Nat} {fa L : Addr} {pm cd doc : Value} (row marks : List Int) (at' size : Int) (hs : size ≠ 127) (h : 6 < at' + size) :
    ExsTo G n (envAt 9 pm cd doc L fa) (toldSig2 row marks at' size) toldL.2.2 (.brk (toldSig2 row marks (at' + size) size)) := by
  have e1 : (size == 127) = false := by simpa using hs
  have e2 : decide (6 < at' + size) = true := by simpa using h
  refine' ExsTo.cons (ExTo.ite (c := false) (TsTo.cast (by walk_at "ev") e1) (fun h => nomatch h) (fun _ => ExsTo.nil)) ?_
  refine' ExsTo.cons (ExTo.aug (by walk_at "mem") (by walk_at "ev") (.inl rfl) (BinP.addI _ _) (by walk_at "st") (by walk_at "upd") (by decide +kernel)) ?_
  exact ExsTo.brk (ExTo.ite (c := true) (TsTo.cast (by walk_at "ev") e2) (fun _ => ExsTo.brk ExTo.break) (fun h => nomatch h))

noncomputable abbrev marksSig (marks : List Int) : Sig := [(Str.ofString "marks", .own (marks.map .int))]
theorem told_tgt {G : Gx} {fa L : Addr} {pm cd doc : Value} (row marks : List Int) (at' size : Int) : TgtTo G (envAt 9 pm cd doc L fa) (toldSig row marks at') toldL.1 (.int size) (toldSig2 row marks at' size) :=
  TgtTo.name (by walk_at "st") (by walk_at "upd")

set_option maxHeartbeats 1000000 in
theorem told_loop {G : Gx} {n : Nat} {fa L : Addr} {pm cd doc : Value} (row : List Int) (ended : Bool) : ∀ (l marks : List Int) (at' : Int), (∀ s ∈ l, s ≠ 127) → (ended = true ∨ toldB at' l = true) → marks.length + l.length ≤ sizeLine →
    ForAt G n (envAt 9 pm cd doc L fa) toldL.1 toldL.2.2 (toldSig row marks at') (l.map .int) ended (.next (marksSig (marks ++ toldP at' l)))
  | [], marks, at', h1, h2, h3 => by
    rcases h2 with rfl | h2
    · refine ForAt.out ForAt.nil ?_ (by walk_at "nodup")
      simp [toldP]
    · simp [toldB] at h2
  | s :: r, marks, at', h1, h2, h3 => by
    have hs : s ≠ 127 := h1 s (by simp)
    simp only [List.length_cons] at h3
    by_cases h : 6 < at' + s
    · refine ForAt.out (ForAt.brk (told_tgt row marks at' s) (told_brk row marks at' s hs h)) ?_ (by walk_at "nodup")
      simp [toldP, h]
    · have ih := told_loop (G := G) (n := n) (fa := fa) (L := L) (pm := pm) (cd := cd) (doc := doc) row ended r (marks ++ [at' + s]) (at' + s) (fun x hx => h1 x (by simp [hx])) (h2.imp id fun k => by simpa [toldB, h] using k) (by simp; omega)
      have e : marks ++ toldP at' (s :: r) = (marks ++ [at' + s]) ++ toldP (at' + s) r := by simp [toldP, h]
      rw [e]
      exact ForAt.next (told_tgt row marks at' s) (told_turn row marks at' s hs (by omega) (by omega)) (ForAt.sub (by walk_at "sub") (by walk_at "nodup") ih)

theorem grpP_ne {mm : Nat} : ∀ {last : Int} {row : List Int}, last ≠ 127 → ∀ s ∈ (grpP mm last row).1, s ≠ 127
  | last, [], hl, s, hs => by simp [grpP] at hs
  | last, i :: r, hl, s, hs => by
    unfold grpP at hs
    split at hs
    · simp at hs
    · split at hs
      · simp at hs; rw [hs]; exact hl
      · rename_i h1 _
        simp at hs
        rcases hs with rfl | hs
        · exact h1
        · exact grpP_ne h1 s hs

set_option maxHeartbeats 1000000 in
theorem told_call {G : Gx} {fa fa6 : Addr} {pm cd doc pm6 cd6 doc6 : Value} (H : Has G 9 fa pm cd doc) (H6 : Has G 6 fa6 pm6 cd6 doc6) {t : Tok} (hcm : GlobIs G (Str.ofString "CHAR_MAX") (.int 127 t)) (row : List Int) (hrow : row.head? ≠ some 0) (mm : Nat)
    (hend : (grpP mm 0 row).2 = true ∨ toldB 0 (grpP mm 0 row).1 = true) (hsz : (grpP mm 0 row).1.length ≤ sizeLine) (hcons : (grpP mm 0 row).1 ≠ []) : CallTo G 3 fa [.list (row.map .int)] (.list ((toldP 0 (grpP mm 0 row).1).map .int)) := by
  refine CallTo.of (H.at (names := [Str.ofString "row"]) (by decide +kernel) (by decide +kernel) (by decide +kernel) (by decide +kernel) (fun vs h => by
    match vs, h with
    | [a], _ => rfl)) (by rfl) rfl fun L => ?_
  show ExsTo G 2 (envAt 9 pm cd doc L fa) [(Str.ofString "row", .sh (.list (row.map .int)))] _ _
  refine' ExsTo.cons (ExTo.assignNew (x := Str.ofString "marks") (xs := ([] : List Int).map .int) (EvNew.disp EvsTo.nil (by decide +kernel)) (by walk_at "st") (Upd.next (by decide +kernel) Upd.new) (by rfl)) ?_
  refine' ExsTo.cons (ExTo.assign (x := Str.ofString "at") EvP.cInt (by walk_at "st") (by walk_at "upd") (by rfl)) ?_
  obtain ⟨o, ho, hd⟩ := H6.obj
  have hne := grpP_ne (mm := mm) (last := 0) (row := row) (by decide)
  have g6 := grp_gen H6 hcm row hrow mm
  refine ExsTo.cons (σ1 := marksSig (toldP 0 (grpP mm 0 row).1)) (ExTo.forGen (n := 1) (.name _ _) (by rfl) (.inl H6.name) (by decide +kernel) ho hd (EvsTo.cons (by walk_at "ev") EvsTo.nil (by rfl)) g6 (by rfl) ?_ (fun _ => rfl)) (ExsTo.ret (ExTo.returnOwn (by walk_at "mem") (by decide +kernel)))
  generalize hl : (grpP mm 0 row).1 = l at *
  generalize (grpP mm 0 row).2 = ended at *
  cases l with
  | nil => exact absurd rfl hcons
  | cons s r =>
    have hs : s ≠ 127 := hne s (by simp)
    by_cases h : 6 < 0 + s
    · have e : toldP 0 (s :: r) = [] := by simp [toldP]; omega
      rw [e]
      exact ForG.brk (told_tgt row [] 0 s) (ExsTo.brkOut (told_brk row [] 0 s hs h) (by walk_at "sub") (by walk_at "nodup"))
    · have e : toldP 0 (s :: r) = [0 + s] ++ toldP (0 + s) r := by simp only [toldP, if_neg h]; rfl
      rw [e]
      refine ForG.next (told_tgt row [] 0 s) (told_turn row [] 0 s hs (by simp) (by omega)) (ForAt.sub (σ' := toldSig row ([] ++ [0 + s]) (0 + s)) (by walk_at "sub") (by walk_at "nodup") ?_)
      exact told_loop row ended r ([] ++ [0 + s]) (0 + s) (fun x hx => hne x (by simp [hx])) (hend.imp id fun k => by unfold toldB at k; simp only [Bool.or_eq_true, decide_eq_true_eq] at k; exact k.resolve_left h) (by simp at hsz ⊢; omega)


/-- a fold that may end early -/
noncomputable def foldO {S α : Type} (step : S → α → Except PyData S) : S → List α → Except PyData S
  | s, [] => .ok s
  | s, a :: r => match step s a with
    | .ok s' => foldO step s' r
    | .error d => .error d
noncomputable def outOf {S : Type} (sig : S → Sig) : Except PyData S → Out
  | .ok s => .next (sig s)
  | .error d => .ret d

section
variable {G : Gx} {n : Nat} {env : Env} {tgt : Expr} {body : List Stmt} {S α : Type}

/-- a loop by its turn -/
theorem ForAt.fold (sig : S → Sig) (toD : α → PyData) (step : S → α → Except PyData S) (Inv : S → List α → Prop)
    (hd : ∀ s, ((sig s).map Prod.fst).Nodup)
    (hturn : ∀ s a r, Inv s (a :: r) → ∃ σ1, TgtTo G env (sig s) tgt (toD a) σ1 ∧ (match step s a with
      | .ok s' => ∃ σ2, ExsTo G n env σ1 body (.next σ2) ∧ (∀ p ∈ sig s', p ∈ σ2) ∧ Inv s' r
      | .error d => ExsTo G n env σ1 body (.ret d))) :
    ∀ (l : List α) (s : S), Inv s l → ForAt G n env tgt body (sig s) (l.map toD) true (outOf sig (foldO step s l))
  | [], s, _ => ForAt.nil
  | a :: r, s, hi => by
    obtain ⟨σ1, ht, hb⟩ := hturn s a r hi
    simp only [foldO, List.map_cons]
    cases e : step s a with
    | ok s' =>
      rw [e] at hb
      obtain ⟨σ2, hb, hsub, hi'⟩ := hb
      exact ForAt.next ht hb (ForAt.sub hsub (hd s') (ForAt.fold sig toD step Inv hd hturn r s' hi'))
    | error d =>
      rw [e] at hb
      exact ForAt.ret ht hb

theorem ForG.fold (sig : S → Sig) (toD : α → PyData) (step : S → α → Except PyData S) (Inv : S → List α → Prop)
    (hd : ∀ s, ((sig s).map Prod.fst).Nodup)
    (hturn : ∀ s a r, Inv s (a :: r) → ∃ σ1, TgtTo G env (sig s) tgt (toD a) σ1 ∧ (match step s a with
      | .ok s' => ∃ σ2, ExsTo G n env σ1 body (.next σ2) ∧ (∀ p ∈ sig s', p ∈ σ2) ∧ Inv s' r
      | .error d => ExsTo G n env σ1 body (.ret d)))
    (l : List α) (s : S) (hi : Inv s l) : ForG G n env tgt body (sig s) (l.map toD) true (outOf sig (foldO step s l)) := by
  cases l with
  | nil => exact ForG.nil
  | cons a r =>
    obtain ⟨σ1, ht, hb⟩ := hturn s a r hi
    simp only [foldO, List.map_cons]
    cases e : step s a with
    | ok s' =>
      rw [e] at hb
      obtain ⟨σ2, hb, hsub, hi'⟩ := hb
      exact ForG.next ht hb (ForAt.sub hsub (hd s') (ForAt.fold sig toD step Inv hd hturn r s' hi'))
    | error d =>
      rw [e] at hb
      exact ForG.ret ht hb

/-- a loop without an early end -/
theorem ForAt.foldl (sig : S → Sig) (toD : α → PyData) (step : S → α → S) (Inv : S → List α → Prop)
    (hd : ∀ s, ((sig s).map Prod.fst).Nodup)
    (hturn : ∀ s a r, Inv s (a :: r) → ∃ σ1 σ2, TgtTo G env (sig s) tgt (toD a) σ1 ∧ ExsTo G n env σ1 body (.next σ2) ∧ (∀ p ∈ sig (step s a), p ∈ σ2) ∧ Inv (step s a) r) :
    ∀ (l : List α) (s : S), Inv s l → ForAt G n env tgt body (sig s) (l.map toD) true (.next (sig (l.foldl step s)))
  | [], s, _ => ForAt.nil
  | a :: r, s, hi => by
    obtain ⟨σ1, σ2, ht, hb, hsub, hi'⟩ := hturn s a r hi
    exact ForAt.next ht hb (ForAt.sub hsub (hd _) (ForAt.foldl sig toD step Inv hd hturn r _ hi'))
theorem ForG.foldl (sig : S → Sig) (toD : α → PyData) (step : S → α → S) (Inv : S → List α → Prop)
    (hd : ∀ s, ((sig s).map Prod.fst).Nodup)
    (hturn : ∀ s a r, Inv s (a :: r) → ∃ σ1 σ2, TgtTo G env (sig s) tgt (toD a) σ1 ∧ ExsTo G n env σ1 body (.next σ2) ∧ (∀ p ∈ sig (step s a), p ∈ σ2) ∧ Inv (step s a) r)
    (l : List α) (s : S) (hi : Inv s l) : ForG G n env tgt body (sig s) (l.map toD) true (.next (sig (l.foldl step s))) := by
  cases l with
  | nil => exact ForG.nil
  | cons a r =>
    obtain ⟨σ1, σ2, ht, hb, hsub, hi'⟩ := hturn s a r hi
    exact ForG.next ht hb (ForAt.sub hsub (hd _) (ForAt.foldl sig toD step Inv hd hturn r _ hi'))
end

/-- a walk behind others -/
theorem walks_shift {prog : Program} {w : World} {A : Around} {I : Addr} {fp wr : List Addr} {Gr : Array GenState → Array GenState → Prop} {n : Nat} {P : Nat → Value → Prop} {St : Nat → Shared → Prop} (W : WalksS prog w A I fp wr Gr n P St) (k : Nat) (Z : Nat → Value → Prop) :
    WalksS prog w A I fp wr Gr (k + n) (fun i v => if i < k then Z i v else P (i - k) v) (fun i s => k ≤ i ∧ St (i - k) s) where
  sub := W.sub
  grefl := W.grefl
  gtrans := W.gtrans
  frame := fun i s h' tk hs ht hf => ⟨hs.1, W.frame _ s h' tk hs.2 ht hf⟩
  item := fun i s Q E hi hs h => W.item (i - k) s Q E (by have := hs.1; omega) hs.2 fun v s' hP hS hm => h v s' (by rw [if_neg (by have := hs.1; omega)]; exact hP) ⟨by have := hs.1; omega, by rw [show i + 1 - k = i - k + 1 by have := hs.1; omega]; exact hS⟩ hm
  done := fun s Q E hs h => W.done s Q E (by rw [show n = k + n - k by omega]; exact hs.2) h
  self := fun i s Q E hs h => W.self (i - k) s Q E hs.2 h




noncomputable def tupD (p : Int × Str) : PyData := .tuple [.int p.1, .str p.2]
noncomputable def escQ : Nat → Bool → Int → List Nat → List (Int × Str)
  | _, esc, pos, [] => if esc then [(pos, bs)] else []
  | i, esc, _, c :: r => if esc then (↑i, bs ++ ⟨#[c]⟩) :: escQ (i + 1) false i r
      else if (⟨#[c]⟩ : Str) == bs then escQ (i + 1) true i r
      else (↑i, ⟨#[c]⟩) :: escQ (i + 1) false i r
theorem escP_map : ∀ (cs : List Nat) (i : Nat) (esc : Bool) (pos : Int), escP i esc pos cs = (escQ i esc pos cs).map tupD
  | [], i, esc, pos => by cases esc <;> simp [escP, escQ, tupD]
  | c :: r, i, esc, pos => by
    unfold escP escQ
    cases esc with
    | true => simp [escP_map r, tupD]
    | false =>
      simp only [Bool.false_eq_true, if_false]
      split
      · exact escP_map r _ _ _
      · simp [escP_map r, tupD]
theorem escQ_len : ∀ (cs : List Nat) (i : Nat) (esc : Bool) (pos : Int), (escQ i esc pos cs).length ≤ cs.length + 1
  | [], i, esc, pos => by cases esc <;> simp [escQ]
  | c :: r, i, esc, pos => by
    unfold escQ
    have := fun i b p => escQ_len r i b p
    split
    · simp only [List.length_cons]; have := this (i + 1) false i; omega
    · split
      · have := this (i + 1) true i; simp only [List.length_cons]; omega
      · simp only [List.length_cons]; have := this (i + 1) false i; omega

noncomputable def dq : Str := Str.ofString "\""
noncomputable abbrev StripS := Int × Option Int × List Str
noncomputable def stripStep (x : Str) (s : StripS) (p : Int × Str) : StripS :=
  if p.2 == dq then match s.2.1 with
    | none => (s.1, some p.1, s.2.2)
    | some o => (p.1 + 1, none, if s.1 != o then s.2.2 ++ [Txt.slice x (some s.1) (some o)] else s.2.2)
  else s
noncomputable def stripEnd (x : Str) : StripS := (escQ 0 false 0 x.cps.toList).foldl (stripStep x) (0, none, [])
noncomputable def stripPcs (x : Str) : List Str := if (stripEnd x).1 < (x.length : Int) then (stripEnd x).2.2 ++ [Txt.slice x (some (stripEnd x).1) none] else (stripEnd x).2.2
noncomputable def stripP (x : Str) : Str := if (!Txt.contains x dq) then x else gl (stripPcs x)

theorem stripFold (x : Str) : ∀ (l : List (Int × Str)) (s : StripS), (∀ p ∈ s.2.2, p.length ≤ x.length) → (l.foldl (stripStep x) s).2.2.length ≤ s.2.2.length + l.length ∧ ∀ p ∈ (l.foldl (stripStep x) s).2.2, p.length ≤ x.length
  | [], s, h => ⟨by simp, h⟩
  | a :: r, s, h => by
    have key : (stripStep x s a).2.2.length ≤ s.2.2.length + 1 ∧ ∀ p ∈ (stripStep x s a).2.2, p.length ≤ x.length := by
      unfold stripStep
      split
      · split
        · exact ⟨by simp, h⟩
        · dsimp only
          split
          · refine ⟨by simp, fun p hp => ?_⟩
            rcases List.mem_append.mp hp with hp | hp
            · exact h p hp
            · simp at hp; subst hp; exact Txt.slice_le _ _ _
          · exact ⟨by simp, h⟩
      · exact ⟨by simp, h⟩
    have ih := stripFold x r _ key.2
    refine ⟨?_, ih.2⟩
    have := ih.1
    simp only [List.foldl_cons, List.length_cons]
    omega
theorem gl_len (ss : List Str) : (gl ss).length = (ss.map Str.length).sum := by
  show (List.toArray _).size = _
  rw [List.size_toArray, List.length_flatten]
  congr 1
  rw [List.map_map]
  apply List.map_congr_left
  intro x _
  show x.cps.toList.length = x.cps.size
  simp
theorem sum_le (m : Nat) : ∀ (ss : List Str), (∀ p ∈ ss, p.length ≤ m) → (ss.map Str.length).sum ≤ ss.length * m
  | [], _ => by simp
  | a :: r, h => by
    have := sum_le m r fun p hp => h p (by simp [hp])
    have := h a (by simp)
    simp only [List.map_cons, List.sum_cons, List.length_cons, Nat.succ_mul]
    omega
theorem fold_len (ss : List Str) : ∀ (k : Nat), ss.foldl (· + ·.length + (Str.ofString "").length) k = k + (ss.map Str.length).sum := by
  have e : (Str.ofString "").length = 0 := by decide +kernel
  induction ss with
  | nil => intro k; simp
  | cons a r ih => intro k; rw [List.foldl_cons, ih, e]; simp; omega
theorem stripPcs_ok (x : Str) (hx : x.length ≤ 1000) : (gl (stripPcs x)).length ≤ sizeLine ∧ Builtin.Str.tooLong ((stripPcs x).toArray.foldl (· + ·.length + (Str.ofString "").length) 0) = false := by
  have h := stripFold x (escQ 0 false 0 x.cps.toList) (0, none, []) (by simp)
  have h1 := escQ_len x.cps.toList 0 false 0
  have hxl : x.cps.toList.length = x.length := by simp [Str.length]
  have key : (stripPcs x).length ≤ 1002 ∧ ∀ p ∈ stripPcs x, p.length ≤ x.length := by
    unfold stripPcs
    have h2 : (stripEnd x).2.2.length ≤ 1001 := by
      have := h.1
      unfold stripEnd
      simp only [List.length_nil] at this
      omega
    split
    · refine ⟨by simp; omega, fun p hp => ?_⟩
      rcases List.mem_append.mp hp with hp | hp
      · exact h.2 p hp
      · simp at hp; subst hp; exact Txt.slice_le _ _ _
    · exact ⟨by omega, h.2⟩
  have hs := sum_le x.length _ key.2
  have hb : (stripPcs x).length * x.length ≤ 1002 * 1000 := Nat.mul_le_mul key.1 hx
  have e : sizeLine = 16777216 := by decide +kernel
  refine ⟨by rw [gl_len, e]; omega, ?_⟩
  rw [List.foldl_toArray, fold_len]
  unfold Builtin.Str.tooLong
  rw [e]
  simp
  omega

noncomputable abbrev stripSig (x : Str) (s : StripS) : Sig := [(Str.ofString "addr", .sh (.str x)), (Str.ofString "start", .sh (.int s.1)), (Str.ofString "open_pos", .sh (lastD s.2.1)), (Str.ofString "result", .own (s.2.2.map .str))]
noncomputable abbrev stripSig2 (x : Str) (s : StripS) (p : Int × Str) : Sig := [(Str.ofString "addr", .sh (.str x)), (Str.ofString "start", .sh (.int s.1)), (Str.ofString "open_pos", .sh (lastD s.2.1)), (Str.ofString "result", .own (s.2.2.map .str)), (Str.ofString "pos", .sh (.int p.1)), (Str.ofString "ch", .sh (.str p.2))]
noncomputable abbrev stripL := loopIn (defAt 2).body 4

theorem map_snocS (l : List Str) (a : Str) : (l.map PyData.str) ++ [PyData.str a] = (l ++ [a]).map PyData.str := by simp

set_option maxHeartbeats 1000000 in
theorem strip_turn {G : Gx} {n : Nat} {fa L : Addr} {pm cd doc : Value} (x : Str) (hx : x.length ≤ 1000) (s : StripS) (p : Int × Str) (hl : s.2.2.length ≤ sizeLine) :
    ExsTo G n (envAt 2 pm cd doc L fa) (stripSig2 x s p) stripL.2.2 (.next (stripSig2 x (stripStep x s p) p)) := by
  have hxs : x.length ≤ sizeLine := Nat.le_trans hx (by decide +kernel)
  cases e : p.2 == dq with
  | false =>
    rw [show stripStep x s p = s by unfold stripStep; simp [e]]
    refine' ExsTo.cons (ExTo.ite (c := false) (TsTo.cast (by walk_at "ev") e) (fun h => nomatch h) (fun _ => ExsTo.nil)) ExsTo.nil
  | true =>
    obtain ⟨st, op, res⟩ := s
    refine' ExsTo.cons (ExTo.ite (c := true) (TsTo.cast (by walk_at "ev") e) (fun _ => ?_) (fun h => nomatch h)) ExsTo.nil
    cases op with
    | none =>
      rw [show stripStep x (st, none, res) p = (st, some p.1, res) by unfold stripStep; simp [e]]
      refine' ExsTo.cons (ExTo.ite (c := true) (TsTo.cmp (b1 := true) (b2 := true) (x := lastD none) (by walk_at "ev") (by walk_at "ev") CmpP.isNone (by with_unfolding_all rfl)) (fun _ => ?_) (fun h => nomatch h)) ExsTo.nil
      refine' ExsTo.cons (ExTo.assign (d := lastD (some p.1)) (by walk_at "ev") (by walk_at "st") (by walk_at "upd") (by rfl)) ExsTo.nil
    | some o =>
      refine' ExsTo.cons (ExTo.ite (c := false) (TsTo.cmp (b1 := true) (b2 := true) (x := lastD (some o)) (by walk_at "ev") (by walk_at "ev") (CmpP.isNoneI o) (by with_unfolding_all rfl)) (fun h => nomatch h) (fun _ => ?_)) ExsTo.nil
      cases e2 : st != o with
      | true =>
        rw [show stripStep x (st, some o, res) p = (p.1 + 1, none, res ++ [Txt.slice x (some st) (some o)]) by unfold stripStep; simp [e, e2]]
        refine' ExsTo.cons (ExTo.ite (c := true) (TsTo.cast (TsTo.cmp (b1 := true) (b2 := true) (x := .int st) (y := lastD (some o)) (by walk_at "ev") (by walk_at "ev") (CmpP.neI _ _) (by with_unfolding_all rfl)) e2) (fun _ => ?_) (fun h => nomatch h)) ?_
        · exact [(Str.ofString "addr", .sh (.str x)), (Str.ofString "start", .sh (.int st)), (Str.ofString "open_pos", .sh (lastD (some o))), (Str.ofString "result", .own ((res ++ [Txt.slice x (some st) (some o)]).map .str)), (Str.ofString "pos", .sh (.int p.1)), (Str.ofString "ch", .sh (.str p.2))]
        · refine' ExsTo.cons (ExTo.append (xs := res.map .str) (d := .str (Txt.slice x (some st) (some o))) (by walk_at "mem") (by decide +kernel) (EvP.sliceS (b1 := true) (b2 := true) (by walk_at "ev") (by walk_at "ev") (by walk_at "ev") hxs (fun _ _ => rfl)) (by rw [map_snocS]; walk_at "upd") (by simpa using hl) (by rfl) (by rfl) (by rfl) (by rfl) (by rfl) (by rfl)) ExsTo.nil
        · refine' ExsTo.cons (ExTo.assign (d := .int (p.1 + 1)) (by walk_at "ev") (by walk_at "st") (by walk_at "upd") (by rfl)) ?_
          refine' ExsTo.cons (ExTo.assign (d := lastD none) EvP.cNone (by walk_at "st") (by walk_at "upd") (by rfl)) ExsTo.nil
      | false =>
        rw [show stripStep x (st, some o, res) p = (p.1 + 1, none, res) by unfold stripStep; simp [e, e2]]
        refine' ExsTo.cons (ExTo.ite (c := false) (TsTo.cast (TsTo.cmp (b1 := true) (b2 := true) (x := .int st) (y := lastD (some o)) (by walk_at "ev") (by walk_at "ev") (CmpP.neI _ _) (by with_unfolding_all rfl)) e2) (fun h => nomatch h) (fun _ => ExsTo.nil)) ?_
        refine' ExsTo.cons (ExTo.assign (d := .int (p.1 + 1)) (by walk_at "ev") (by walk_at "st") (by walk_at "upd") (by rfl)) ?_
        refine' ExsTo.cons (ExTo.assign (d := lastD none) EvP.cNone (by walk_at "st") (by walk_at "upd") (by rfl)) ExsTo.nil

set_option maxHeartbeats 1000000 in
theorem strip_call {G : Gx} {fa fa1 : Addr} {pm cd doc pm1 cd1 doc1 : Value} (H : Has G 2 fa pm cd doc) (H1 : Has G 1 fa1 pm1 cd1 doc1) (hen : GlobIs G (Str.ofString "enumerate") (.type "enumerate")) (hlen : GlobIs G (Str.ofString "len") (.builtin "len"))
    (x : Str) (hx : x.length ≤ 1000) (ha : strIterType x = "str_ascii_iterator") : CallTo G 3 fa [.str x] (.str (stripP x)) := by
  refine CallTo.of (H.at (names := [Str.ofString "addr"]) (by decide +kernel) (by decide +kernel) (by decide +kernel) (by decide +kernel) (fun vs h => by
    match vs, h with
    | [a], _ => rfl)) (by rfl) rfl fun L => ?_
  show ExsTo G 2 (envAt 2 pm cd doc L fa) [(Str.ofString "addr", .sh (.str x))] _ _
  have hxs : x.length ≤ sizeLine := Nat.le_trans hx (by decide +kernel)
  unfold stripP
  have tst : TsTo G 2 (envAt 2 pm cd doc L fa) [(Str.ofString "addr", .sh (.str x))] (ifIn (defAt 2).body 0).1 (!Txt.contains x dq) :=
    TsTo.cmp (b1 := true) (b2 := true) (by walk_at "ev") (by walk_at "ev") (CmpP.notInS x dq) (by with_unfolding_all rfl)
  cases e : (!Txt.contains x dq) with
  | true =>
    simp only [if_true]
    exact ExsTo.ret (ExTo.ite (c := true) (TsTo.cast tst e) (fun _ => ExsTo.ret (ExTo.return (by walk_at "ev"))) (fun h => nomatch h))
  | false =>
    simp only [Bool.false_eq_true, if_false]
    refine' ExsTo.cons (ExTo.ite (c := false) (TsTo.cast tst e) (fun h => nomatch h) (fun _ => ExsTo.nil)) ?_
    refine' ExsTo.cons (ExTo.assign (x := Str.ofString "start") (d := .int 0) EvP.cInt (by walk_at "st") (by walk_at "upd") (by rfl)) ?_
    refine' ExsTo.cons (ExTo.assign (x := Str.ofString "open_pos") (d := lastD none) EvP.cNone (by walk_at "st") (by walk_at "upd") (by rfl)) ?_
    refine' ExsTo.cons (ExTo.assignNew (x := Str.ofString "result") (xs := ([] : List Str).map .str) (EvNew.disp EvsTo.nil (by decide +kernel)) (by walk_at "st") (by walk_at "upd") (by rfl)) ?_
    obtain ⟨o, ho, hd⟩ := H1.obj
    have g1 := esc_gen H1 hen x ha
    rw [escP_map] at g1
    have hxl : x.cps.toList.length = x.length := by simp [Str.length]
    have hql := escQ_len x.cps.toList 0 false 0
    have esz : sizeLine = 16777216 := by decide +kernel
    have loop : ForG G 2 (envAt 2 pm cd doc L fa) stripL.1 stripL.2.2 (stripSig x (0, none, [])) ((escQ 0 false 0 x.cps.toList).map tupD) true (.next (stripSig x (stripEnd x))) := by
      refine ForG.foldl (stripSig x) tupD (stripStep x) (fun s l => s.2.2.length + l.length ≤ 2000 ∧ ∀ p ∈ s.2.2, p.length ≤ x.length) (fun s => by walk_at "nodup") (fun s a r hi => ?_) _ _ ⟨by simp; omega, by simp⟩
      refine ⟨stripSig2 x s a, stripSig2 x (stripStep x s a) a, TgtTo.pair (by walk_at "st") (by walk_at "upd") (by walk_at "st") (by walk_at "upd"), strip_turn x hx s a (by have := hi.1; simp at this; omega), by walk_at "sub", ?_⟩
      have h := stripFold x [a] s hi.2
      simp only [List.foldl_cons, List.foldl_nil, List.length_cons, List.length_nil] at h
      refine ⟨?_, h.2⟩
      have := hi.1
      simp only [List.length_cons] at this
      omega
    refine ExsTo.cons (ExTo.forGen (n := 1) (.tup _ _ _) (by rfl) (.inl H1.name) (by decide +kernel) ho hd (EvsTo.cons (by walk_at "ev") EvsTo.nil (by rfl)) g1 (by rfl) loop (fun _ => rfl)) ?_
    have tst2 : TsTo G 2 (envAt 2 pm cd doc L fa) (stripSig x (stripEnd x)) (ifIn (defAt 2).body 5).1 (decide ((stripEnd x).1 < (x.length : Int))) :=
      TsTo.cmp (b1 := true) (b2 := true) (by walk_at "ev") (EvP.built1 (b1 := true) (by rfl) hlen (by decide +kernel) (by walk_at "ev") (BuiltTo.lenS hxs) rfl (by rfl)) (CmpP.lt _ _) (by with_unfolding_all rfl)
    have hok := stripPcs_ok x hx
    have hsl : (stripEnd x).2.2.length ≤ sizeLine := by
      have h := (stripFold x (escQ 0 false 0 x.cps.toList) (0, none, []) (by simp)).1
      simp only [List.length_nil] at h
      unfold stripEnd
      omega
    refine ExsTo.cons (σ1 := [(Str.ofString "result", .own ((stripPcs x).map .str))]) ?_ (ExsTo.ret (ExTo.return (EvP.join (b1 := false) (EvP.nameOwn (by walk_at "mem") (by decide +kernel)) hok.1 hok.2 (by rfl) (by rfl) (by rfl))))
    unfold stripPcs
    by_cases h : (stripEnd x).1 < (x.length : Int)
    · simp only [h, if_true]
      have ed : decide ((stripEnd x).1 < (x.length : Int)) = true := by simpa using h
      refine ExTo.out (ExTo.ite (c := true) (o := .next [(Str.ofString "addr", .sh (.str x)), (Str.ofString "start", .sh (.int (stripEnd x).1)), (Str.ofString "open_pos", .sh (lastD (stripEnd x).2.1)), (Str.ofString "result", .own (((stripEnd x).2.2 ++ [Txt.slice x (some (stripEnd x).1) none]).map .str))]) (TsTo.cast tst2 ed) (fun _ => ?_) (fun h => nomatch h)) (by walk_at "sub") (by walk_at "nodup")
      refine' ExsTo.cons (ExTo.append (xs := (stripEnd x).2.2.map .str) (d := .str (Txt.slice x (some (stripEnd x).1) none)) (by walk_at "mem") (by decide +kernel) (EvP.fromS (b1 := true) (by walk_at "ev") (by walk_at "ev") hxs (fun _ _ => rfl)) (by rw [map_snocS]; walk_at "upd") (by simpa using hsl) (by rfl) (by rfl) (by rfl) (by rfl) (by rfl) (by rfl)) ExsTo.nil
    · simp only [h, if_false]
      have ed : decide ((stripEnd x).1 < (x.length : Int)) = false := by simpa using h
      exact ExTo.out (ExTo.ite (c := false) (TsTo.cast tst2 ed) (fun h => nomatch h) (fun _ => ExsTo.nil)) (by walk_at "sub") (by walk_at "nodup")




theorem GenTo.level {G : Gx} {n m : Nat} {f : Addr} {ds l : List PyData} {ended : Bool} (h : GenTo G n f ds l ended) (hm : n ≤ m) : GenTo G m f ds l ended := fun A hA av s vs k1 k2 k3 E =>
  wpAny_mono (h A (hA.le hm) av s vs k1 k2 k3 E) (fun v s' ⟨a, g, gs, h1, h2, h3, h4, h5, h6, h7⟩ => ⟨a, g, gs, h1, h2, h3, h4, h5, h6, fun A' hA' => h7 A' (hA'.le hm)⟩) fun _ _ x => x
theorem slice_mem {x : Str} {l u : Option Int} {c : Nat} (h : c ∈ (Txt.slice x l u).cps.toList) : c ∈ x.cps.toList := by
  unfold Txt.slice at h
  split at h
  · exact h
  · simp only [List.mem_filterMap] at h
    obtain ⟨i, _, e⟩ := h
    exact Array.mem_toList_iff.mpr (Array.mem_of_getElem? e)
theorem gl_mem {ss : List Str} {c : Nat} (h : c ∈ (gl ss).cps.toList) : ∃ p ∈ ss, c ∈ p.cps.toList := by
  unfold gl at h
  simp only [List.mem_flatten, List.mem_map] at h
  obtain ⟨l, ⟨p, hp, rfl⟩, hc⟩ := h
  exact ⟨p, hp, hc⟩
theorem stripFold_mem (x : Str) : ∀ (l : List (Int × Str)) (s : StripS), (∀ p ∈ s.2.2, ∀ c ∈ p.cps.toList, c ∈ x.cps.toList) → ∀ p ∈ (l.foldl (stripStep x) s).2.2, ∀ c ∈ p.cps.toList, c ∈ x.cps.toList
  | [], s, h => h
  | a :: r, s, h => by
    refine stripFold_mem x r _ ?_
    unfold stripStep
    split
    · split
      · exact h
      · dsimp only
        split
        · intro p hp
          rcases List.mem_append.mp hp with hp | hp
          · exact h p hp
          · simp at hp; subst hp; exact fun c hc => slice_mem hc
        · exact h
    · exact h
theorem stripP_mem {x : Str} {c : Nat} (h : c ∈ (stripP x).cps.toList) : c ∈ x.cps.toList := by
  unfold stripP at h
  split at h
  · exact h
  · obtain ⟨p, hp, hc⟩ := gl_mem h
    have key := stripFold_mem x (escQ 0 false 0 x.cps.toList) (0, none, []) (by simp)
    unfold stripPcs at hp
    split at hp
    · rcases List.mem_append.mp hp with hp | hp
      · exact key p hp c hc
      · simp at hp; subst hp; exact slice_mem hc
    · exact key p hp c hc
theorem ascii_iff {x : Str} : strIterType x = "str_ascii_iterator" ↔ ∀ c ∈ x.cps.toList, c < 128 := by
  unfold strIterType
  constructor
  · intro h
    split at h
    · rename_i e
      intro c hc
      rw [Array.all_eq_true'] at e
      simpa using e c (Array.mem_toList_iff.mp hc)
    · exact absurd h (by decide)
  · intro h
    rw [if_pos]
    rw [Array.all_eq_true']
    intro c hc
    simpa using h c (Array.mem_toList_iff.mpr hc)

noncomputable def lp : Str := Str.ofString "("
noncomputable def rp : Str := Str.ofString ")"
noncomputable def checkStep (o : Int) (p : Int × Str) : Except PyData Int :=
  if p.2 == lp then .ok (o + 1) else if p.2 == rp then (if o - 1 < 0 then .error (.bool false) else .ok (o - 1)) else .ok o
noncomputable def checkR (x : Str) : Except PyData Int := foldO checkStep 0 (escQ 0 false 0 (stripP x).cps.toList)
noncomputable def checkP (x : Str) : Bool := match checkR x with
  | .ok o => o == 0
  | .error _ => false
theorem checkFold_err : ∀ {l : List (Int × Str)} {o : Int} {d : PyData}, foldO checkStep o l = .error d → d = .bool false
  | [], o, d, h => by simp [foldO] at h
  | a :: r, o, d, h => by
    unfold foldO at h
    unfold checkStep at h
    split at h
    · exact checkFold_err h
    · rename_i e
      split at e
      · cases e
      · split at e
        · split at e
          · rename_i hd _ _ _ _; cases e; cases h; rfl
          · cases e
        · cases e

noncomputable abbrev checkSig (x : Str) (o : Int) : Sig := [(Str.ofString "addr", .sh (.str x)), (Str.ofString "opens", .sh (.int o))]
noncomputable abbrev checkSig2 (x : Str) (o : Int) (p : Int × Str) : Sig := [(Str.ofString "addr", .sh (.str x)), (Str.ofString "opens", .sh (.int o)), (Str.ofString "pos", .sh (.int p.1)), (Str.ofString "ch", .sh (.str p.2))]
noncomputable abbrev checkL := loopIn (defAt 3).body 2

set_option maxHeartbeats 1000000 in
theorem check_call {G : Gx} {fa fa1 fa2 : Addr} {pm cd doc pm1 cd1 doc1 pm2 cd2 doc2 : Value} (H : Has G 3 fa pm cd doc) (H1 : Has G 1 fa1 pm1 cd1 doc1) (H2 : Has G 2 fa2 pm2 cd2 doc2) (hen : GlobIs G (Str.ofString "enumerate") (.type "enumerate")) (hlen : GlobIs G (Str.ofString "len") (.builtin "len"))
    (x : Str) (hx : x.length ≤ 1000) (ha : strIterType x = "str_ascii_iterator") : CallTo G 4 fa [.str x] (.bool (checkP x)) := by
  refine CallTo.of (H.at (names := [Str.ofString "addr"]) (by decide +kernel) (by decide +kernel) (by decide +kernel) (by decide +kernel) (fun vs h => by
    match vs, h with
    | [a], _ => rfl)) (by rfl) rfl fun L => ?_
  show ExsTo G 3 (envAt 3 pm cd doc L fa) [(Str.ofString "addr", .sh (.str x))] _ _
  obtain ⟨o2, ho2, hd2⟩ := H2.obj
  refine' ExsTo.cons (ExTo.assign (x := Str.ofString "addr") (d := .str (stripP x)) (EvP.call (by rfl) (.inl H2.name) (by decide +kernel) ho2 hd2 (EvsTo.cons (by walk_at "ev") EvsTo.nil (by rfl)) (strip_call H2 H1 hen hlen x hx ha) (by rfl)) (by walk_at "st") (by walk_at "upd") (by rfl)) ?_
  refine' ExsTo.cons (ExTo.assign (x := Str.ofString "opens") (d := .int 0) EvP.cInt (by walk_at "st") (by walk_at "upd") (by rfl)) ?_
  obtain ⟨o, ho, hd⟩ := H1.obj
  have ha' : strIterType (stripP x) = "str_ascii_iterator" := ascii_iff.mpr fun c hc => ascii_iff.mp ha c (stripP_mem hc)
  have g1 := esc_gen H1 hen (stripP x) ha'
  rw [escP_map] at g1
  have g1' : GenTo G 3 fa1 [PyData.str (stripP x)] (List.map tupD (escQ 0 false 0 (stripP x).cps.toList)) true := GenTo.level g1 (by omega)
  have loop : ForG G 3 (envAt 3 pm cd doc L fa) checkL.1 checkL.2.2 (checkSig (stripP x) 0) ((escQ 0 false 0 (stripP x).cps.toList).map tupD) true (outOf (checkSig (stripP x)) (checkR x)) := by
    refine ForG.fold (checkSig (stripP x)) tupD checkStep (fun _ _ => True) (fun s => by walk_at "nodup") (fun s a r _ => ?_) _ _ trivial
    refine ⟨checkSig2 (stripP x) s a, TgtTo.pair (by walk_at "st") (by walk_at "upd") (by walk_at "st") (by walk_at "upd"), ?_⟩
    cases e1 : a.2 == lp with
    | true =>
      rw [show checkStep s a = .ok (s + 1) by unfold checkStep; simp [e1]]
      refine ⟨checkSig2 (stripP x) (s + 1) a, ?_, by walk_at "sub", trivial⟩
      refine' ExsTo.cons (ExTo.ite (c := true) (TsTo.cast (by walk_at "ev") e1) (fun _ => ?_) (fun h => nomatch h)) ExsTo.nil
      refine' ExsTo.cons (ExTo.aug (by walk_at "mem") (by walk_at "ev") (.inl rfl) (BinP.addI _ _) (by walk_at "st") (by walk_at "upd") (by decide +kernel)) ExsTo.nil
    | false =>
      cases e2 : a.2 == rp with
      | false =>
        rw [show checkStep s a = .ok s by unfold checkStep; simp [e1, e2]]
        refine ⟨checkSig2 (stripP x) s a, ?_, by walk_at "sub", trivial⟩
        refine' ExsTo.cons (ExTo.ite (c := false) (TsTo.cast (by walk_at "ev") e1) (fun h => nomatch h) (fun _ => ?_)) ExsTo.nil
        refine' ExsTo.cons (ExTo.ite (c := false) (TsTo.cast (by walk_at "ev") e2) (fun h => nomatch h) (fun _ => ExsTo.nil)) ExsTo.nil
      | true =>
        by_cases h : s - 1 < 0
        · rw [show checkStep s a = .error (.bool false) by unfold checkStep; simp only [e1, e2, h, Bool.false_eq_true, if_true, if_false]]
          have ed : decide (s - 1 < 0) = true := by simpa using h
          refine' ExsTo.ret (ExTo.ite (c := false) (TsTo.cast (by walk_at "ev") e1) (fun h => nomatch h) (fun _ => ?_))
          refine' ExsTo.ret (ExTo.ite (c := true) (TsTo.cast (by walk_at "ev") e2) (fun _ => ?_) (fun h => nomatch h))
          refine' ExsTo.cons (ExTo.aug (by walk_at "mem") (by walk_at "ev") (.inr rfl) (BinP.subI _ _) (by walk_at "st") (by walk_at "upd") (by decide +kernel)) ?_
          exact ExsTo.ret (ExTo.ite (c := true) (TsTo.cast (by walk_at "ev") ed) (fun _ => ExsTo.ret (ExTo.return (by walk_at "ev"))) (fun h => nomatch h))
        · rw [show checkStep s a = .ok (s - 1) by unfold checkStep; simp only [e1, e2, h, Bool.false_eq_true, if_true, if_false]]
          have ed : decide (s - 1 < 0) = false := by simpa using h
          refine ⟨checkSig2 (stripP x) (s - 1) a, ?_, by walk_at "sub", trivial⟩
          refine' ExsTo.cons (ExTo.ite (c := false) (TsTo.cast (by walk_at "ev") e1) (fun h => nomatch h) (fun _ => ?_)) ExsTo.nil
          refine' ExsTo.cons (ExTo.ite (c := true) (TsTo.cast (by walk_at "ev") e2) (fun _ => ?_) (fun h => nomatch h)) ExsTo.nil
          refine' ExsTo.cons (ExTo.aug (by walk_at "mem") (by walk_at "ev") (.inr rfl) (BinP.subI _ _) (by walk_at "st") (by walk_at "upd") (by decide +kernel)) ?_
          refine' ExsTo.cons (ExTo.ite (c := false) (TsTo.cast (by walk_at "ev") ed) (fun h => nomatch h) (fun _ => ExsTo.nil)) ExsTo.nil
  unfold checkP
  cases e : checkR x with
  | ok s =>
    rw [e] at loop
    refine ExsTo.cons (ExTo.forGen (n := 2) (.tup _ _ _) (by rfl) (.inl H1.name) (by decide +kernel) ho hd (EvsTo.cons (by walk_at "ev") EvsTo.nil (by rfl)) g1' (by rfl) loop (fun _ => rfl)) ?_
    exact ExsTo.ret (ExTo.return (by walk_at "ev"))
  | error d =>
    rw [e] at loop
    have := checkFold_err e
    subst this
    exact ExsTo.ret (ExTo.forGen (n := 2) (.tup _ _ _) (by rfl) (.inl H1.name) (by decide +kernel) ho hd (EvsTo.cons (by walk_at "ev") EvsTo.nil (by rfl)) g1' (by rfl) loop (fun _ => rfl))


section
variable {G : Gx} {n : Nat} {cenv : Env} {σ : Sig} {α : Type}

/-- a comprehension's innermost clause, item by item -/
theorem CompAt.each {elt0 : Expr} {gens : List Comprehension} {sc : Scope} {ep : Pos} {depth : Nat} {elt tgt iter : Expr} {ifs : List Expr} (toD : α → PyData) (σ1 : α → Sig) (c : α → Bool) (f : α → PyData)
    (heq : ∀ it acc, compTurn (.ListComp elt0 gens sc ep) depth it acc cenv = lastBody (.ListComp elt0 gens sc ep) depth elt tgt iter ifs it acc cenv) :
    ∀ (l : List α), (∀ a ∈ l, CTgt G cenv σ tgt (toD a) (σ1 a)) → (∀ a ∈ l, ∀ p ∈ σ, p ∈ σ1 a) → (∀ a ∈ l, CTests G n cenv (σ1 a) ifs (c a)) → (∀ a ∈ l, c a = true → EvTo G n cenv (σ1 a) elt (f a)) →
      CompAt G n cenv (.ListComp elt0 gens sc ep) depth tgt σ (l.map toD) ((l.filter c).map f)
  | [], _, _, _, _ => CompAt.nil heq
  | a :: r, h1, h2, h3, h4 => by
    have ih := CompAt.each toD σ1 c f heq r (fun b hb => h1 b (by simp [hb])) (fun b hb => h2 b (by simp [hb])) (fun b hb => h3 b (by simp [hb])) (fun b hb => h4 b (by simp [hb]))
    rw [List.map_cons, List.filter_cons]
    have e : ((if c a = true then a :: List.filter c r else List.filter c r).map f) = (if c a = true then [f a] else []) ++ (r.filter c).map f := by split <;> simp
    rw [e]
    exact CompAt.turn heq (h1 a (by simp)) (h2 a (by simp)) (h3 a (by simp)) (fun hc => ⟨f a, by rw [if_pos hc], h4 a (by simp) hc⟩) (fun hc => by rw [hc]; rfl) ih

/-- an outer clause, item by item -/
theorem CompAt.eachOut {elt0 : Expr} {gens : List Comprehension} {sc : Scope} {ep : Pos} {depth : Nat} {tgt iter target' iter' : Expr} {ifs' : List Expr} {g' : Comprehension} (toD : α → PyData) (σ1 : α → Sig) (l' add : α → List PyData)
    (heq : ∀ it acc, compTurn (.ListComp elt0 gens sc ep) depth it acc cenv = outBody (.ListComp elt0 gens sc ep) depth tgt iter target' iter' ifs' it acc cenv) (hs : ∀ x, foldedSetIterable iter' cenv x = pure x)
    (hg : gens[depth + 1]? = some g') (hga : g'.is_async = 0) :
    ∀ (l : List α), (∀ a ∈ l, CTgt G cenv σ tgt (toD a) (σ1 a)) → (∀ a ∈ l, ∀ p ∈ σ, p ∈ σ1 a) → (∀ a ∈ l, IterTo G n cenv (σ1 a) target' iter' (l' a) true) →
      (∀ a ∈ l, CompAt G n cenv (.ListComp elt0 gens sc ep) (depth + 1) target' (σ1 a) (l' a) (add a)) → CompAt G n cenv (.ListComp elt0 gens sc ep) depth tgt σ (l.map toD) (l.flatMap add)
  | [], _, _, _, _ => CompAt.outNil heq hs
  | a :: r, h1, h2, h3, h4 => by
    have ih := CompAt.eachOut toD σ1 l' add heq hs hg hga r (fun b hb => h1 b (by simp [hb])) (fun b hb => h2 b (by simp [hb])) (fun b hb => h3 b (by simp [hb])) (fun b hb => h4 b (by simp [hb]))
    rw [List.map_cons, List.flatMap_cons]
    exact CompAt.outTurn heq hs hg hga (h1 a (by simp)) (h2 a (by simp)) (h3 a (by simp)) (h4 a (by simp)) ih
end

/-- intsD from a up to b -/
noncomputable def rangeI (a b : Int) : List Int := upFrom a (b - a).toNat
theorem upFrom_mem : ∀ {n : Nat} {a x : Int}, x ∈ upFrom a n → a ≤ x ∧ x < a + n
  | 0, a, x, h => by simp [upFrom] at h
  | n + 1, a, x, h => by
    simp only [upFrom, List.mem_cons] at h
    rcases h with rfl | h
    · omega
    · have := upFrom_mem h; omega
theorem rangeI_mem {a b x : Int} (h : x ∈ rangeI a b) : a ≤ x ∧ x < b := by
  have := upFrom_mem h
  omega
noncomputable abbrev intsD (ns : List Int) : PyData := .list (ns.map .int)




/-- the j-th statement of a row, taken as a store of a comprehension -/
noncomputable def valIn (b : List Stmt) (j : Nat) : Expr :=
  match b[j]? with
  | some (.Assign _ v _) => v
  | some (.Return (some v) _) => v
  | some (.Expr v _) => v
  | _ => .Name Str.empty ⟨0, 0, 0, 0⟩

noncomputable def scopeOk (i : Nat) (scope : Scope) : Bool :=
  decide (scope.kind = .function) && (scope.names.all fun y => y.2 != .cell && (y.2 != .local || decide (scope.names.lookup y.1 = some .local)) && (y.2 != .free || decide ((defAt i).scope.names.lookup y.1 = some .cell)))
noncomputable def freesOk (i : Nat) (scope : Scope) (xs : List Str) : Bool :=
  decide xs.Nodup && xs.all fun x => decide (scope.names.lookup x = some .free) && decide ((defAt i).scope.names.lookup x = some .cell)
noncomputable def AllSh (σ : Sig) : Prop := ∀ p ∈ σ, ∃ d, p.2 = .sh d
theorem allSh_nil : AllSh [] := fun p hp => by cases hp
theorem allSh_cons {x : Str} {d : PyData} {σ : Sig} (h : AllSh σ) : AllSh ((x, .sh d) :: σ) := fun p hp => by
  rcases List.mem_cons.mp hp with rfl | hp
  · exact ⟨d, rfl⟩
  · exact h p hp
theorem comp_ok {i : Nat} {pm cd doc : Value} {L fa : Addr} {scope : Scope} {σ σf : Sig} (h1 : scopeOk i scope = true) (h2 : ∀ p ∈ σf, p ∈ σ) (h3 : AllSh σf) (h4 : freesOk i scope (σf.map Prod.fst) = true) : CompOk (envAt i pm cd doc L fa) scope σ σf := by
  unfold scopeOk at h1
  unfold freesOk at h4
  simp only [Bool.and_eq_true, decide_eq_true_eq, List.all_eq_true, Bool.or_eq_true, bne_iff_ne, ne_eq] at h1 h4
  refine ⟨h1.1, fun y hy => (h1.2 y hy).1.1, fun y hy hl => ?_, fun p hp hf => ?_, fun p hp => ?_, h4.1⟩
  · rcases (h1.2 y hy).1.2 with h | h
    · exact absurd hl h
    · exact h
  · rcases (h1.2 p hp).2 with h | h
    · exact absurd hf h
    · exact cell_at h
  · have := h4.2 p.1 (List.mem_map_of_mem hp)
    refine ⟨h2 p hp, h3 p hp, this.1, fun k => ?_⟩
    have e : (defAt i).scope.names.lookup p.1 = some .local := k
    rw [this.2] at e; cases e

noncomputable def choicesStep (l : List (List Int)) : List (List Int) := l.flatMap fun ch => (rangeI (ch.getLastD 0 + 1) 7).map fun p => ch ++ [p]
noncomputable def choicesN : Nat → List (List Int)
  | 0 => [[]]
  | n + 1 => choicesStep (choicesN n)

noncomputable abbrev choicesL := loopIn (defAt 10).body 1
noncomputable abbrev chSig (many : Int) (l : List (List Int)) : Sig := [(Str.ofString "many", .sh (.int many)), (Str.ofString "choices", .sh (.list (l.map intsD)))]
noncomputable abbrev chSig2 (many : Int) (l : List (List Int)) (t : Int) : Sig := [(Str.ofString "many", .sh (.int many)), (Str.ofString "choices", .sh (.list (l.map intsD))), (Str.ofString "turn", .sh (.int t))]

theorem choices_facts (k : Nat) (hk : k ≤ 2) : (choicesN k).length ≤ 100 ∧ (∀ ch ∈ choicesN k, ch.length ≤ 10 ∧ 0 ≤ ch.getLastD 0 ∧ ch.getLastD 0 ≤ 6) ∧ (choicesN (k + 1)).length ≤ 1000 := by
  have : k = 0 ∨ k = 1 ∨ k = 2 := by omega
  rcases this with rfl | rfl | rfl <;> decide +kernel

theorem last_ix (ch : List Int) : ([PyData.int 0] ++ ch.map PyData.int)[((-1 : Int) + ([PyData.int 0] ++ ch.map PyData.int).length).toNat]? = some (.int (ch.getLastD 0)) := by
  have e : ((-1 : Int) + ([PyData.int 0] ++ ch.map PyData.int).length).toNat = ch.length := by simp; omega
  rw [e]
  have key : ∀ (ch : List Int) (x : Int), ((x :: ch).map PyData.int)[ch.length]? = some (.int (ch.getLastD x)) := by
    intro ch
    induction ch with
    | nil => intro x; rfl
    | cons a r ih => intro x; rw [List.map_cons, List.length_cons, List.getElem?_cons_succ, ih, List.getLastD_cons]
  exact key ch 0

set_option maxHeartbeats 1000000 in
theorem choices_comp {G : Gx} {n : Nat} {fa L : Addr} {pm cd doc : Value} (hr : GlobIs G (Str.ofString "range") (.type "range")) (many t : Int) (k : Nat) (hk : k ≤ 2) :
    ExsTo G n (envAt 10 pm cd doc L fa) (chSig2 many (choicesN k) t) choicesL.2.2 (.next (chSig2 many (choicesN (k + 1)) t)) := by
  obtain ⟨f1, f2, f3⟩ := choices_facts k hk
  have esz : sizeLine = 16777216 := by decide +kernel
  refine ExsTo.cons (ExTo.assignComp (σf := []) (out := (choicesN (k + 1)).map intsD) (l := (choicesN k).map intsD) (comp_ok (by decide +kernel) (by simp) allSh_nil (by decide +kernel)) (IterTo.list (.name _ _) (by walk_at "ev")) (fun C => ?_) (by simp; omega) (fun _ => rfl) (by rfl) (by walk_at "st") (by walk_at "upd")) ExsTo.nil
  have e : (choicesN (k + 1)).map intsD = (choicesN k).flatMap fun ch => ((rangeI (ch.getLastD 0 + 1) 7).filter fun _ => true).map fun p => intsD (ch ++ [p]) := by
    show (choicesStep _).map _ = _
    unfold choicesStep
    rw [List.map_flatMap]
    congr 1
    funext ch
    rw [List.filter_eq_self.mpr (fun _ _ => rfl), List.map_map]
    rfl
  rw [e]
  refine CompAt.eachOut intsD (fun ch => [(Str.ofString "choice", .sh (intsD ch))]) (fun ch => (rangeI (ch.getLastD 0 + 1) 7).map .int) _ (fun _ _ => compTurn_two0 ..) (fun _ => rfl) rfl rfl _ (fun ch _ => CTgt.name (by rfl) Upd.new) (fun _ _ p hp => by cases hp) (fun ch hc => ?_) (fun ch hc => ?_)
  · obtain ⟨g1, g2, g3⟩ := f2 ch hc
    refine IterTo.range2 (.name _ _) (by rfl) hr (EvP.bin (EvP.itemNeg (b1 := true) (xs := [PyData.int 0] ++ ch.map PyData.int) (EvP.bin (EvP.disp (EvsTo.cons EvP.cInt EvsTo.nil (by rfl)) (by rw [esz]; simp)) (by walk_at "ev") (BinP.addL _ _ (by rw [esz]; simp; omega))) (EvP.neg EvP.cInt) (by omega) (by simp; omega) (by omega) (last_ix ch) (fun _ _ => rfl)) EvP.cInt (BinP.addI _ _)) EvP.cInt (by omega) (by omega) (by omega) (by omega) (by rfl) (by rfl)
  · obtain ⟨g1, g2, g3⟩ := f2 ch hc
    refine CompAt.each PyData.int (fun p => [(Str.ofString "choice", .sh (intsD ch)), (Str.ofString "place", .sh (.int p))]) (fun _ => true) (fun p => intsD (ch ++ [p])) (fun _ _ => compTurn_two1 ..) _ (fun p _ => CTgt.name (by rfl) (by walk_at "upd")) (fun _ _ => by walk_at "sub") (fun _ _ => CTests.none) (fun p _ _ => ?_)
    have e2 : intsD (ch ++ [p]) = .list (ch.map .int ++ [.int p]) := by simp
    rw [e2]
    refine EvP.bin (by walk_at "ev") (EvP.disp (EvsTo.cons (by walk_at "ev") EvsTo.nil (by rfl)) (by rw [esz]; simp)) (BinP.addL _ _ (by rw [esz]; simp; omega))

theorem upFrom_len : ∀ (n : Nat) (a : Int), (upFrom a n).length = n
  | 0, a => rfl
  | n + 1, a => by simp [upFrom, upFrom_len n]

set_option maxHeartbeats 1000000 in
theorem choices_call {G : Gx} {fa : Addr} {pm cd doc : Value} (H : Has G 10 fa pm cd doc) (hr : GlobIs G (Str.ofString "range") (.type "range")) (many : Nat) (hm : many ≤ 3) : CallTo G 1 fa [.int many] (.list ((choicesN many).map intsD)) := by
  refine CallTo.of (H.at (names := [Str.ofString "many"]) (by decide +kernel) (by decide +kernel) (by decide +kernel) (by decide +kernel) (fun vs h => by
    match vs, h with
    | [a], _ => rfl)) (by rfl) rfl fun L => ?_
  show ExsTo G 0 (envAt 10 pm cd doc L fa) [(Str.ofString "many", .sh (.int many))] _ _
  have esz : sizeLine = 16777216 := by decide +kernel
  refine' ExsTo.cons (ExTo.assign (x := Str.ofString "choices") (d := .list ((choicesN 0).map intsD)) (EvP.disp (EvsTo.cons (EvP.disp EvsTo.nil (by decide +kernel)) EvsTo.nil (by rfl)) (by decide +kernel)) (by walk_at "st") (by walk_at "upd") (by rfl)) ?_
  have loop : ForAt G 0 (envAt 10 pm cd doc L fa) choicesL.1 choicesL.2.2 (chSig many (choicesN 0)) ((upFrom 0 many).map .int) true (.next (chSig many (choicesN many))) := by
    have key := ForAt.foldl (G := G) (n := 0) (env := envAt 10 pm cd doc L fa) (tgt := choicesL.1) (body := choicesL.2.2) (S := Nat) (fun k => chSig many (choicesN k)) PyData.int (fun k _ => k + 1) (fun k l => k + l.length ≤ 3) (fun k => by walk_at "nodup") (fun k a r hi => by
      simp only [List.length_cons] at hi
      exact ⟨chSig2 many (choicesN k) a, chSig2 many (choicesN (k + 1)) a, TgtTo.name (by walk_at "st") (by walk_at "upd"), choices_comp hr many a k (by omega), by walk_at "sub", by omega⟩) (upFrom 0 many) 0 (by rw [upFrom_len]; omega)
    have e : ∀ (l : List Int) (k : Nat), l.foldl (fun k _ => k + 1) k = k + l.length := by
      intro l
      induction l with
      | nil => intro k; rfl
      | cons a r ih => intro k; rw [List.foldl_cons, ih]; simp; omega
    rw [e, upFrom_len, Nat.zero_add] at key
    exact key
  have e2 : ((many : Int)).toNat = many := by omega
  have it := IterTo.range1 (G := G) (n := 0) (env := envAt 10 pm cd doc L fa) (σ := chSig many (choicesN 0)) (tgt := choicesL.1) (np := ⟨83, 16, 83, 21⟩) (pos := ⟨83, 16, 83, 27⟩) (e := .Name (Str.ofString "many") ⟨83, 22, 83, 26⟩) (c := many) (.name _ _) (by rfl) hr (by walk_at "ev") (by omega) (by omega) (by rfl)
  rw [e2] at it
  exact ExsTo.cons (ExTo.for it loop (fun _ => rfl)) (ExsTo.ret (ExTo.return (by walk_at "ev")))
local macro_rules | `(tactic| walk_at "frees") => `(tactic| (simp only [List.map_cons, List.map_nil]; decide +kernel))
local macro_rules | `(tactic| walk_at "shs") => `(tactic| repeat (first | exact allSh_nil | refine allSh_cons ?_))




noncomputable def inI (p : Int) (ns : List Int) : Bool := ns.any (· == p)
theorem lay_ints : ∀ (ns : List Int), PyData.canLayAll0 (ns.map .int) = true
  | [] => rfl
  | a :: r => by simp [PyData.canLayAll0, PyData.canLay0, lay_ints r]
theorem any_ints (p : Int) (ns : List Int) : ((ns.map PyData.int).any fun y => PyData.eqv y (.int p)) = inI p ns := by
  rw [List.any_map]; rfl
theorem CmpP.inInts (p : Int) (ns : List Int) : CmpP .In (.int p) (intsD ns) (inI p ns) := by
  rw [← any_ints]; exact CmpP.inL _ _ (lay_ints ns) rfl (by simp [PyData.depth])
theorem CmpP.notInInts (p : Int) (ns : List Int) : CmpP .NotIn (.int p) (intsD ns) (!inI p ns) := by
  rw [← any_ints]; exact CmpP.notInL _ _ (lay_ints ns) rfl (by simp [PyData.depth])

noncomputable def es : Str := Str.ofString ""
noncomputable def pcT (opens shuts : List Int) (hidden : Str) (p : Int) : Str :=
  ((if inI p opens then lp else es) ++ (if p == 3 then hidden else es)) ++ (if inI p shuts then rp else es)
noncomputable def pcsT (opens shuts : List Int) (hidden : Str) : List Str := ((rangeI 1 7).filter fun _ => true).map (pcT opens shuts hidden)
noncomputable def textP (opens shuts : List Int) (hidden : Str) : Str := gl (pcsT opens shuts hidden)

theorem sapp_len (x y : Str) : (x ++ y).length = x.length + y.length := by
  show (x.cps ++ y.cps).size = _
  rw [Array.size_append]; rfl
theorem small_len : lp.length = 1 ∧ rp.length = 1 ∧ es.length = 0 := by decide +kernel
theorem pcT_len (opens shuts : List Int) (hidden : Str) (p : Int) : (pcT opens shuts hidden p).length ≤ hidden.length + 2 := by
  obtain ⟨h1, h2, h3⟩ := small_len
  unfold pcT
  rw [sapp_len, sapp_len]
  have a1 : (if inI p opens then lp else es).length ≤ 1 := by split <;> omega
  have a2 : (if p == 3 then hidden else es).length ≤ hidden.length := by split <;> omega
  have a3 : (if inI p shuts then rp else es).length ≤ 1 := by split <;> omega
  omega
theorem textP_ok (opens shuts : List Int) (hidden : Str) (hh : hidden.length ≤ 100) : (textP opens shuts hidden).length ≤ 1000 ∧ Builtin.Str.tooLong ((pcsT opens shuts hidden).toArray.foldl (· + ·.length + (Str.ofString "").length) 0) = false := by
  have hl : (pcsT opens shuts hidden).length = 6 := by unfold pcsT; rw [List.length_map]; decide +kernel
  have hs := sum_le (hidden.length + 2) (pcsT opens shuts hidden) (fun p hp => by
    unfold pcsT at hp
    obtain ⟨q, _, rfl⟩ := List.mem_map.mp hp
    exact pcT_len opens shuts hidden q)
  rw [hl] at hs
  have e : sizeLine = 16777216 := by decide +kernel
  refine ⟨by unfold textP; rw [gl_len]; omega, ?_⟩
  rw [List.foldl_toArray, fold_len]
  unfold Builtin.Str.tooLong
  rw [e]
  simp
  omega

noncomputable abbrev txtSig (opens shuts : List Int) (hidden : Str) : Sig := [(Str.ofString "opens", .sh (intsD opens)), (Str.ofString "shuts", .sh (intsD shuts)), (Str.ofString "hidden", .sh (.str hidden))]
noncomputable abbrev txtSig2 (opens shuts : List Int) (hidden : Str) (p : Int) : Sig := [(Str.ofString "opens", .sh (intsD opens)), (Str.ofString "shuts", .sh (intsD shuts)), (Str.ofString "hidden", .sh (.str hidden)), (Str.ofString "place", .sh (.int p))]

set_option maxHeartbeats 1000000 in
theorem text_call {G : Gx} {fa : Addr} {pm cd doc : Value} (H : Has G 11 fa pm cd doc) (hr : GlobIs G (Str.ofString "range") (.type "range")) (opens shuts : List Int) (hidden : Str) (hh : hidden.length ≤ 100) :
    CallTo G 1 fa [intsD opens, intsD shuts, .str hidden] (.str (textP opens shuts hidden)) := by
  refine CallTo.of (H.at (names := [Str.ofString "opens", Str.ofString "shuts", Str.ofString "hidden"]) (by decide +kernel) (by decide +kernel) (by decide +kernel) (by decide +kernel) (fun vs h => by
    match vs, h with
    | [a, b, c], _ => rfl)) (by rfl) rfl fun L => ?_
  show ExsTo G 0 (envAt 11 pm cd doc L fa) (txtSig opens shuts hidden) _ _
  have hok := textP_ok opens shuts hidden hh
  have esz : sizeLine = 16777216 := by decide +kernel
  obtain ⟨l1, l2, l3⟩ := small_len
  refine ExsTo.ret (ExTo.return (EvP.join (b1 := true) (ss := pcsT opens shuts hidden) (EvNew.ev (EvNew.comp (σf := txtSig opens shuts hidden) (l := (rangeI 1 7).map .int) (comp_ok (by decide +kernel) (fun _ h => h) (by walk_at "shs") (by walk_at "frees"))
    (IterTo.range2 (.name _ _) (by rfl) hr EvP.cInt EvP.cInt (by omega) (by omega) (by omega) (by omega) (by rfl) (by rfl)) (fun C => ?_) ?_ (fun _ => rfl))) (by rw [esz]; have := hok.1; unfold textP at this; omega) hok.2 (by rfl) (by rfl) (by rfl)))
  · unfold pcsT
    rw [List.map_map]
    refine CompAt.each PyData.int (txtSig2 opens shuts hidden) (fun _ => true) _ (fun _ _ => compTurn_one ..) _ (fun p _ => CTgt.name (by rfl) (by walk_at "upd")) (fun _ _ => by walk_at "sub") (fun _ _ => CTests.none) (fun p _ _ => ?_)
    show EvTo _ _ _ _ _ (.str (((if inI p opens then lp else es) ++ (if p == 3 then hidden else es)) ++ (if inI p shuts then rp else es)))
    have a1 : (if inI p opens then lp else es).length ≤ 1 := by split <;> omega
    have a2 : (if p == 3 then hidden else es).length ≤ hidden.length := by split <;> omega
    have a3 : (if inI p shuts then rp else es).length ≤ 1 := by split <;> omega
    refine EvP.bin (EvP.bin (EvP.ifExp (c := inI p opens) (TsTo.cmp (b1 := true) (b2 := true) (by walk_at "ev") (by walk_at "ev") (CmpP.inInts p opens) (by with_unfolding_all rfl)) (fun h => ?_) (fun h => ?_)) (EvP.ifExp (c := p == 3) (by walk_at "ev") (fun h => ?_) (fun h => ?_)) (BinP.addS _ _ (by rw [esz]; omega))) (EvP.ifExp (c := inI p shuts) (TsTo.cmp (b1 := true) (b2 := true) (by walk_at "ev") (by walk_at "ev") (CmpP.inInts p shuts) (by with_unfolding_all rfl)) (fun h => ?_) (fun h => ?_)) (BinP.addS _ _ (by rw [esz, sapp_len]; omega))
    all_goals (rw [h]; first | exact EvP.cStr | (simp only [if_true]; walk_at "ev"))
  · rw [List.length_map]
    unfold pcsT
    rw [List.length_map]
    decide +kernel




theorem bits_small {a : Int} (h : a.natAbs < 2 ^ 63) : Builtin.Int.intBits a ≤ 64 := by
  unfold Builtin.Int.intBits
  split
  · omega
  · rename_i h0
    have h1 : a.natAbs ≠ 0 := by simpa using h0
    have : a.natAbs.log2 < 63 := (Nat.log2_lt h1).mpr h
    omega
theorem noPy {a b : Int} (h : b.natAbs < 2 ^ 63) : Builtin.divisionGoesByPylong a b = false := by
  unfold Builtin.divisionGoesByPylong
  have : (if (b == 0) = true then 0 else b.natAbs.log2 / 30 + 1) ≤ 300 := by
    split
    · omega
    · rename_i h0
      have h1 : b.natAbs ≠ 0 := by simpa using h0
      have : b.natAbs.log2 < 63 := (Nat.log2_lt h1).mpr h
      omega
  simp only [Bool.and_eq_false_iff, decide_eq_false_iff_not]
  left
  omega
theorem ix_int {l : List Int} {i : Int} (h : i.toNat < l.length) : (l.map PyData.int)[i.toNat]? = some (.int (l.getD i.toNat 0)) := by
  rw [List.getElem?_map, List.getElem?_eq_getElem h, List.getD_eq_getElem?_getD, List.getElem?_eq_getElem h]; rfl

noncomputable def waysP (room : Int) (k : Nat) : Int := (upFrom 0 k).foldl (fun w t => (w * (room + t)).fdiv (t + 1)) 1
noncomputable def roomP (first second : List Int) (j i : Int) : Int := max 0 (second.getD i.toNat 0 - first.getD j.toNat 0 + 1)
noncomputable def dueStep (first second told : List Int) (j : Int) (due i : Int) : Int :=
  due + told.getD i.toNat 0 * waysP (roomP first second j i) (j - i + 1).toNat * (-1) ^ (j - i).toNat
noncomputable def dueP (first second told : List Int) (j : Int) : Int := (upFrom 0 (j + 1).toNat).foldl (dueStep first second told j) 0
noncomputable def detTold (first second : List Int) : List Int := (upFrom 0 first.length).foldl (fun told j => told ++ [dueP first second told j]) [1]
noncomputable def detP (first second : List Int) : Int := (detTold first second).getLastD 0

theorem ways_small : ∀ r : Nat, r ≤ 12 → ∀ k : Nat, k ≤ 4 → (waysP r k).natAbs < 2 ^ 63 := by decide +kernel

noncomputable abbrev detSig (first second told : List Int) : Sig := [(Str.ofString "first", .sh (intsD first)), (Str.ofString "second", .sh (intsD second)), (Str.ofString "told", .own (told.map .int))]
noncomputable abbrev detSigD (first second told : List Int) (j due : Int) : Sig := [(Str.ofString "first", .sh (intsD first)), (Str.ofString "second", .sh (intsD second)), (Str.ofString "told", .own (told.map .int)), (Str.ofString "j", .sh (.int j)), (Str.ofString "due", .sh (.int due))]
noncomputable abbrev detSigI (first second told : List Int) (j due i : Int) : Sig := [(Str.ofString "first", .sh (intsD first)), (Str.ofString "second", .sh (intsD second)), (Str.ofString "told", .own (told.map .int)), (Str.ofString "j", .sh (.int j)), (Str.ofString "due", .sh (.int due)), (Str.ofString "i", .sh (.int i))]
noncomputable abbrev detSigW (first second told : List Int) (j due i room w : Int) : Sig := [(Str.ofString "first", .sh (intsD first)), (Str.ofString "second", .sh (intsD second)), (Str.ofString "told", .own (told.map .int)), (Str.ofString "j", .sh (.int j)), (Str.ofString "due", .sh (.int due)), (Str.ofString "i", .sh (.int i)), (Str.ofString "room", .sh (.int room)), (Str.ofString "ways", .sh (.int w))]
noncomputable abbrev detSigT (first second told : List Int) (j due i room w t : Int) : Sig := [(Str.ofString "first", .sh (intsD first)), (Str.ofString "second", .sh (intsD second)), (Str.ofString "told", .own (told.map .int)), (Str.ofString "j", .sh (.int j)), (Str.ofString "due", .sh (.int due)), (Str.ofString "i", .sh (.int i)), (Str.ofString "room", .sh (.int room)), (Str.ofString "ways", .sh (.int w)), (Str.ofString "t", .sh (.int t))]

noncomputable abbrev detL := loopIn (defAt 12).body 1
noncomputable abbrev detLI := loopIn detL.2.2 1
noncomputable abbrev detLT := loopIn detLI.2.2 2

set_option maxHeartbeats 1000000 in
theorem det_ways {G : Gx} {n : Nat} {fa L : Addr} {pm cd doc : Value} (first second told : List Int) (j due i room : Int) (hr0 : 0 ≤ room) (hr : room ≤ 12) (k : Nat) (hk : k ≤ 4) :
    ForAt G n (envAt 12 pm cd doc L fa) detLT.1 detLT.2.2 (detSigW first second told j due i room 1) ((upFrom 0 k).map .int) true (.next (detSigW first second told j due i room (waysP room k))) := by
  refine ForAt.foldl (detSigW first second told j due i room) PyData.int (fun w t => (w * (room + t)).fdiv (t + 1)) (fun _ l => ∀ t ∈ l, 0 ≤ t ∧ t ≤ 4) (fun s => by walk_at "nodup") (fun s a r hi => ?_) _ _ (fun t ht => by have := upFrom_mem ht; omega)
  have ha := hi a (by simp)
  refine ⟨detSigT first second told j due i room s a, detSigT first second told j due i room ((s * (room + a)).fdiv (a + 1)) a, TgtTo.name (by walk_at "st") (by walk_at "upd"), ?_, by walk_at "sub", fun t ht => hi t (by simp [ht])⟩
  exact ExsTo.cons (ExTo.assign (EvP.bin (EvP.bin (by walk_at "ev") (by walk_at "ev") (BinP.mulI _ _ (IntMulOk.of_right (bits_small (by omega))))) (by walk_at "ev") (BinP.divI _ _ (by omega) (noPy (by omega)))) (by walk_at "st") (by walk_at "upd") (by rfl)) ExsTo.nil

set_option maxHeartbeats 2000000 in
theorem det_due {G : Gx} {n : Nat} {fa L : Addr} {pm cd doc : Value} (hr : GlobIs G (Str.ofString "range") (.type "range")) (hmx : GlobIs G (Str.ofString "max") (.builtin "max")) (first second told : List Int) (j : Int) (hj0 : 0 ≤ j) (hj : j.toNat < first.length) (hlen : second.length = first.length) (h3 : first.length ≤ 3) (htold : told.length = j.toNat + 1)
    (hf : ∀ x ∈ first, 1 ≤ x ∧ x ≤ 6) (hs : ∀ x ∈ second, 1 ≤ x ∧ x ≤ 6) :
    ForAt G n (envAt 12 pm cd doc L fa) detLI.1 detLI.2.2 (detSigD first second told j 0) ((upFrom 0 (j + 1).toNat).map .int) true (.next (detSigD first second told j (dueP first second told j))) := by
  refine ForAt.foldl (detSigD first second told j) PyData.int (dueStep first second told j) (fun _ l => ∀ i ∈ l, 0 ≤ i ∧ i ≤ j) (fun s => by walk_at "nodup") (fun due i r hi => ?_) _ _ (fun t ht => by have := upFrom_mem ht; omega)
  have ha := hi i (by simp)
  have gf : 1 ≤ first.getD j.toNat 0 ∧ first.getD j.toNat 0 ≤ 6 := by
    rw [List.getD_eq_getElem?_getD, List.getElem?_eq_getElem hj]; exact hf _ (List.getElem_mem _)
  have hi2 : i.toNat < second.length := by omega
  have gs : 1 ≤ second.getD i.toNat 0 ∧ second.getD i.toNat 0 ≤ 6 := by
    rw [List.getD_eq_getElem?_getD, List.getElem?_eq_getElem hi2]; exact hs _ (List.getElem_mem _)
  have hroom : 0 ≤ roomP first second j i ∧ roomP first second j i ≤ 12 := by unfold roomP; omega
  have hw : (waysP (roomP first second j i) (j - i + 1).toNat).natAbs < 2 ^ 63 := by
    have := ways_small (roomP first second j i).toNat (by omega) (j - i + 1).toNat (by omega)
    rwa [Int.toNat_of_nonneg hroom.1] at this
  have it := IterTo.range1 (G := G) (n := n) (env := envAt 12 pm cd doc L fa) (σ := detSigW first second told j due i (roomP first second j i) 1) (tgt := detLT.1) (c := j - i + 1) (np := ⟨95, 21, 95, 26⟩) (pos := ⟨95, 21, 95, 37⟩) (e := (match detLT.2.1 with | .Call _ (e :: _) _ _ => e | e => e)) (.name _ _) (by rfl) hr (by walk_at "ev") (by omega) (by omega) (by rfl)
  refine ⟨detSigI first second told j due i, detSigW first second told j (dueStep first second told j due i) i (roomP first second j i) (waysP (roomP first second j i) (j - i + 1).toNat), TgtTo.name (by walk_at "st") (by walk_at "upd"), ?_, by walk_at "sub", fun t ht => hi t (by simp [ht])⟩
  rw [show dueStep first second told j due i = due + told.getD i.toNat 0 * waysP (roomP first second j i) (j - i + 1).toNat * (-1) ^ (j - i).toNat from rfl]
  refine' ExsTo.cons (ExTo.assign (x := Str.ofString "room") (d := .int (roomP first second j i)) (EvP.built (by rfl) hmx (by decide +kernel) (EvsTo.cons EvP.cInt (EvsTo.cons (EvP.bin (EvP.bin (EvP.item (b1 := true) (by walk_at "ev") (by walk_at "ev") ha.1 (by omega) (ix_int hi2) (fun _ _ => rfl)) (EvP.item (b1 := true) (by walk_at "ev") (by walk_at "ev") hj0 (by omega) (ix_int hj) (fun _ _ => rfl)) (BinP.subI _ _)) EvP.cInt (BinP.addI _ _)) EvsTo.nil (by rfl)) (by rfl)) BuiltTo.max2 (by rfl) (by rfl)) (by walk_at "st") (by walk_at "upd") (by rfl)) ?_
  refine' ExsTo.cons (ExTo.assign (x := Str.ofString "ways") (d := .int 1) EvP.cInt (by walk_at "st") (by walk_at "upd") (by rfl)) ?_
  refine ExsTo.cons (ExTo.for it (det_ways first second told j due i _ hroom.1 hroom.2 (j - i + 1).toNat (by omega)) (fun _ => rfl)) ?_
  have hti : i.toNat < told.length := by omega
  refine' ExsTo.cons (ExTo.aug (j := told.getD i.toNat 0 * waysP (roomP first second j i) (j - i + 1).toNat * (-1) ^ (j - i).toNat) (by walk_at "mem") (EvP.bin (EvP.bin (EvP.up (EvP.item (b := false) (b1 := true) (EvP.nameOwn (by walk_at "mem") (by decide +kernel)) (by walk_at "ev") ha.1 (by omega) (ix_int hti) (fun _ _ => rfl)) rfl) (by walk_at "ev") (BinP.mulI _ _ (IntMulOk.of_right (bits_small hw)))) (EvP.bin (EvP.neg EvP.cInt) (by walk_at "ev") (BinP.powI _ _ (by omega) ?_)) (BinP.mulI _ _ (IntMulOk.of_right (bits_small ?_)))) (.inl rfl) (BinP.addI _ _) (by walk_at "st") (by walk_at "upd") (by decide +kernel)) ExsTo.nil
  · have e : Builtin.Int.intBits (-1) = 1 := by decide +kernel
    rw [e]; omega
  · have : ∀ k : Nat, k ≤ 4 → ((-1 : Int) ^ k).natAbs < 2 ^ 63 := by decide +kernel
    exact this _ (by omega)

set_option maxHeartbeats 1000000 in
theorem det_call {G : Gx} {fa : Addr} {pm cd doc : Value} (H : Has G 12 fa pm cd doc) (hr : GlobIs G (Str.ofString "range") (.type "range")) (hmx : GlobIs G (Str.ofString "max") (.builtin "max")) (hln : GlobIs G (Str.ofString "len") (.builtin "len")) (first second : List Int) (hlen : second.length = first.length) (h3 : first.length ≤ 3)
    (hf : ∀ x ∈ first, 1 ≤ x ∧ x ≤ 6) (hs : ∀ x ∈ second, 1 ≤ x ∧ x ≤ 6) : CallTo G 1 fa [intsD first, intsD second] (.int (detP first second)) := by
  refine CallTo.of (H.at (names := [Str.ofString "first", Str.ofString "second"]) (by decide +kernel) (by decide +kernel) (by decide +kernel) (by decide +kernel) (fun vs h => by
    match vs, h with
    | [a, b], _ => rfl)) (by rfl) rfl fun L => ?_
  show ExsTo G 0 (envAt 12 pm cd doc L fa) [(Str.ofString "first", .sh (intsD first)), (Str.ofString "second", .sh (intsD second))] _ _
  have esz : sizeLine = 16777216 := by decide +kernel
  refine' ExsTo.cons (ExTo.assignNew (x := Str.ofString "told") (xs := ([1] : List Int).map .int) (EvNew.disp (EvsTo.cons EvP.cInt EvsTo.nil (by rfl)) (by decide +kernel)) (by walk_at "st") (by walk_at "upd") (by rfl)) ?_
  have step_len : ∀ (l told : List Int), (l.foldl (fun told j => told ++ [dueP first second told j]) told).length = told.length + l.length := by
    intro l
    induction l with
    | nil => intro told; rfl
    | cons a r ih => intro told; rw [List.foldl_cons, ih]; simp; omega
  have loop : ForAt G 0 (envAt 12 pm cd doc L fa) detL.1 detL.2.2 (detSig first second [1]) ((upFrom 0 first.length).map .int) true (.next (detSig first second (detTold first second))) := by
    refine ForAt.foldl (detSig first second) PyData.int (fun told j => told ++ [dueP first second told j]) (fun told l => 1 ≤ told.length ∧ told.length + l.length = first.length + 1 ∧ l = upFrom (told.length - 1) l.length) (fun s => by walk_at "nodup") (fun told j r hi => ?_) _ _ ⟨by simp, by rw [upFrom_len]; simp; omega, by rw [upFrom_len]; simp⟩
    obtain ⟨h1, h2, h4⟩ := hi
    simp only [List.length_cons, upFrom, List.cons.injEq] at h2 h4
    obtain ⟨h4, h5⟩ := h4
    have it := IterTo.range1 (G := G) (n := 0) (env := envAt 12 pm cd doc L fa) (σ := detSigD first second told j 0) (tgt := detLI.1) (c := j + 1) (np := ⟨92, 17, 92, 22⟩) (pos := ⟨92, 17, 92, 29⟩) (e := (match detLI.2.1 with | .Call _ (e :: _) _ _ => e | e => e)) (.name _ _) (by rfl) hr (by walk_at "ev") (by omega) (by omega) (by rfl)
    refine ⟨[(Str.ofString "first", .sh (intsD first)), (Str.ofString "second", .sh (intsD second)), (Str.ofString "told", .own (told.map .int)), (Str.ofString "j", .sh (.int j))], detSigD first second (told ++ [dueP first second told j]) j (dueP first second told j), TgtTo.name (by walk_at "st") (by walk_at "upd"), ?_, by walk_at "sub", by simp, by simp; omega, ?_⟩
    · refine' ExsTo.cons (ExTo.assign (x := Str.ofString "due") (d := .int 0) EvP.cInt (by walk_at "st") (by walk_at "upd") (by rfl)) ?_
      refine ExsTo.cons (ExTo.for it (det_due hr hmx first second told j (by omega) (by omega) hlen h3 (by omega) hf hs) (fun _ => rfl)) ?_
      refine' ExsTo.cons (ExTo.append (xs := told.map .int) (d := .int (dueP first second told j)) (by walk_at "mem") (by decide +kernel) (by walk_at "ev") (by rw [map_snoc]; walk_at "upd") (by rw [esz]; simp; omega) (by rfl) (by rfl) (by rfl) (by rfl) (by rfl) (by rfl)) ExsTo.nil
    · rw [h5]
      simp only [List.length_append, List.length_cons, List.length_nil, upFrom_len]
      congr 1
      omega
  have it := IterTo.range1 (G := G) (n := 0) (env := envAt 12 pm cd doc L fa) (σ := detSig first second [1]) (tgt := detL.1) (c := ((first.map PyData.int).length : Int)) (np := ⟨90, 13, 90, 18⟩) (pos := ⟨90, 13, 90, 30⟩) (e := (match detL.2.1 with | .Call _ (e :: _) _ _ => e | e => e)) (.name _ _) (by rfl) hr (EvP.built1 (b1 := true) (by rfl) hln (by decide +kernel) (by walk_at "ev") (BuiltTo.lenL (by rw [esz]; simp; omega)) rfl (by rfl)) (by omega) (by simp; omega) (by rfl)
  have ei : (((first.map PyData.int).length : Int)).toNat = first.length := by simp
  rw [ei] at it
  refine ExsTo.cons (ExTo.for it loop (fun _ => rfl)) (ExsTo.ret (ExTo.return ?_))
  have hl : (detTold first second).length = first.length + 1 := by
    unfold detTold; rw [step_len, upFrom_len]; simp; omega
  refine EvP.up (EvP.itemNeg (b := false) (b1 := true) (xs := (detTold first second).map .int) (k := -1) (EvP.nameOwn (by walk_at "mem") (by decide +kernel)) (EvP.neg EvP.cInt) (by omega) (by simp; omega) (by omega) ?_ (fun _ _ => rfl)) rfl
  unfold detP
  have e : ((-1 : Int) + ((detTold first second).map PyData.int).length).toNat = (detTold first second).length - 1 := by simp; omega
  rw [e, List.getElem?_map, List.getLastD_eq_getLast?, List.getLast?_eq_getElem?]
  rw [List.getElem?_eq_getElem (by omega)]
  rfl


section
variable {prog : Program} {w : World} {A : Around} {E : Value → Shared → Prop} {s : Shared}

theorem extend_range {R : Result → Shared → Prop} {r : Addr} {a b : Int} {t u v : Tok} {n : Nat} (hh : A.handled = none) (hr : IsRange s.heap r a b 1 t u v) (hsmall : Builtin.Range.small a b 1 = true)
    (hn : Builtin.Range.rangeSize a b 1 = n) (S : Addr) (res : Value) {vs : Array Value} (hlen : vs.size + n ≤ 2 ^ 23) (hS : s.heap.PlainList S vs)
    (hR : ∀ h' tk vs', (∀ b o, b ≠ S → s.heap.get? b = some o → h'.get? b = some o) → h'.PlainList S vs' →
      ItemsOf (fun i x => if i < vs.size then vs[i]? = some x else ∃ t, x = .int (a + ((i - vs.size : Nat) : Int) * 1) t) vs' (vs.size + n) → R (.ok (.ret res)) { s with heap := h', toks := tk }) :
    wpAny (model prog w) A.in1 (Builtin.List.listExtendWith (.ref S) (.ref r) res)
      (fun fin s' => match fin with | .done f => R (.ok f) s' | .again c' => c'.quiet = true ∧ codeAny (model prog w) A c' R s') (fun e s' => R (.error e) s') s := by
  obtain ⟨c₀, hS⟩ := hS
  have hSr : S ≠ r := fun e => by rw [e, hr] at hS; simp at hS
  have hSlt : S < s.heap.objs.size := Heap.lt_size hS
  have hSI : S ≠ s.heap.objs.size := Nat.ne_of_lt hSlt
  have hSf : S ∉ [s.heap.objs.size] := fun hm => hSI (List.mem_singleton.mp hm)
  have W := walks_shift (Walks.range (prog := prog) (w := w) (A := A.in1) hh s.heap.objs.size a 1 n).toS vs.size (fun i x => vs[i]? = some x)
  have esz : sizeLine = 2 ^ 24 := by decide +kernel
  have key : ∀ (h : Heap) (c₁ tk : Nat), IsRangeIter h s.heap.objs.size (a + ((0 : Nat) : Int) * 1) ((n : Int) - ((0 : Nat) : Int)) 1 → (∀ b o, b ≠ S → s.heap.get? b = some o → h.get? b = some o) →
      h.get? S = some { cls := .type "list", data := .seq vs c₁ } → codeAny (model prog w) A (.builtin "list.extend.loop" ⟨[.ref S, .ref s.heap.objs.size, res], []⟩) R { s with heap := h, toks := tk } := by
    intro h c₁ tk hit hk hS₁
    refine codeAny_extend_loopS W (by rw [esz]; omega) S hSf res _ vs.size _ vs c₁ rfl (Nat.le_add_right _ _) ⟨Nat.le_refl _, by rw [Nat.sub_self]; exact hit⟩ hS₁ ⟨rfl, fun j x hj => ?_⟩ fun s' acc' c' hm hS' hacc => ?_
    · have : j < vs.size := by
        by_cases k : j < vs.size
        · exact k
        · rw [Array.getElem?_eq_none (by omega)] at hj; cases hj
      show if j < vs.size then _ else _
      rw [if_pos this]; exact hj
    · rw [Moved.eq_with hm]
      refine hR s'.heap s'.toks acc' (fun b o hb e => hm.heap b o (fun hmem => ?_) (hk b o hb e)) ⟨c', hS'⟩ hacc
      rcases List.mem_cons.mp hmem with e' | hmem
      · exact hb e'
      · exact absurd (Heap.lt_size e) (by rw [List.mem_singleton.mp hmem]; exact Nat.lt_irrefl _)
  unfold Builtin.List.listExtendWith
  refine wpAny_bind (wpAny_typeOf (T := "range") ⟨_, hr, rfl⟩ ?_)
  have h1 : Builtin.List.listSameRef (.ref S) (.ref r) = false := by simp [Builtin.List.listSameRef, hSr]
  have h2 : (Value.type "range" == Value.type "list") = false := by decide
  have h3 : (Value.type "range" == Value.type "tuple") = false := by decide
  simp only [h1, h2, h3, Bool.or_false, Bool.false_eq_true, if_false]
  refine wpAny_bind (wpAny_pyIter_range hr hsmall ?_)
  refine wpAny_bind (wpAny_holding (wpAny_hint_range (n := n) (Heap.get?_push_of_some _ hr) hn (by omega) ?_))
  have hit₁ : IsRangeIter (s.heap.push { cls := .type "range_iterator", data := .fields #[rawInt a, rawInt (Builtin.Range.rangeSize a b 1), rawInt 1] }) s.heap.objs.size (a + ((0 : Nat) : Int) * 1) ((n : Int) - ((0 : Nat) : Int)) 1 := by
    show IsRangeIter _ _ _ _ _; rw [hn]; simpa using Heap.get?_push_size _ rfl
  have hS₁ := Heap.get?_push_of_some { cls := .type "range_iterator", data := .fields #[rawInt a, rawInt (Builtin.Range.rangeSize a b 1), rawInt 1] } hS
  refine wpAny_ite_split (fun _ => ?_) (fun _ => wpAny_pure ⟨plainId_quiet PySem.F.plain_extend_loop _, key _ c₀ _ hit₁ (fun b o _ e => Heap.get?_push_of_some _ e) hS₁⟩)
  refine wpAny_bind (wpAny_rule ?_)
  refine wpAny_bind ?_
  show wpAny _ _ (updateSeq S (·.push .none) >>= fun _ => updateSeq S (·.pop)) _ _ _
  refine wpAny_bind (wpAny_updateSeq hS₁ rfl ?_ (by rw [esz]; omega) (by show (vs.push _).size ≤ _; rw [Array.size_push, esz]; omega))
  have hS₂ := Heap.get?_update_self (Obj.mapSeq (·.push Value.none)) hS₁ rfl
  refine wpAny_updateSeq hS₂ rfl ?_ (by show (vs.push _).size ≤ _; rw [Array.size_push, esz]; omega) (by show ((vs.push _).pop).size ≤ _; rw [Array.size_pop, Array.size_push, esz]; omega)
  have hS₃ := Heap.get?_update_self (Obj.mapSeq (·.pop)) hS₂ rfl
  refine wpAny_pure ⟨plainId_quiet PySem.F.plain_extend_loop _, ?_⟩
  have e3 : ∃ c', Obj.mapSeq (·.pop) (Obj.mapSeq (·.push Value.none) { cls := .type "list", data := .seq vs c₀ }) = ({ cls := .type "list", data := .seq vs c' } : Obj) := by
    simp only [Obj.mapSeq, Array.pop_push]
    exact ⟨_, rfl⟩
  obtain ⟨c', e3⟩ := e3
  rw [e3] at hS₃
  refine key _ c' _ ?_ (fun b o hb e => ?_) hS₃
  · exact (Heap.get?_update_other _ _ hSI).trans ((Heap.get?_update_other _ _ hSI).trans hit₁)
  · exact (Heap.get?_update_other _ _ (Ne.symm hb)).trans ((Heap.get?_update_other _ _ (Ne.symm hb)).trans (Heap.get?_push_of_some _ e))

theorem call_extend_range {Q : Value → Shared → Prop} {r S : Addr} {a b : Int} {t u v : Tok} {n : Nat} (hh : A.handled = none) (hr : IsRange s.heap r a b 1 t u v) (hsmall : Builtin.Range.small a b 1 = true)
    (hn : Builtin.Range.rangeSize a b 1 = n) {vs : Array Value} (hlen : vs.size + n ≤ 2 ^ 23) (hS : s.heap.PlainList S vs)
    (hQ : ∀ h' tk vs', (∀ b o, b ≠ S → s.heap.get? b = some o → h'.get? b = some o) → h'.PlainList S vs' →
      ItemsOf (fun i x => if i < vs.size then vs[i]? = some x else ∃ t, x = .int (a + ((i - vs.size : Nat) : Int) * 1) t) vs' (vs.size + n) → Q .none { s with heap := h', toks := tk }) :
    wpAny (model prog w) A (call (.builtin "list.extend") [.ref S, .ref r]) Q E s := by
  obtain ⟨c, hc⟩ := id hS
  refine wpAny_call (codeAny_call_builtin F.slot_list_extend.plain F.entry_list_extend (F.slot_list_extend.check _ _ _ _ _ _ _ _ ⟨_, hc, rfl⟩ (F.args_list_extend_2 _ _) ?_))
  show wpAny _ A.in1 (Builtin.List.listExtendWith (.ref S) (.ref r) .none) _ _ s
  exact extend_range (R := fun r s' => match r with | .ok (.ret v) => Q v s' | .ok _ => False | .error e => E e s') hh hr hsmall hn S .none hlen hS hQ
end

theorem upFrom_len' : ∀ (n : Nat) (a : Int), (upFrom a n).length = n
  | 0, a => rfl
  | n + 1, a => by simp [upFrom, upFrom_len' n]
theorem upFrom_get : ∀ (n : Nat) (a : Int) (i : Nat), i < n → (upFrom a n)[i]? = some (a + i)
  | 0, a, i, h => absurd h (Nat.not_lt_zero _)
  | n + 1, a, 0, h => by simp [upFrom]
  | n + 1, a, i + 1, h => by
    rw [upFrom, List.getElem?_cons_succ, upFrom_get n (a + 1) i (by omega)]
    congr 1; omega

section
variable {b : Bool} {G : Gx} {n : Nat} {env : Env} {σ σ' σ1 : Sig}
theorem ExTo.extendRange {x : Str} {e1 e2 : Expr} {np apos rp rpos cpos pos : Pos} {xs : List PyData} {a c : Int} (hm : (x, Slot.own xs) ∈ σ) (hx : okName x = true) (hk : env.kindOf (Str.ofString "range") = some .globalImplicit) (hv : GlobIs G (Str.ofString "range") (.type "range"))
    (h1 : EvTo G n env σ e1 (.int a)) (h2 : EvTo G n env σ e2 (.int c)) (ha : -1000 ≤ a) (ha' : a ≤ 1000) (hc : -1000 ≤ c) (hc' : c ≤ 1000) (hsz : xs.length ≤ 10000) (u : Upd σ x (.own (xs ++ (rangeI a c).map .int)) σ')
    (he : starEach [e1, e2] env = (false, eval e1 env) :: starEach [e2] env) (he2 : starEach [e2] env = [(false, eval e2 env)])
    (hi : interactive env = false) (hs : swapsWith (.Call (.Attribute (.Name x np) (Str.ofString "extend") apos) [.Call (.Name (Str.ofString "range") rp) [e1, e2] [] rpos] [] cpos) none pos.line env = pure false)
    (hbase : attributeBase (.Name x np) (Str.ofString "extend") env (eval (.Name x np) env) = eval (.Name x np) env)
    (hline : (apos.endLine == cpos.line) = true) (htrees : backTo cpos (starEach [.Call (.Name (Str.ofString "range") rp) [e1, e2] [] rpos] env) = [(false, eval (.Call (.Name (Str.ofString "range") rp) [e1, e2] [] rpos) env)]) :
    ExTo G n env σ (.Expr (.Call (.Attribute (.Name x np) (Str.ofString "extend") apos) [.Call (.Name (Str.ofString "range") rp) [e1, e2] [] rpos] [] cpos) pos) (.next σ') := fun A hA av0 mu av ad s ok E => by
  obtain ⟨v, hb, rfl, vs, hp, hr⟩ := ok.e.vars _ hm
  refine wpAny_Expr (wpAny_Call_method1_late hbase hline htrees (wpAny_Name (Bound.load ok.e.fn hb ?_ (okName.c hx)) (okName.d hx))) hi hs
  obtain ⟨k0, ek0⟩ := id hp
  refine ⟨"list", "list.extend", F.plainAttrs_list, F.slot_list_extend, F.type_list_extend, ⟨_, ek0, rfl⟩, fun a e => by cases e; exact ⟨_, ek0, rfl⟩, ?_⟩
  refine Calls.callWith_builtin (by rfl) (Calls.evalArgs_plain (Calls.spliced_cons ?_))
  refine Call_ (wpAny_globName ok.e hk hv (by decide +kernel) (PyProof.Rows.callWith_type1 (args_cons (wpAny_mono (h1 A hA av ad s ok.e E) (fun v s1 g1 => args_cons (wpAny_mono (h2 A hA av ad s1 (ok.e.mv g1.2) E) (fun v2 s2 g2 => args_nil ?_) fun _ _ x => x) he2) fun _ _ x => x) he) he (by rw [he2]; rfl))) rfl
  obtain ⟨r, m⟩ := g1
  obtain ⟨t, rfl⟩ := r.int_inv
  obtain ⟨r2, m2⟩ := g2
  obtain ⟨t2, rfl⟩ := r2.int_inv
  refine call_range_2 (Calls.spliced_nil ?_)
  have m3 : Mv [] [] s { s2 with heap := s2.heap.push { cls := .type "range", data := .fields #[.int a t, .int c t2, .int 1 s2.toks] }, toks := s2.toks + 1 } := (m.trans m2).trans ⟨fun _ _ _ e => Heap.get?_push_of_some _ e, fun _ _ _ e => e, fun e => e, rfl⟩
  have ok3 := ok.mv m3
  have hp3 := hp.at (h' := s2.heap.push { cls := .type "range", data := .fields #[.int a t, .int c t2, .int 1 s2.toks] }) fun o e => m3.heap _ o (by simp) e
  have hr3 : RepAll (Pt (s2.heap.push { cls := .type "range", data := .fields #[.int a t, .int c t2, .int 1 s2.toks] }) av) xs vs.toList := hr.ext fun b o _ e => m3.heap _ o (by simp) e
  have elen := hr.length
  rw [Array.length_toList] at elen
  have esz : Builtin.Range.rangeSize a c 1 = ((c - a).toNat : Int) := by rw [rangeSize_one]; split <;> omega
  have hW := ok.own x xs hm
  refine call_extend_range hA.hh (Heap.get?_push_size _ rfl) (small_one (by omega) (by omega) (by omega) (by omega)) esz (by omega) hp3 fun h' tk vs' hk' hp' hacc => ?_
  have up : ∀ b o, b ∉ av → (s2.heap.push { cls := .type "range", data := .fields #[.int a t, .int c t2, .int 1 s2.toks] }).get? b = some o → h'.get? b = some o := fun b o hb e => hk' b o (fun k => hb (k ▸ ok.sub _ hW)) e
  have ok4 : Ok G av0 mu av env σ' ad { s2 with heap := h', toks := tk } := ok3.write hm u (fun b o hb e => hk' b o hb e) hp' (by
    refine RepAll.of_get ?_ fun i d w e1 e2 => ?_
    · rw [Array.length_toList, hacc.1, List.length_append, List.length_map, rangeI, upFrom_len', elen]
    · have e2' : vs'[i]? = some w := by simpa using e2
      have := hacc.2 i w e2'
      by_cases k : i < vs.size
      · have this' : vs[i]? = some w := by simpa [k] using this
        have k' : i < xs.length := by omega
        rw [List.getElem?_append_left k'] at e1
        obtain ⟨w', e3, r3⟩ := hr3.get e1
        have e3' : vs[i]? = some w' := by simpa using e3
        rw [this'] at e3'; cases e3'
        exact r3.ext up
      · have this' : ∃ t, w = .int (a + ((i - vs.size : Nat) : Int) * 1) t := by simpa [k] using this
        obtain ⟨t', rfl⟩ := this'
        have k' : xs.length ≤ i := by omega
        rw [List.getElem?_append_right k', List.getElem?_map] at e1
        have hlt : i - xs.length < (c - a).toNat := by
          have : i < vs'.size := (Array.getElem?_eq_some_iff.mp e2').1
          rw [hacc.1] at this; omega
        rw [rangeI, upFrom_get _ _ _ hlt] at e1
        cases e1
        rw [Int.mul_one, elen]
        exact Rep.int)
  exact ⟨rfl, After.refl ok4, m3.weak.trans ⟨fun b o hb e => hk' b o (fun k => hb (k ▸ hW)) e, fun _ _ _ e => e, fun e => e, rfl⟩⟩
end




noncomputable def enumI : Int → List Int → List (Int × Int)
  | _, [] => []
  | k, x :: r => (k, x) :: enumI (k + 1) r
noncomputable def prD (p : Int × Int) : PyData := .tuple [.int p.1, .int p.2]
theorem numbered_enum : ∀ (l : List Int) (k : Int), numbered k (l.map .int) = (enumI k l).map prD
  | [], k => rfl
  | a :: r, k => by simp [numbered, enumI, prD, numbered_enum r]
theorem enumI_mem : ∀ {l : List Int} {k : Int} {q : Int × Int}, q ∈ enumI k l → k ≤ q.1 ∧ q.1 < k + l.length
  | [], k, q, h => by simp [enumI] at h
  | a :: r, k, q, h => by
    simp only [enumI, List.mem_cons] at h
    simp only [List.length_cons]
    rcases h with rfl | h
    · simp; omega
    · have := enumI_mem h; omega
theorem enumI_len : ∀ (l : List Int) (k : Int), (enumI k l).length = l.length
  | [], k => rfl
  | a :: r, k => by simp [enumI, enumI_len r]
theorem getD_in {l : List Int} {m : Int} (h : ∀ x ∈ l, 0 ≤ x ∧ x ≤ m) (hm : 0 ≤ m) (i : Nat) : 0 ≤ l.getD i 0 ∧ l.getD i 0 ≤ m := by
  rw [List.getD_eq_getElem?_getD]
  cases e : l[i]? with
  | none => exact ⟨Int.le_refl _, hm⟩
  | some x => exact h x (List.mem_of_getElem? e)

noncomputable def looseBase (second choice : List Int) : List Int := ((enumI 0 choice).filter fun q => q.2 == second.getD q.1.toNat 0).map (·.2)
noncomputable def looseStep (first choice : List Int) (l : List Int) (k : Int) : List Int :=
  l ++ rangeI ((0 :: choice).getD k.toNat 0 + 1) (min ((choice ++ [7]).getD k.toNat 0) ((first ++ [7]).getD k.toNat 0))
noncomputable def looseP (first second choice : List Int) : List Int := (upFrom 0 (choice.length + 1)).foldl (looseStep first choice) (looseBase second choice)

noncomputable abbrev looseSig (first second choice l : List Int) : Sig := [(Str.ofString "first", .sh (intsD first)), (Str.ofString "second", .sh (intsD second)), (Str.ofString "choice", .sh (intsD choice)), (Str.ofString "loose", .own (l.map .int))]
noncomputable abbrev looseSig2 (first second choice l : List Int) (k : Int) : Sig := [(Str.ofString "first", .sh (intsD first)), (Str.ofString "second", .sh (intsD second)), (Str.ofString "choice", .sh (intsD choice)), (Str.ofString "loose", .own (l.map .int)), (Str.ofString "k", .sh (.int k))]
noncomputable abbrev looseL := loopIn (defAt 13).body 1

set_option maxHeartbeats 1000000 in
theorem loose_turn {G : Gx} {n : Nat} {fa L : Addr} {pm cd doc : Value} (hr : GlobIs G (Str.ofString "range") (.type "range")) (hmn : GlobIs G (Str.ofString "min") (.builtin "min")) (first second choice l : List Int) (k : Int) (hl : l.length ≤ 100) (h3 : choice.length ≤ 10) (hlen : first.length = choice.length) (hk0 : 0 ≤ k) (hk : k.toNat < choice.length + 1)
    (hf : ∀ x ∈ first, 0 ≤ x ∧ x ≤ 7) (hc : ∀ x ∈ choice, 0 ≤ x ∧ x ≤ 7) :
    ExsTo G n (envAt 13 pm cd doc L fa) (looseSig2 first second choice l k) looseL.2.2 (.next (looseSig2 first second choice (looseStep first choice l k) k)) := by
  have esz : sizeLine = 16777216 := by decide +kernel
  have b1 := getD_in (l := 0 :: choice) (m := 7) (by intro x hx; rcases List.mem_cons.mp hx with rfl | hx; omega; exact hc x hx) (by omega) k.toNat
  have b2 := getD_in (l := choice ++ [7]) (m := 7) (by intro x hx; rcases List.mem_append.mp hx with hx | hx; exact hc x hx; simp at hx; omega) (by omega) k.toNat
  have b3 := getD_in (l := first ++ [7]) (m := 7) (by intro x hx; rcases List.mem_append.mp hx with hx | hx; exact hf x hx; simp at hx; omega) (by omega) k.toNat
  have i1 : ([PyData.int 0] ++ choice.map PyData.int)[k.toNat]? = some (.int ((0 :: choice).getD k.toNat 0)) := ix_int (l := 0 :: choice) (i := k) (by simpa using hk)
  have i2 : (choice.map PyData.int ++ [PyData.int 7])[k.toNat]? = some (.int ((choice ++ [7]).getD k.toNat 0)) := by rw [← ix_int (l := choice ++ [7]) (i := k) (by simpa using hk), List.map_append]; rfl
  have i3 : (first.map PyData.int ++ [PyData.int 7])[k.toNat]? = some (.int ((first ++ [7]).getD k.toNat 0)) := by rw [← ix_int (l := first ++ [7]) (i := k) (by simp; omega), List.map_append]; rfl
  refine' ExsTo.cons (ExTo.extendRange (xs := l.map .int) (a := (0 :: choice).getD k.toNat 0 + 1) (c := min ((choice ++ [7]).getD k.toNat 0) ((first ++ [7]).getD k.toNat 0)) (by walk_at "mem") (by decide +kernel) (by rfl) hr ?_ ?_ (by omega) (by omega) (by omega) (by omega) (by simp; omega) ?_ (by rfl) (by rfl) (by rfl) (by rfl) (by rfl) (by rfl) (by rfl)) ExsTo.nil
  · exact EvP.bin (EvP.item (b1 := true) (xs := [PyData.int 0] ++ choice.map .int) (EvP.bin (EvP.disp (EvsTo.cons EvP.cInt EvsTo.nil (by rfl)) (by rw [esz]; simp)) (by walk_at "ev") (BinP.addL _ _ (by rw [esz]; simp; omega))) (by walk_at "ev") hk0 (by omega) i1 (fun _ _ => rfl)) EvP.cInt (BinP.addI _ _)
  · refine EvP.built (by rfl) hmn (by decide +kernel) (EvsTo.cons (EvP.item (b1 := true) (xs := choice.map .int ++ [PyData.int 7]) (EvP.bin (by walk_at "ev") (EvP.disp (EvsTo.cons EvP.cInt EvsTo.nil (by rfl)) (by rw [esz]; simp)) (BinP.addL _ _ (by rw [esz]; simp; omega))) (by walk_at "ev") hk0 (by omega) i2 (fun _ _ => rfl)) (EvsTo.cons
      (EvP.item (b1 := true) (xs := first.map .int ++ [PyData.int 7]) (EvP.bin (by walk_at "ev") (EvP.disp (EvsTo.cons EvP.cInt EvsTo.nil (by rfl)) (by rw [esz]; simp)) (BinP.addL _ _ (by rw [esz]; simp; omega))) (by walk_at "ev") hk0 (by omega) i3 (fun _ _ => rfl)) EvsTo.nil (by rfl)) (by rfl)) BuiltTo.min2 (by rfl) (by rfl)
  · rw [← List.map_append]
    unfold looseStep
    walk_at "upd"

theorem rangeI_len (a b : Int) : (rangeI a b).length = (b - a).toNat := upFrom_len' _ _

set_option maxHeartbeats 1000000 in
theorem loose_call {G : Gx} {fa : Addr} {pm cd doc : Value} (H : Has G 13 fa pm cd doc) (hr : GlobIs G (Str.ofString "range") (.type "range")) (hmn : GlobIs G (Str.ofString "min") (.builtin "min")) (hln : GlobIs G (Str.ofString "len") (.builtin "len")) (hen : GlobIs G (Str.ofString "enumerate") (.type "enumerate"))
    (first second choice : List Int) (hlen : first.length = choice.length) (hlen2 : second.length = choice.length) (h3 : choice.length ≤ 3) (hf : ∀ x ∈ first, 0 ≤ x ∧ x ≤ 7) (hc : ∀ x ∈ choice, 0 ≤ x ∧ x ≤ 7) :
    CallTo G 1 fa [intsD first, intsD second, intsD choice] (intsD (looseP first second choice)) := by
  refine CallTo.of (H.at (names := [Str.ofString "first", Str.ofString "second", Str.ofString "choice"]) (by decide +kernel) (by decide +kernel) (by decide +kernel) (by decide +kernel) (fun vs h => by
    match vs, h with
    | [a, b, c], _ => rfl)) (by rfl) rfl fun L => ?_
  show ExsTo G 0 (envAt 13 pm cd doc L fa) [(Str.ofString "first", .sh (intsD first)), (Str.ofString "second", .sh (intsD second)), (Str.ofString "choice", .sh (intsD choice))] _ _
  have esz : sizeLine = 16777216 := by decide +kernel
  have hbl : (looseBase second choice).length ≤ choice.length := by
    unfold looseBase
    rw [List.length_map]
    exact Nat.le_trans (List.length_filter_le _ _) (by rw [enumI_len]; exact Nat.le_refl _)
  refine ExsTo.cons (ExTo.assignCompNew (y := Str.ofString "loose") (σf := [(Str.ofString "second", .sh (intsD second))]) (out := (looseBase second choice).map .int) (l := numbered 0 (choice.map .int)) (comp_ok (by decide +kernel) (by walk_at "sub") (by walk_at "shs") (by walk_at "frees")) (IterTo.enum (by rfl) hen (by walk_at "ev") (by rfl)) (fun C => ?_) (by simp; omega) (fun _ => rfl) (by rfl) (by walk_at "st") (by walk_at "upd")) ?_
  · rw [numbered_enum]
    unfold looseBase
    rw [List.map_map]
    refine CompAt.each prD (fun q => [(Str.ofString "second", .sh (intsD second)), (Str.ofString "k", .sh (.int q.1)), (Str.ofString "place", .sh (.int q.2))]) _ _ (fun _ _ => compTurn_one ..) _ (fun p _ => CTgt.pair (by rfl) (by walk_at "upd") (by rfl) (by walk_at "upd")) (fun _ _ => by walk_at "sub") (fun q hq => CTests.one ?_) (fun p _ _ => by show EvTo _ _ _ _ _ (.int p.2); walk_at "ev")
    have hm := enumI_mem hq
    exact TsTo.cmp (b1 := true) (b2 := true) (by walk_at "ev") (EvP.item (b1 := true) (by walk_at "ev") (by walk_at "ev") (by omega) (by omega) (ix_int (by omega)) (fun _ _ => rfl)) (CmpP.eqI _ _) (by with_unfolding_all rfl)
  · have loop : ForAt G 0 (envAt 13 pm cd doc L fa) looseL.1 looseL.2.2 (looseSig first second choice (looseBase second choice)) ((upFrom 0 (choice.length + 1)).map .int) true (.next (looseSig first second choice (looseP first second choice))) := by
      refine ForAt.foldl (looseSig first second choice) PyData.int (looseStep first choice) (fun s l => s.length + 10 * l.length ≤ 100 ∧ ∀ k ∈ l, 0 ≤ k ∧ k.toNat < choice.length + 1) (fun s => by walk_at "nodup") (fun s k r hi => ?_) _ _ ⟨by rw [upFrom_len]; omega, fun k hk => by have := upFrom_mem hk; omega⟩
      have hk := hi.2 k (by simp)
      have hs := hi.1
      simp only [List.length_cons] at hs
      refine ⟨looseSig2 first second choice s k, looseSig2 first second choice (looseStep first choice s k) k, TgtTo.name (by walk_at "st") (by walk_at "upd"), loose_turn hr hmn first second choice s k (by omega) (by omega) hlen hk.1 hk.2 hf hc, by walk_at "sub", ?_, fun t ht => hi.2 t (by simp [ht])⟩
      have b1 := getD_in (l := 0 :: choice) (m := 7) (by intro x hx; rcases List.mem_cons.mp hx with rfl | hx; omega; exact hc x hx) (by omega) k.toNat
      have b2 := getD_in (l := choice ++ [7]) (m := 7) (by intro x hx; rcases List.mem_append.mp hx with hx | hx; exact hc x hx; simp at hx; omega) (by omega) k.toNat
      unfold looseStep
      rw [List.length_append, rangeI_len]
      omega
    have it := IterTo.range1 (G := G) (n := 0) (env := envAt 13 pm cd doc L fa) (σ := looseSig first second choice (looseBase second choice)) (tgt := looseL.1) (c := ((choice.map PyData.int).length : Int) + 1) (np := ⟨102, 13, 102, 18⟩) (pos := ⟨102, 13, 102, 35⟩) (e := (match looseL.2.1 with | .Call _ (e :: _) _ _ => e | e => e)) (.name _ _) (by rfl) hr (EvP.bin (EvP.built1 (b1 := true) (by rfl) hln (by decide +kernel) (by walk_at "ev") (BuiltTo.lenL (by rw [esz]; simp; omega)) rfl (by rfl)) EvP.cInt (BinP.addI _ _)) (by omega) (by simp; omega) (by rfl)
    have ei : (((choice.map PyData.int).length : Int) + 1).toNat = choice.length + 1 := by rw [List.length_map]; omega
    rw [ei] at it
    exact ExsTo.cons (ExTo.for it loop (fun _ => rfl)) (ExsTo.ret (ExTo.returnOwn (by walk_at "mem") (by decide +kernel)))

noncomputable def countLe (l : List Int) (p : Int) : Int := ((l.filter fun m => decide (m ≤ p)).length : Nat)
noncomputable def walkStep (first second wished : List Int) (kept : List Int) (p : Int) : List Int :=
  if (kept.length : Int) < min (countLe first p) (max (countLe second p) (kept.length + (if inI p wished then 1 else 0))) then kept ++ [p] else kept
noncomputable def walkP (first second wished : List Int) : List Int := (rangeI 1 7).foldl (walkStep first second wished) []

theorem walkStep_len (first second wished kept : List Int) (p : Int) : (walkStep first second wished kept p).length ≤ kept.length + 1 := by
  unfold walkStep
  generalize (kept.length + (if inI p wished then 1 else 0) : Int) = z
  split
  · simp
  · omega
noncomputable abbrev walkSig (first second wished kept : List Int) : Sig := [(Str.ofString "first", .sh (intsD first)), (Str.ofString "second", .sh (intsD second)), (Str.ofString "wished", .sh (intsD wished)), (Str.ofString "kept", .own (kept.map .int))]
noncomputable abbrev walkSig2 (first second wished kept : List Int) (p : Int) : Sig := [(Str.ofString "first", .sh (intsD first)), (Str.ofString "second", .sh (intsD second)), (Str.ofString "wished", .sh (intsD wished)), (Str.ofString "kept", .own (kept.map .int)), (Str.ofString "place", .sh (.int p))]
noncomputable abbrev walkSig3 (first second wished kept : List Int) (p a b c : Int) : Sig := [(Str.ofString "first", .sh (intsD first)), (Str.ofString "second", .sh (intsD second)), (Str.ofString "wished", .sh (intsD wished)), (Str.ofString "kept", .own (kept.map .int)), (Str.ofString "place", .sh (.int p)), (Str.ofString "most", .sh (.int a)), (Str.ofString "least", .sh (.int b)), (Str.ofString "have", .sh (.int c))]
noncomputable abbrev walkL := loopIn (defAt 14).body 1

set_option maxHeartbeats 1000000 in
theorem walk_turn {G : Gx} {n : Nat} {fa L : Addr} {pm cd doc : Value} (hmn : GlobIs G (Str.ofString "min") (.builtin "min")) (hmx : GlobIs G (Str.ofString "max") (.builtin "max")) (hln : GlobIs G (Str.ofString "len") (.builtin "len")) (first second wished kept : List Int) (p : Int) (hk : kept.length ≤ 100) (hfl : first.length ≤ 100) (hsl : second.length ≤ 100) :
    ∃ a b c, ExsTo G n (envAt 14 pm cd doc L fa) (walkSig2 first second wished kept p) walkL.2.2 (.next (walkSig3 first second wished (walkStep first second wished kept p) p a b c)) := by
  have esz : sizeLine = 16777216 := by decide +kernel
  refine ⟨countLe first p, countLe second p, kept.length + (if inI p wished then 1 else 0), ?_⟩
  have fl : ∀ l : List Int, l.length ≤ 100 → (l.filter fun m => decide (m ≤ p)).length ≤ 100 := fun l h => Nat.le_trans (List.length_filter_le _ _) h
  refine' ExsTo.cons (ExTo.assign (x := Str.ofString "most") (d := .int (countLe first p)) (EvP.built1 (b1 := true) (by rfl) hln (by decide +kernel) (EvNew.ev (EvNew.comp (out := (first.filter fun m => decide (m ≤ p)).map .int) (l := first.map .int) (σf := [(Str.ofString "place", .sh (.int p))]) (comp_ok (by decide +kernel) (by walk_at "sub") (by walk_at "shs") (by walk_at "frees")) (IterTo.list (.name _ _) (by walk_at "ev")) (fun C => ?_) (by rw [List.length_map, esz]; have := fl first hfl; omega) (fun _ => rfl))) (by have := BuiltTo.lenL (G := G) (xs := (first.filter fun m => decide (m ≤ p)).map .int) (by rw [List.length_map, esz]; have := fl first hfl; omega); rw [List.length_map] at this; exact this) rfl (by rfl)) (by walk_at "st") (by walk_at "upd") (by rfl)) ?_
  · exact CompAt.each PyData.int (fun q => [(Str.ofString "place", .sh (.int p)), (Str.ofString "mark", .sh (.int q))]) _ _ (fun _ _ => compTurn_one ..) _ (fun p _ => CTgt.name (by rfl) (by walk_at "upd")) (fun _ _ => by walk_at "sub") (fun q hq => CTests.one (by walk_at "ev")) (fun p _ _ => by walk_at "ev")
  refine' ExsTo.cons (ExTo.assign (x := Str.ofString "least") (d := .int (countLe second p)) (EvP.built1 (b1 := true) (by rfl) hln (by decide +kernel) (EvNew.ev (EvNew.comp (out := (second.filter fun m => decide (m ≤ p)).map .int) (l := second.map .int) (σf := [(Str.ofString "place", .sh (.int p))]) (comp_ok (by decide +kernel) (by walk_at "sub") (by walk_at "shs") (by walk_at "frees")) (IterTo.list (.name _ _) (by walk_at "ev")) (fun C => ?_) (by rw [List.length_map, esz]; have := fl second hsl; omega) (fun _ => rfl))) (by have := BuiltTo.lenL (G := G) (xs := (second.filter fun m => decide (m ≤ p)).map .int) (by rw [List.length_map, esz]; have := fl second hsl; omega); rw [List.length_map] at this; exact this) rfl (by rfl)) (by walk_at "st") (by walk_at "upd") (by rfl)) ?_
  · exact CompAt.each PyData.int (fun q => [(Str.ofString "place", .sh (.int p)), (Str.ofString "mark", .sh (.int q))]) _ _ (fun _ _ => compTurn_one ..) _ (fun p _ => CTgt.name (by rfl) (by walk_at "upd")) (fun _ _ => by walk_at "sub") (fun q hq => CTests.one (by walk_at "ev")) (fun p _ _ => by walk_at "ev")
  have hwsz : (kept.map PyData.int).length ≤ sizeLine := by rw [List.length_map, esz]; omega
  have hln1 : BuiltTo G "len" [.list (kept.map .int)] (.int kept.length) := by have := BuiltTo.lenL (G := G) hwsz; rw [List.length_map] at this; exact this
  refine' ExsTo.cons (ExTo.assign (x := Str.ofString "have") (d := .int (kept.length + (if inI p wished then 1 else 0))) (EvP.bin (EvP.built1 (b1 := false) (by rfl) hln (by decide +kernel) (EvP.nameOwn (by walk_at "mem") (by decide +kernel)) hln1 rfl (by rfl)) (EvP.ifExp (c := inI p wished) (TsTo.cmp (b1 := true) (b2 := true) (by walk_at "ev") (by walk_at "ev") (CmpP.inInts p wished) (by with_unfolding_all rfl)) (fun h => ?_) (fun h => ?_)) (BinP.addI _ _)) (by walk_at "st") (by walk_at "upd") (by rfl)) ?_
  · rw [h]; exact EvP.cInt
  · rw [h]; exact EvP.cInt
  have tst : TsTo G n (envAt 14 pm cd doc L fa) (walkSig3 first second wished kept p (countLe first p) (countLe second p) (kept.length + (if inI p wished then 1 else 0))) (ifIn walkL.2.2 3).1 (decide ((kept.length : Int) < min (countLe first p) (max (countLe second p) (kept.length + (if inI p wished then 1 else 0))))) :=
    TsTo.cmp (b1 := true) (b2 := true) (EvP.built (by rfl) hmn (by decide +kernel) (EvsTo.cons (by walk_at "ev") (EvsTo.cons (EvP.built (by rfl) hmx (by decide +kernel) (EvsTo.cons (by walk_at "ev") (EvsTo.cons (by walk_at "ev") EvsTo.nil (by rfl)) (by rfl)) BuiltTo.max2 (by rfl) (by rfl)) EvsTo.nil (by rfl)) (by rfl)) BuiltTo.min2 (by rfl) (by rfl)) (EvP.built1 (b1 := false) (by rfl) hln (by decide +kernel) (EvP.nameOwn (by walk_at "mem") (by decide +kernel)) hln1 rfl (by rfl)) (CmpP.gt _ _) (by with_unfolding_all rfl)
  unfold walkStep
  by_cases h : (kept.length : Int) < min (countLe first p) (max (countLe second p) (kept.length + (if inI p wished then 1 else 0)))
  · have ed := decide_eq_true h
    rw [if_pos h]
    refine ExsTo.cons (ExTo.ite (c := true) (TsTo.cast tst ed) (fun _ => ?_) (fun h => nomatch h)) ExsTo.nil
    refine' ExsTo.cons (ExTo.append (xs := kept.map .int) (d := .int p) (by walk_at "mem") (by decide +kernel) (by walk_at "ev") (by rw [map_snoc]; walk_at "upd") hwsz (by rfl) (by rfl) (by rfl) (by rfl) (by rfl) (by rfl)) ExsTo.nil
  · have ed := decide_eq_false h
    rw [if_neg h]
    exact ExsTo.cons (ExTo.ite (c := false) (TsTo.cast tst ed) (fun h => nomatch h) (fun _ => ExsTo.nil)) ExsTo.nil

set_option maxHeartbeats 1000000 in
theorem walk_call {G : Gx} {fa : Addr} {pm cd doc : Value} (H : Has G 14 fa pm cd doc) (hr : GlobIs G (Str.ofString "range") (.type "range")) (hmn : GlobIs G (Str.ofString "min") (.builtin "min")) (hmx : GlobIs G (Str.ofString "max") (.builtin "max")) (hln : GlobIs G (Str.ofString "len") (.builtin "len"))
    (first second wished : List Int) (hfl : first.length ≤ 100) (hsl : second.length ≤ 100) : CallTo G 1 fa [intsD first, intsD second, intsD wished] (intsD (walkP first second wished)) := by
  refine CallTo.of (H.at (names := [Str.ofString "first", Str.ofString "second", Str.ofString "wished"]) (by decide +kernel) (by decide +kernel) (by decide +kernel) (by decide +kernel) (fun vs h => by
    match vs, h with
    | [a, b, c], _ => rfl)) (by rfl) rfl fun L => ?_
  show ExsTo G 0 (envAt 14 pm cd doc L fa) [(Str.ofString "first", .sh (intsD first)), (Str.ofString "second", .sh (intsD second)), (Str.ofString "wished", .sh (intsD wished))] _ _
  refine' ExsTo.cons (ExTo.assignNew (x := Str.ofString "kept") (xs := ([] : List Int).map .int) (EvNew.disp EvsTo.nil (by decide +kernel)) (by walk_at "st") (by walk_at "upd") (by rfl)) ?_
  have loop : ForAt G 0 (envAt 14 pm cd doc L fa) walkL.1 walkL.2.2 (walkSig first second wished []) ((rangeI 1 7).map .int) true (.next (walkSig first second wished (walkP first second wished))) := by
    refine ForAt.foldl (walkSig first second wished) PyData.int (walkStep first second wished) (fun s l => s.length + l.length ≤ 20) (fun s => by walk_at "nodup") (fun s k r hi => ?_) _ _ (by decide +kernel)
    simp only [List.length_cons] at hi
    obtain ⟨a, b, c, ht⟩ := walk_turn (G := G) (n := 0) (fa := fa) (L := L) (pm := pm) (cd := cd) (doc := doc) hmn hmx hln first second wished s k (by omega) hfl hsl
    refine ⟨walkSig2 first second wished s k, _, TgtTo.name (by walk_at "st") (by walk_at "upd"), ht, by walk_at "sub", ?_⟩
    have := walkStep_len first second wished s k
    omega
  exact ExsTo.cons (ExTo.for (IterTo.range2 (.name _ _) (by rfl) hr EvP.cInt EvP.cInt (by omega) (by omega) (by omega) (by omega) (by rfl) (by rfl)) loop (fun _ => rfl)) (ExsTo.ret (ExTo.returnOwn (by walk_at "mem") (by decide +kernel)))




/-- the ground of the law: its defs and names -/
structure Gd (G : Gx) where
  f : Nat → Addr
  pm : Nat → Value
  cd : Nat → Value
  doc : Nat → Value
  tok : Tok
  h1 : Has G 1 (f 1) (pm 1) (cd 1) (doc 1)
  h2 : Has G 2 (f 2) (pm 2) (cd 2) (doc 2)
  h3 : Has G 3 (f 3) (pm 3) (cd 3) (doc 3)
  h6 : Has G 6 (f 6) (pm 6) (cd 6) (doc 6)
  h8 : Has G 8 (f 8) (pm 8) (cd 8) (doc 8)
  h9 : Has G 9 (f 9) (pm 9) (cd 9) (doc 9)
  h10 : Has G 10 (f 10) (pm 10) (cd 10) (doc 10)
  h11 : Has G 11 (f 11) (pm 11) (cd 11) (doc 11)
  h12 : Has G 12 (f 12) (pm 12) (cd 12) (doc 12)
  h13 : Has G 13 (f 13) (pm 13) (cd 13) (doc 13)
  h14 : Has G 14 (f 14) (pm 14) (cd 14) (doc 14)
  cm : GlobIs G (Str.ofString "CHAR_MAX") (.int 127 tok)
  en : GlobIs G (Str.ofString "enumerate") (.type "enumerate")
  ra : GlobIs G (Str.ofString "range") (.type "range")
  ln : GlobIs G (Str.ofString "len") (.builtin "len")
  mn : GlobIs G (Str.ofString "min") (.builtin "min")
  mx : GlobIs G (Str.ofString "max") (.builtin "max")
  su : GlobIs G (Str.ofString "sum") (.builtin "sum")
  so : GlobIs G (Str.ofString "sorted") (.builtin "sorted")

noncomputable def stIn (b : List Stmt) (j : Nat) : Stmt := b[j]?.getD (.Pass ⟨0, 0, 0, 0⟩)
noncomputable abbrev lawB := (defAt 15).body

/-! the rulers -/
noncomputable def rows : List (List Int) := ([1, 2, 3] : List Int).flatMap fun a => ([1, 2, 3] : List Int).flatMap fun b => ([[0, 3], [127, 1], [1]] : List (List Int)).map fun c => [a, b] ++ c
noncomputable def nearP (row : List Int) : List Int := toldP 0 (grpP 8 0 row).1
noncomputable def zeroOk (row : List Int) : Bool := (List.range row.length).all fun k => row[k]? != some 0 || (decide (1 ≤ k) && (match row[k - 1]? with | some c => c != 0 | none => false))
theorem zeroOk_spec {row : List Int} (h : zeroOk row = true) : ∀ k : Nat, row[k]? = some 0 → ∃ c, 1 ≤ k ∧ row[k - 1]? = some c ∧ c ≠ 0 := fun k hk => by
  have hlt : k < row.length := (List.getElem?_eq_some_iff.mp hk).1
  have := List.all_eq_true.mp h k (List.mem_range.mpr hlt)
  rw [hk] at this
  simp only [bne_self_eq_false, Bool.false_or, Bool.and_eq_true, decide_eq_true_eq] at this
  obtain ⟨h1, h2⟩ := this
  cases e : row[k - 1]? with
  | none => rw [e] at h2; cases h2
  | some c => rw [e] at h2; exact ⟨c, h1, rfl, by simpa using h2⟩
structure RowOk (row : List Int) : Prop where
  head : row.head? ≠ some 0
  zero : zeroOk row = true
  fin : (grpP 8 0 row).2 = true ∨ toldB 0 (grpP 8 0 row).1 = true
  cons : (grpP 8 0 row).1 ≠ []
  sz : (grpP 8 0 row).1.length ≤ 100
  len : row.length ≤ 10
  marks : nearP row = (rangeI 1 7).filter fun p => markedP row p
  nlen : (nearP row).length ≤ 10
  nlen2 : 1 ≤ (nearP row).length
  ent : ∀ x ∈ nearP row, 1 ≤ x ∧ x ≤ 6
  up : (nearP row).Pairwise (· ≤ ·)
theorem rows_ok0 : ∀ row ∈ rows, (row.head? ≠ some 0 ∧ zeroOk row = true ∧ ((grpP 8 0 row).2 = true ∨ toldB 0 (grpP 8 0 row).1 = true) ∧ (grpP 8 0 row).1 ≠ [] ∧ (grpP 8 0 row).1.length ≤ 100 ∧ row.length ≤ 10 ∧ (nearP row = (rangeI 1 7).filter fun p => markedP row p) ∧ (nearP row).length ≤ 10 ∧ 1 ≤ (nearP row).length ∧ (∀ x ∈ nearP row, 1 ≤ x ∧ x ≤ 6) ∧ (nearP row).Pairwise (· ≤ ·)) := by decide +kernel
theorem rows_ok : ∀ row ∈ rows, RowOk row := fun row h => let ⟨a, b, c, d, e, f, g, h, i, j, k⟩ := rows_ok0 row h; ⟨a, b, c, d, e, f, g, h, i, j, k⟩

/-! the draws -/
noncomputable def closesP (c : Int) : List Int := if c = 0 then [0, 3] else if c = 1 then [127, 1] else [1]
noncomputable def rulerP (a b c : Int) : List Int := [1 + a.fmod 3, 1 + b.fmod 3] ++ closesP (c.fmod 3)
noncomputable def drawn6 (script : List Int) : List Int := ((script.take 6).filter fun _ => true).map fun x => x.fmod (10 ^ 6)
noncomputable def drawsP (script : List Int) : List Int := drawn6 script ++ ([13, 6, 9, 12, 230, 144] : List Int).drop (drawn6 script).length
noncomputable def totalP (script : List Int) : Int := (drawsP script).sum
noncomputable def leftP (script : List Int) : List Int := rulerP ((drawsP script).getD 0 0) ((drawsP script).getD 1 0) (totalP script)
noncomputable def rightP (script : List Int) : List Int := rulerP ((drawsP script).getD 2 0) ((drawsP script).getD 3 0) ((totalP script).fdiv 3)

theorem drawsP_len (script : List Int) : (drawsP script).length = 6 := by
  unfold drawsP
  have : (drawn6 script).length ≤ 6 := by
    unfold drawn6
    rw [List.length_map]
    exact Nat.le_trans (List.length_filter_le _ _) (by rw [List.length_take]; omega)
  rw [List.length_append, List.length_drop]
  simp; omega
theorem fmod3 (a : Int) : a.fmod 3 = 0 ∨ a.fmod 3 = 1 ∨ a.fmod 3 = 2 := by
  have h1 := Int.fmod_nonneg_of_pos a (b := 3) (by omega)
  have h2 := Int.fmod_lt_of_pos a (b := 3) (by omega)
  omega
theorem rulerP_row (a b c : Int) : rulerP a b c ∈ rows := by
  unfold rulerP
  rcases fmod3 a with h1 | h1 | h1 <;> rcases fmod3 b with h2 | h2 | h2 <;> rcases fmod3 c with h3 | h3 | h3 <;> rw [h1, h2, h3] <;> decide +kernel
theorem closes_ix (a : Int) : ([intsD [0, 3], intsD [127, 1], intsD [1]] : List PyData)[(a.fmod 3).toNat]? = some (intsD (closesP (a.fmod 3))) := by
  rcases fmod3 a with h1 | h1 | h1 <;> rw [h1] <;> rfl

/-! the law's frame -/
noncomputable abbrev lawE (pm cd doc : Value) (L fa : Addr) : Env := envAt 15 pm cd doc L fa
noncomputable abbrev sgS (script : List Int) : Sig := [(Str.ofString "script", .sh (intsD script))]
noncomputable abbrev sgD (script : List Int) (d : List Int) : Sig := [(Str.ofString "script", .sh (intsD script)), (Str.ofString "draws", .sh (intsD d))]
noncomputable abbrev sgT (d : List Int) (t : Int) : Sig := [(Str.ofString "draws", .sh (intsD d)), (Str.ofString "total", .sh (.int t))]
noncomputable abbrev sgC (d : List Int) (t : Int) : Sig := [(Str.ofString "draws", .sh (intsD d)), (Str.ofString "total", .sh (.int t)), (Str.ofString "closes", .sh (.list [intsD [0, 3], intsD [127, 1], intsD [1]]))]
noncomputable abbrev sgL (d : List Int) (t : Int) (l : List Int) : Sig := [(Str.ofString "draws", .sh (intsD d)), (Str.ofString "total", .sh (.int t)), (Str.ofString "closes", .sh (.list [intsD [0, 3], intsD [127, 1], intsD [1]])), (Str.ofString "left", .sh (intsD l))]
noncomputable abbrev sgR (d : List Int) (t : Int) (l r : List Int) : Sig := [(Str.ofString "draws", .sh (intsD d)), (Str.ofString "total", .sh (.int t)), (Str.ofString "left", .sh (intsD l)), (Str.ofString "right", .sh (intsD r))]
noncomputable abbrev sgN (d : List Int) (t : Int) (l r ne fa : List Int) : Sig := [(Str.ofString "draws", .sh (intsD d)), (Str.ofString "total", .sh (.int t)), (Str.ofString "left", .sh (intsD l)), (Str.ofString "right", .sh (intsD r)), (Str.ofString "near", .sh (intsD ne)), (Str.ofString "far", .sh (intsD fa))]

section
variable {G : Gx} {n : Nat} {pm cd doc : Value} {L fa : Addr}

set_option maxHeartbeats 1000000 in
theorem law0 (D : Gd G) (script : List Int) (h63 : script.length ≤ 63) : ExTo G n (lawE pm cd doc L fa) (sgS script) (stIn lawB 0) (.next (sgD script (drawn6 script))) := by
  have esz : sizeLine = 16777216 := by decide +kernel
  refine ExTo.assignComp (σf := []) (out := (drawn6 script).map .int) (l := (script.take 6).map .int) (comp_ok (by decide +kernel) (by simp) allSh_nil (by decide +kernel)) (IterTo.list (.name _ _) ?_) (fun C => ?_) ?_ (fun _ => rfl) (by rfl) (by walk_at "st") (by walk_at "upd")
  · have := EvP.upto (b := true) (b1 := true) (G := G) (n := n) (env := lawE pm cd doc L fa) (σ := sgS script) (value := .Name (Str.ofString "script") ⟨115, 34, 115, 40⟩) (e := .Constant (.int 6) 0 ⟨115, 42, 115, 43⟩) (sp := ⟨115, 41, 115, 43⟩) (pos := ⟨115, 34, 115, 44⟩) (xs := script.map .int) (k := 6) (by walk_at "ev") EvP.cInt (by omega) (by rw [List.length_map, esz]; omega) (fun _ _ => rfl)
    rw [← List.map_take] at this
    exact this
  · unfold drawn6
    rw [List.map_map]
    refine CompAt.each PyData.int (fun q => [(Str.ofString "x", .sh (.int q))]) _ _ (fun _ _ => compTurn_one ..) _ (fun p _ => CTgt.name (by rfl) Upd.new) (fun _ _ p hp => by cases hp) (fun q hq => CTests.none) (fun p _ _ => ?_)
    show EvTo _ _ _ _ _ (.int (p.fmod (10 ^ 6)))
    have e10 : (10 : Int) ^ (6 : Int).toNat = 10 ^ 6 := by decide +kernel
    have := BinP.powI 10 6 (by omega) (by decide +kernel)
    rw [e10] at this
    exact EvP.bin (by walk_at "ev") (EvP.bin EvP.cInt EvP.cInt this) (BinP.modI _ _ (by decide +kernel))
  · unfold drawn6
    rw [List.length_map, List.length_map, esz]
    exact Nat.le_trans (List.length_filter_le _ _) (by rw [List.length_take]; omega)

set_option maxHeartbeats 1000000 in
theorem law1 (D : Gd G) (script : List Int) : ExTo G n (lawE pm cd doc L fa) (sgD script (drawn6 script)) (stIn lawB 1) (.next (sgD script (drawsP script))) := by
  have esz : sizeLine = 16777216 := by decide +kernel
  have hl : (drawn6 script).length ≤ 6 := by
    unfold drawn6
    rw [List.length_map]
    exact Nat.le_trans (List.length_filter_le _ _) (by rw [List.length_take]; omega)
  have hln1 : BuiltTo G "len" [.list ((drawn6 script).map .int)] (.int (drawn6 script).length) := by have := BuiltTo.lenL (G := G) (xs := (drawn6 script).map .int) (by rw [List.length_map, esz]; omega); rw [List.length_map] at this; exact this
  have e : intsD (drawsP script) = .list ((drawn6 script).map .int ++ ([PyData.int 13, .int 6, .int 9, .int 12, .int 230, .int 144]).drop ((drawn6 script).length : Int).toNat) := by
    show PyData.list _ = _
    unfold drawsP
    rw [List.map_append, List.map_drop, Int.toNat_natCast]
    rfl
  unfold sgD
  rw [e]
  refine ExTo.assign (EvP.bin (by walk_at "ev") (EvP.from (b1 := true) (EvP.disp (EvsTo.cons EvP.cInt (EvsTo.cons EvP.cInt (EvsTo.cons EvP.cInt (EvsTo.cons EvP.cInt (EvsTo.cons EvP.cInt (EvsTo.cons EvP.cInt EvsTo.nil (by rfl)) (by rfl)) (by rfl)) (by rfl)) (by rfl)) (by rfl)) (by decide +kernel)) (EvP.built1 (b1 := true) (by rfl) D.ln (by decide +kernel) (by walk_at "ev") hln1 rfl (by rfl)) (by omega) (by decide +kernel) (fun _ _ => rfl)) (BinP.addL _ _ ?_)) (by walk_at "st") (by walk_at "upd") (by rfl)
  rw [List.length_map, List.length_drop, esz]
  simp; omega

set_option maxHeartbeats 1000000 in
theorem law2 (D : Gd G) (script : List Int) : ExTo G n (lawE pm cd doc L fa) (sgD script (drawsP script)) (stIn lawB 2) (.next (sgT (drawsP script) (totalP script))) :=
  ExTo.out (σ1 := [(Str.ofString "script", .sh (intsD script)), (Str.ofString "draws", .sh (intsD (drawsP script))), (Str.ofString "total", .sh (.int (totalP script)))]) (ExTo.assign (d := .int (totalP script)) (EvP.built1 (b1 := true) (by rfl) D.su (by decide +kernel) (by walk_at "ev") BuiltTo.sum rfl (by rfl)) (by walk_at "st") (by walk_at "upd") (by rfl)) (by walk_at "sub") (by walk_at "nodup")

set_option maxHeartbeats 1000000 in
theorem law3 (d : List Int) (t : Int) : ExTo G n (lawE pm cd doc L fa) (sgT d t) (stIn lawB 3) (.next (sgC d t)) :=
  ExTo.assign (d := .list [intsD [0, 3], intsD [127, 1], intsD [1]]) (EvP.disp (EvsTo.cons (EvP.disp (EvsTo.cons EvP.cInt (EvsTo.cons EvP.cInt EvsTo.nil (by rfl)) (by rfl)) (by decide +kernel)) (EvsTo.cons (EvP.disp (EvsTo.cons EvP.cInt (EvsTo.cons EvP.cInt EvsTo.nil (by rfl)) (by rfl)) (by decide +kernel)) (EvsTo.cons (EvP.disp (EvsTo.cons EvP.cInt EvsTo.nil (by rfl)) (by decide +kernel)) EvsTo.nil (by rfl)) (by rfl)) (by rfl)) (by decide +kernel)) (by walk_at "st") (by walk_at "upd") (by rfl)

theorem ruler_data (a b c : Int) : intsD (rulerP a b c) = .list ([PyData.int (1 + a.fmod 3), .int (1 + b.fmod 3)] ++ (closesP (c.fmod 3)).map .int) := by
  show PyData.list _ = _
  unfold rulerP
  rw [List.map_append]; rfl
theorem closes_len (c : Int) : (closesP c).length ≤ 2 := by unfold closesP; split; decide; split <;> decide

set_option maxHeartbeats 1000000 in
theorem law4 (d : List Int) (t : Int) (hd : d.length = 6) : ExTo G n (lawE pm cd doc L fa) (sgC d t) (stIn lawB 4) (.next (sgL d t (rulerP (d.getD 0 0) (d.getD 1 0) t))) := by
  have esz : sizeLine = 16777216 := by decide +kernel
  have hc := closes_len (t.fmod 3)
  have ht := fmod3 t
  unfold sgL
  rw [ruler_data]
  refine ExTo.assign (d := .list ([PyData.int (1 + (d.getD 0 0).fmod 3), PyData.int (1 + (d.getD 1 0).fmod 3)] ++ List.map PyData.int (closesP (t.fmod 3)))) (EvP.bin (EvP.disp (EvsTo.cons (EvP.bin EvP.cInt (EvP.bin (EvP.item (b1 := true) (by walk_at "ev") EvP.cInt (by omega) (by omega) (ix_int (by rw [hd]; decide)) (fun _ _ => rfl)) EvP.cInt (BinP.modI _ _ (by omega))) (BinP.addI _ _)) (EvsTo.cons (EvP.bin EvP.cInt (EvP.bin (EvP.item (b1 := true) (by walk_at "ev") EvP.cInt (by omega) (by omega) (ix_int (by rw [hd]; decide)) (fun _ _ => rfl)) EvP.cInt (BinP.modI _ _ (by omega))) (BinP.addI _ _)) EvsTo.nil (by rfl)) (by rfl)) (by rw [esz]; simp))
    (EvP.item (b1 := true) (by walk_at "ev") (EvP.bin (by walk_at "ev") EvP.cInt (BinP.modI _ _ (by omega))) (by omega) (by omega) (closes_ix t) (fun _ _ => rfl)) (BinP.addL _ _ (by rw [esz, List.length_map]; simp; omega))) (by walk_at "st") (by walk_at "upd") (by rfl)

set_option maxHeartbeats 1000000 in
theorem law5 (d l : List Int) (t : Int) (hd : d.length = 6) : ExTo G n (lawE pm cd doc L fa) (sgL d t l) (stIn lawB 5) (.next (sgR d t l (rulerP (d.getD 2 0) (d.getD 3 0) (t.fdiv 3)))) := by
  have esz : sizeLine = 16777216 := by decide +kernel
  have hc := closes_len ((t.fdiv 3).fmod 3)
  have ht := fmod3 (t.fdiv 3)
  refine ExTo.out (σ1 := [(Str.ofString "draws", .sh (intsD d)), (Str.ofString "total", .sh (.int t)), (Str.ofString "closes", .sh (.list [intsD [0, 3], intsD [127, 1], intsD [1]])), (Str.ofString "left", .sh (intsD l)), (Str.ofString "right", .sh (intsD (rulerP (d.getD 2 0) (d.getD 3 0) (t.fdiv 3))))]) ?_ (by walk_at "sub") (by walk_at "nodup")
  rw [ruler_data]
  refine ExTo.assign (d := .list ([PyData.int (1 + (d.getD 2 0).fmod 3), PyData.int (1 + (d.getD 3 0).fmod 3)] ++ List.map PyData.int (closesP ((t.fdiv 3).fmod 3)))) (EvP.bin (EvP.disp (EvsTo.cons (EvP.bin EvP.cInt (EvP.bin (EvP.item (b1 := true) (by walk_at "ev") EvP.cInt (by omega) (by omega) (ix_int (by rw [hd]; decide)) (fun _ _ => rfl)) EvP.cInt (BinP.modI _ _ (by omega))) (BinP.addI _ _)) (EvsTo.cons (EvP.bin EvP.cInt (EvP.bin (EvP.item (b1 := true) (by walk_at "ev") EvP.cInt (by omega) (by omega) (ix_int (by rw [hd]; decide)) (fun _ _ => rfl)) EvP.cInt (BinP.modI _ _ (by omega))) (BinP.addI _ _)) EvsTo.nil (by rfl)) (by rfl)) (by rw [esz]; simp))
    (EvP.item (b1 := true) (by walk_at "ev") (EvP.bin (EvP.bin (by walk_at "ev") EvP.cInt (BinP.divI _ _ (by omega) (noPy (by omega)))) EvP.cInt (BinP.modI _ _ (by omega))) (by omega) (by omega) (closes_ix (t.fdiv 3)) (fun _ _ => rfl)) (BinP.addL _ _ (by rw [esz, List.length_map]; simp; omega))) (by walk_at "st") (by walk_at "upd") (by rfl)

theorem told_row (D : Gd G) {row : List Int} (h : row ∈ rows) : CallTo G 3 (D.f 9) [intsD row] (intsD (nearP row)) :=
  let R := rows_ok row h
  told_call D.h9 D.h6 D.cm row R.head 8 R.fin (Nat.le_trans R.sz (by decide +kernel)) R.cons

set_option maxHeartbeats 1000000 in
theorem law67 (D : Gd G) (d l r : List Int) (t : Int) (hl : l ∈ rows) (hr : r ∈ rows) {rest : List Stmt} {o : Out} (h : ExsTo G 4 (lawE pm cd doc L fa) (sgN d t l r (nearP l) (nearP r)) rest o) :
    ExsTo G 4 (lawE pm cd doc L fa) (sgR d t l r) (stIn lawB 6 :: stIn lawB 7 :: rest) o := by
  obtain ⟨o9, ho9, hd9⟩ := D.h9.obj
  refine' ExsTo.cons (ExTo.assign (x := Str.ofString "near") (d := intsD (nearP l)) (EvP.call (by rfl) (.inl D.h9.name) (by decide +kernel) ho9 hd9 (EvsTo.cons (by walk_at "ev") EvsTo.nil (by rfl)) (CallTo.level (told_row D hl) (by omega)) (by rfl)) (by walk_at "st") (by walk_at "upd") (by rfl)) ?_
  refine' ExsTo.cons (ExTo.assign (x := Str.ofString "far") (d := intsD (nearP r)) (EvP.call (by rfl) (.inl D.h9.name) (by decide +kernel) ho9 hd9 (EvsTo.cons (by walk_at "ev") EvsTo.nil (by rfl)) (CallTo.level (told_row D hr) (by omega)) (by rfl)) (by walk_at "st") (by walk_at "upd") (by rfl)) h

theorem ne_same (ns : List Int) : CmpP .NotEq (intsD ns) (intsD ns) false := by
  have hlay : (intsD ns).canLay0 = true := lay_ints ns
  have hdep : ∀ ns : List Int, PyData.depthAll (ns.map .int) = 0 := by
    intro ns
    induction ns with
    | nil => rfl
    | cons a r ih => simp [PyData.depthAll, PyData.depth, ih]
  have := CmpP.ne (intsD ns) (intsD ns) hlay hlay (by show (intsD ns).depth ≤ 64; simp [PyData.depth, hdep])
  rwa [SeqAt.eqv_refl _ hlay] at this
end




noncomputable def manyN (l r : List Int) : Nat := min (min (nearP l).length (nearP r).length) 3
noncomputable def firstP (l r : List Int) : List Int := (nearP l).take (manyN l r)
noncomputable def second0 (l r : List Int) : List Int := (((nearP r).take (manyN l r)).filter fun _ => true).map fun m => 7 - m
noncomputable def secondP (l r : List Int) : List Int := (second0 l r).reverse

noncomputable abbrev sgF (d : List Int) (t : Int) (m : Nat) (f s : List Int) : Sig := [(Str.ofString "draws", .sh (intsD d)), (Str.ofString "total", .sh (.int t)), (Str.ofString "many", .sh (.int m)), (Str.ofString "first", .sh (intsD f)), (Str.ofString "second", .sh (intsD s))]
noncomputable abbrev sgM (d : List Int) (t : Int) (l r ne fa : List Int) (m : Nat) : Sig := [(Str.ofString "draws", .sh (intsD d)), (Str.ofString "total", .sh (.int t)), (Str.ofString "left", .sh (intsD l)), (Str.ofString "right", .sh (intsD r)), (Str.ofString "near", .sh (intsD ne)), (Str.ofString "far", .sh (intsD fa)), (Str.ofString "many", .sh (.int m))]

theorem second_up {l r : List Int} (h : RowOk r) : (secondP l r).Pairwise (· ≤ ·) := by
  unfold secondP second0
  rw [List.pairwise_reverse, List.pairwise_map, List.filter_eq_self.mpr (fun _ _ => rfl)]
  exact (h.up.sublist (List.take_sublist _ _)).imp fun h => by omega
theorem first_len {l r : List Int} : (firstP l r).length = manyN l r := by
  unfold firstP manyN; rw [List.length_take]; omega
theorem second_len {l r : List Int} : (secondP l r).length = manyN l r := by
  unfold secondP second0; rw [List.length_reverse, List.length_map, List.filter_eq_self.mpr (fun _ _ => rfl), List.length_take]; unfold manyN; omega
theorem many_le {l r : List Int} : manyN l r ≤ 3 := by unfold manyN; omega
theorem first_ent {l r : List Int} (h : RowOk l) : ∀ x ∈ firstP l r, 1 ≤ x ∧ x ≤ 6 := fun x hx => h.ent x (List.mem_of_mem_take hx)
theorem second_ent {l r : List Int} (h : RowOk r) : ∀ x ∈ secondP l r, 1 ≤ x ∧ x ≤ 6 := fun x hx => by
  unfold secondP second0 at hx
  rw [List.filter_eq_self.mpr (fun _ _ => rfl)] at hx
  simp only [List.mem_reverse, List.mem_map] at hx
  obtain ⟨y, hy, rfl⟩ := hx
  have := h.ent y (List.mem_of_mem_take hy)
  omega

section
variable {G : Gx} {n : Nat} {pm cd doc : Value} {L fa : Addr}

theorem marked_row (D : Gd G) {row : List Int} (h : row ∈ rows) (p : Int) : CallTo G 1 (D.f 8) [intsD row, .int p] (.bool (markedP row p)) :=
  let R := rows_ok row h
  marked_call D.h8 D.en row p (zeroOk_spec R.zero) (by have := R.len; omega)

set_option maxHeartbeats 1000000 in
theorem law8 (D : Gd G) (d l r : List Int) (t : Int) (hl : l ∈ rows) (hr : r ∈ rows) : ExTo G 4 (lawE pm cd doc L fa) (sgN d t l r (nearP l) (nearP r)) (stIn lawB 8) (.next (sgN d t l r (nearP l) (nearP r))) := by
  obtain ⟨o8, ho8, hd8⟩ := D.h8.obj
  have R := rows_ok l hl
  have esz : sizeLine = 16777216 := by decide +kernel
  have hc : CmpP .NotEq (intsD (nearP l)) (.list (((rangeI 1 7).filter fun p => markedP l p).map .int)) false := by rw [← R.marks]; exact ne_same _
  refine ExTo.ite (c := false) (TsTo.cmp (b1 := true) (b2 := true) (by walk_at "ev") (EvNew.ev (EvNew.comp (σf := [(Str.ofString "left", .sh (intsD l))]) (l := (rangeI 1 7).map .int) (comp_ok (by decide +kernel) (by walk_at "sub") (by walk_at "shs") (by walk_at "frees"))
    (IterTo.range2 (.name _ _) (by rfl) D.ra EvP.cInt EvP.cInt (by omega) (by omega) (by omega) (by omega) (by rfl) (by rfl)) (fun C => ?_) ?_ (fun _ => rfl))) hc (by with_unfolding_all rfl)) (fun h => nomatch h) (fun _ => ExsTo.nil)
  · exact CompAt.each PyData.int (fun p => [(Str.ofString "left", .sh (intsD l)), (Str.ofString "place", .sh (.int p))]) _ PyData.int (fun _ _ => compTurn_one ..) _ (fun p _ => CTgt.name (by rfl) (by walk_at "upd")) (fun _ _ => by walk_at "sub") (fun p _ => CTests.one (TsTo.val (b := true) (EvP.call (by rfl) (.inl D.h8.name) (by decide +kernel) ho8 hd8 (EvsTo.cons (by walk_at "ev") (EvsTo.cons (by walk_at "ev") EvsTo.nil (by rfl)) (by rfl)) (CallTo.level (marked_row D hl p) (by omega)) (by rfl)) (fun _ => by rfl))) (fun p _ _ => by walk_at "ev")
  · rw [List.length_map, esz]
    have h1 : ((rangeI 1 7).filter fun p => markedP l p).length ≤ (rangeI 1 7).length := List.length_filter_le _ _
    have h2 : (rangeI 1 7).length = 6 := by decide +kernel
    omega

set_option maxHeartbeats 1000000 in
theorem law9 (D : Gd G) (d l r : List Int) (t : Int) (hl : l ∈ rows) (hr : r ∈ rows) : ExTo G 4 (lawE pm cd doc L fa) (sgN d t l r (nearP l) (nearP r)) (stIn lawB 9) (.next (sgN d t l r (nearP l) (nearP r))) := by
  obtain ⟨o8, ho8, hd8⟩ := D.h8.obj
  have R := rows_ok r hr
  have esz : sizeLine = 16777216 := by decide +kernel
  have hc : CmpP .NotEq (intsD (nearP r)) (.list (((rangeI 1 7).filter fun p => markedP r p).map .int)) false := by rw [← R.marks]; exact ne_same _
  refine ExTo.ite (c := false) (TsTo.cmp (b1 := true) (b2 := true) (by walk_at "ev") (EvNew.ev (EvNew.comp (σf := [(Str.ofString "right", .sh (intsD r))]) (l := (rangeI 1 7).map .int) (comp_ok (by decide +kernel) (by walk_at "sub") (by walk_at "shs") (by walk_at "frees"))
    (IterTo.range2 (.name _ _) (by rfl) D.ra EvP.cInt EvP.cInt (by omega) (by omega) (by omega) (by omega) (by rfl) (by rfl)) (fun C => ?_) ?_ (fun _ => rfl))) hc (by with_unfolding_all rfl)) (fun h => nomatch h) (fun _ => ExsTo.nil)
  · exact CompAt.each PyData.int (fun p => [(Str.ofString "right", .sh (intsD r)), (Str.ofString "place", .sh (.int p))]) _ PyData.int (fun _ _ => compTurn_one ..) _ (fun p _ => CTgt.name (by rfl) (by walk_at "upd")) (fun _ _ => by walk_at "sub") (fun p _ => CTests.one (TsTo.val (b := true) (EvP.call (by rfl) (.inl D.h8.name) (by decide +kernel) ho8 hd8 (EvsTo.cons (by walk_at "ev") (EvsTo.cons (by walk_at "ev") EvsTo.nil (by rfl)) (by rfl)) (CallTo.level (marked_row D hr p) (by omega)) (by rfl)) (fun _ => by rfl))) (fun p _ _ => by walk_at "ev")
  · rw [List.length_map, esz]
    have h1 : ((rangeI 1 7).filter fun p => markedP r p).length ≤ (rangeI 1 7).length := List.length_filter_le _ _
    have h2 : (rangeI 1 7).length = 6 := by decide +kernel
    omega

theorem len_ints (xs : List Int) (h : xs.length ≤ 1000) : BuiltTo G "len" [intsD xs] (.int xs.length) := by
  have esz : sizeLine = 16777216 := by decide +kernel
  have := BuiltTo.lenL (G := G) (xs := xs.map .int) (by rw [List.length_map, esz]; omega)
  rw [List.length_map] at this; exact this

set_option maxHeartbeats 1000000 in
theorem law10 (D : Gd G) (d l r : List Int) (t : Int) (hl : l ∈ rows) (hr : r ∈ rows) : ExTo G n (lawE pm cd doc L fa) (sgN d t l r (nearP l) (nearP r)) (stIn lawB 10) (.next (sgM d t l r (nearP l) (nearP r) (manyN l r))) := by
  have R1 := (rows_ok l hl).nlen
  have R2 := (rows_ok r hr).nlen
  have e : min (min ((nearP l).length : Int) (nearP r).length) 3 = (manyN l r : Nat) := by unfold manyN; omega
  have b := BuiltTo.min3 (G := G) (a := (nearP l).length) (b := (nearP r).length) (c := 3)
  rw [e] at b
  exact ExTo.assign (d := .int (manyN l r)) (EvP.built (by rfl) D.mn (by decide +kernel) (EvsTo.cons (EvP.built1 (b1 := true) (by rfl) D.ln (by decide +kernel) (by walk_at "ev") (len_ints _ (by omega)) rfl (by rfl)) (EvsTo.cons (EvP.built1 (b1 := true) (by rfl) D.ln (by decide +kernel) (by walk_at "ev") (len_ints _ (by omega)) rfl (by rfl)) (EvsTo.cons EvP.cInt EvsTo.nil (by rfl)) (by rfl)) (by rfl)) b (by rfl) (by rfl)) (by walk_at "st") (by walk_at "upd") (by rfl)

set_option maxHeartbeats 1000000 in
theorem law11 (D : Gd G) (d l r : List Int) (t : Int) (hl : l ∈ rows) (hr : r ∈ rows) {rest : List Stmt} {o : Out} (h : ExsTo G n (lawE pm cd doc L fa) (sgF d t (manyN l r) (firstP l r) (secondP l r)) rest o) :
    ExsTo G n (lawE pm cd doc L fa) (sgM d t l r (nearP l) (nearP r) (manyN l r)) (stIn lawB 11 :: stIn lawB 12 :: rest) o := by
  have esz : sizeLine = 16777216 := by decide +kernel
  have R1 := (rows_ok l hl).nlen
  have R2 := (rows_ok r hr).nlen
  have m3 := @many_le l r
  refine' ExsTo.cons (σ1 := [(Str.ofString "draws", .sh (intsD d)), (Str.ofString "total", .sh (.int t)), (Str.ofString "left", .sh (intsD l)), (Str.ofString "right", .sh (intsD r)), (Str.ofString "near", .sh (intsD (nearP l))), (Str.ofString "far", .sh (intsD (nearP r))), (Str.ofString "many", .sh (.int (manyN l r))), (Str.ofString "first", .sh (intsD (firstP l r)))]) ?_ ?_
  · have e : intsD (firstP l r) = .list (((nearP l).map PyData.int).take ((manyN l r : Nat) : Int).toNat) := by
      show PyData.list _ = _
      unfold firstP; rw [List.map_take, Int.toNat_natCast]
    rw [e]
    exact ExTo.assign (EvP.upto (b1 := true) (by walk_at "ev") (by walk_at "ev") (by omega) (by rw [List.length_map, esz]; omega) (fun _ _ => rfl)) (by walk_at "st") (by walk_at "upd") (by rfl)
  · refine' ExsTo.cons (ExTo.assign (x := Str.ofString "second") (d := intsD (secondP l r)) (EvP.built (by rfl) D.so (by decide +kernel) (EvsTo.cons (d := intsD (second0 l r)) (EvNew.ev (EvNew.comp (σf := []) (l := ((nearP r).take (manyN l r)).map .int) (out := (second0 l r).map .int) (comp_ok (by decide +kernel) (by simp) allSh_nil (by decide +kernel)) (IterTo.list (.name _ _) ?_) (fun C => ?_) ?_ (fun _ => rfl))) EvsTo.nil (by rfl)) (BuiltTo.sorted ?_ ?_ ?_) (by rfl) (by rfl)) (by walk_at "st") (by walk_at "upd") (by rfl)) (ExsTo.sub (by walk_at "sub") (by walk_at "nodup") h)
    · have e : (.list (((nearP r).take (manyN l r)).map .int) : PyData) = .list (((nearP r).map PyData.int).take ((manyN l r : Nat) : Int).toNat) := by
        rw [List.map_take, Int.toNat_natCast]
      rw [e]
      exact EvP.upto (b1 := true) (by walk_at "ev") (by walk_at "ev") (by omega) (by rw [List.length_map, esz]; omega) (fun _ _ => rfl)
    · unfold second0
      rw [List.map_map]
      refine CompAt.each PyData.int (fun q => [(Str.ofString "mark", .sh (.int q))]) _ _ (fun _ _ => compTurn_one ..) _ (fun p _ => CTgt.name (by rfl) Upd.new) (fun _ _ p hp => by cases hp) (fun q hq => CTests.none) (fun p _ _ => ?_)
      show EvTo _ _ _ _ _ (.int (7 - p))
      walk_at "ev"
    · rw [List.length_map, ← List.length_reverse]
      show (secondP l r).length ≤ _
      rw [second_len, esz]; omega
    · rw [← List.length_reverse]
      show (secondP l r).length < _
      rw [second_len]; omega
    · exact List.reverse_perm _
    · exact second_up (rows_ok r hr)
end




theorem text_ascii (a b : List Int) (h : Str) (hh : ∀ c ∈ h.cps.toList, c < 128) : strIterType (textP a b h) = "str_ascii_iterator" := by
  refine ascii_iff.mpr fun c hc => ?_
  obtain ⟨p, hp, hc⟩ := gl_mem hc
  unfold pcsT at hp
  obtain ⟨q, _, rfl⟩ := List.mem_map.mp hp
  have hl : ∀ c ∈ lp.cps.toList, c < 128 := by decide +kernel
  have hr : ∀ c ∈ rp.cps.toList, c < 128 := by decide +kernel
  have he : ∀ c ∈ es.cps.toList, c < 128 := by decide +kernel
  have key : ∀ x y : Str, c ∈ (x ++ y).cps.toList → c ∈ x.cps.toList ∨ c ∈ y.cps.toList := fun x y h => by
    have : (x ++ y).cps = x.cps ++ y.cps := rfl
    rw [this, Array.toList_append] at h
    exact List.mem_append.mp h
  unfold pcT at hc
  rcases key _ _ hc with hc | hc
  · rcases key _ _ hc with hc | hc
    · split at hc
      · exact hl c hc
      · exact he c hc
    · split at hc
      · exact hh c hc
      · exact he c hc
  · split at hc
    · exact hr c hc
    · exact he c hc

noncomputable def betD (b : List Int × List Int) : PyData := .tuple [intsD b.1, intsD b.2]
noncomputable def fitsB (f s ch : List Int) : Bool := checkP (textP f ch es) && checkP (textP ch s es)
noncomputable def betStep (f s : List Int) (acc : List (List Int × List Int)) (ch : List Int) : List (List Int × List Int) := if fitsB f s ch then acc ++ [(ch, looseP f s ch)] else acc
noncomputable def betweenP (m : Nat) (f s : List Int) : List (List Int × List Int) := (choicesN m).foldl (betStep f s) []
noncomputable def heldP (m : Nat) (f s : List Int) : Bool := ((upFrom 0 m).filter fun k => decide (s.getD k.toNat 0 < f.getD k.toNat 0)).isEmpty
structure PairOk (m : Nat) (f s : List Int) : Prop where
  cnt : ((betweenP m f s).length : Int) = detP f s
  small : ∀ b ∈ betweenP m f s, b.2.length ≤ 64
  sum : ((betweenP m f s).map fun b => (2 : Int) ^ b.2.length).sum = if heldP m f s then 64 else 0

theorem choices_ent (m : Nat) (hm : m ≤ 3) : (choicesN m).length ≤ 100 ∧ ∀ ch ∈ choicesN m, ch.length = m ∧ ∀ x ∈ ch, 1 ≤ x ∧ x ≤ 6 := by
  have : m = 0 ∨ m = 1 ∨ m = 2 ∨ m = 3 := by omega
  rcases this with rfl | rfl | rfl | rfl <;> decide +kernel

noncomputable abbrev sgB (d : List Int) (t : Int) (m : Nat) (f s : List Int) (b : List (List Int × List Int)) : Sig := [(Str.ofString "draws", .sh (intsD d)), (Str.ofString "total", .sh (.int t)), (Str.ofString "many", .sh (.int m)), (Str.ofString "first", .sh (intsD f)), (Str.ofString "second", .sh (intsD s)), (Str.ofString "between", .own (b.map betD))]
noncomputable abbrev sgB2 (d : List Int) (t : Int) (m : Nat) (f s : List Int) (b : List (List Int × List Int)) (ch : List Int) : Sig := [(Str.ofString "draws", .sh (intsD d)), (Str.ofString "total", .sh (.int t)), (Str.ofString "many", .sh (.int m)), (Str.ofString "first", .sh (intsD f)), (Str.ofString "second", .sh (intsD s)), (Str.ofString "between", .own (b.map betD)), (Str.ofString "choice", .sh (intsD ch))]
noncomputable abbrev sgH (d : List Int) (t : Int) (m : Nat) (f s : List Int) (b : List (List Int × List Int)) : Sig := [(Str.ofString "draws", .sh (intsD d)), (Str.ofString "total", .sh (.int t)), (Str.ofString "many", .sh (.int m)), (Str.ofString "first", .sh (intsD f)), (Str.ofString "second", .sh (intsD s)), (Str.ofString "between", .sh (.list (b.map betD)))]
noncomputable abbrev sgI (d : List Int) (t : Int) (m : Nat) (f s : List Int) (b : List (List Int × List Int)) (h : Bool) : Sig := [(Str.ofString "draws", .sh (intsD d)), (Str.ofString "total", .sh (.int t)), (Str.ofString "many", .sh (.int m)), (Str.ofString "first", .sh (intsD f)), (Str.ofString "second", .sh (intsD s)), (Str.ofString "between", .sh (.list (b.map betD))), (Str.ofString "held", .sh (.bool h))]
noncomputable def hidesL : List Str := [Str.ofString "\\\\", Str.ofString "\"", Str.ofString "\"(\"", Str.ofString "\\)", Str.ofString "\\(", Str.ofString "\")\"", Str.ofString "\"\\\")\"", Str.ofString "\")\"\"(\""]
noncomputable abbrev sgJ (d : List Int) (t : Int) (m : Nat) (f s : List Int) (b : List (List Int × List Int)) (h : Bool) (seen : Int) : Sig := [(Str.ofString "draws", .sh (intsD d)), (Str.ofString "total", .sh (.int t)), (Str.ofString "many", .sh (.int m)), (Str.ofString "first", .sh (intsD f)), (Str.ofString "second", .sh (intsD s)), (Str.ofString "between", .sh (.list (b.map betD))), (Str.ofString "held", .sh (.bool h)), (Str.ofString "hides", .sh (.list (hidesL.map .str))), (Str.ofString "seen", .sh (.int seen))]

theorem bet_len (f s : List Int) : ∀ (l : List (List Int)) (acc : List (List Int × List Int)), (l.foldl (betStep f s) acc).length ≤ acc.length + l.length
  | [], acc => by simp
  | a :: r, acc => by
    have := bet_len f s r (betStep f s acc a)
    have h : (betStep f s acc a).length ≤ acc.length + 1 := by unfold betStep; split <;> simp
    simp only [List.foldl_cons, List.length_cons]
    omega

theorem CmpP.eqNil (xs : List Int) : CmpP .Eq (intsD xs) (.list []) xs.isEmpty := by
  have hdep : ∀ ns : List Int, PyData.depthAll (ns.map .int) = 0 := by
    intro ns
    induction ns with
    | nil => rfl
    | cons a r ih => simp [PyData.depthAll, PyData.depth, ih]
  have := CmpP.eq (intsD xs) (.list []) (lay_ints xs) rfl (by simp [PyData.depth, hdep])
  cases xs with
  | nil => exact this
  | cons a r => exact this

section
variable {G : Gx} {n : Nat} {pm cd doc : Value} {L fa : Addr}

theorem check_ev (D : Gd G) {σ : Sig} {e1 e2 e3 : Expr} {p1 p2 p3 p4 : Pos} {a b : List Int} {h : Str} (h1 : EvTo G 4 (lawE pm cd doc L fa) σ e1 (intsD a)) (h2 : EvTo G 4 (lawE pm cd doc L fa) σ e2 (intsD b)) (h3 : EvTo G 4 (lawE pm cd doc L fa) σ e3 (.str h)) (hl : h.length ≤ 100) (ha : ∀ c ∈ h.cps.toList, c < 128)
    (q1 : starEach [e1, e2, e3] (lawE pm cd doc L fa) = (false, eval e1 (lawE pm cd doc L fa)) :: starEach [e2, e3] (lawE pm cd doc L fa)) (q2 : starEach [e2, e3] (lawE pm cd doc L fa) = (false, eval e2 (lawE pm cd doc L fa)) :: starEach [e3] (lawE pm cd doc L fa)) (q3 : starEach [e3] (lawE pm cd doc L fa) = (false, eval e3 (lawE pm cd doc L fa)) :: starEach [] (lawE pm cd doc L fa)) :
    EvTo G 4 (lawE pm cd doc L fa) σ (.Call (.Name (Str.ofString "_check_parenthesis") p1) [.Call (.Name (Str.ofString "_law_text") p2) [e1, e2, e3] [] p3] [] p4) (.bool (checkP (textP a b h))) := by
  obtain ⟨o3, ho3, hd3⟩ := D.h3.obj
  obtain ⟨o11, ho11, hd11⟩ := D.h11.obj
  exact EvP.call (by rfl) (.inl D.h3.name) (by decide +kernel) ho3 hd3 (EvsTo.cons (EvP.call (by rfl) (.inl D.h11.name) (by decide +kernel) ho11 hd11 (EvsTo.cons h1 (EvsTo.cons h2 (EvsTo.cons h3 EvsTo.nil q3) q2) q1) (CallTo.level (text_call D.h11 D.ra a b h hl) (by omega)) q1) EvsTo.nil (by rfl)) (check_call D.h3 D.h1 D.h2 D.en D.ln _ (textP_ok a b h hl).1 (text_ascii a b h ha)) (by rfl)

theorem es_ok : es.length ≤ 100 ∧ ∀ c ∈ es.cps.toList, c < 128 := by decide +kernel
theorem map_snocB (l : List (List Int × List Int)) (a : List Int × List Int) : (l.map betD) ++ [betD a] = (l ++ [a]).map betD := by simp

set_option maxHeartbeats 1000000 in
theorem law14_turn (D : Gd G) (d : List Int) (t : Int) (m : Nat) (f s ch : List Int) (acc : List (List Int × List Int)) (hf : f.length = m) (hs : s.length = m) (hm : m ≤ 3) (hfe : ∀ x ∈ f, 1 ≤ x ∧ x ≤ 6) (hc : ch.length = m) (hce : ∀ x ∈ ch, 1 ≤ x ∧ x ≤ 6) (hacc : acc.length ≤ 1000) :
    ExsTo G 4 (lawE pm cd doc L fa) (sgB2 d t m f s acc ch) (loopIn lawB 14).2.2 (.next (sgB2 d t m f s (betStep f s acc ch) ch)) := by
  have esz : sizeLine = 16777216 := by decide +kernel
  obtain ⟨o13, ho13, hd13⟩ := D.h13.obj
  have tst : TsTo G 4 (lawE pm cd doc L fa) (sgB2 d t m f s acc ch) (ifIn (loopIn lawB 14).2.2 0).1 (fitsB f s ch) :=
    TsTo.and (TsTo.val (b := true) (check_ev D (by walk_at "ev") (by walk_at "ev") (h := es) EvP.cStr es_ok.1 es_ok.2 (by rfl) (by rfl) (by rfl)) (fun _ => by rfl)) (fun _ => TsTo.val (b := true) (check_ev D (by walk_at "ev") (by walk_at "ev") (h := es) EvP.cStr es_ok.1 es_ok.2 (by rfl) (by rfl) (by rfl)) (fun _ => by rfl))
  unfold betStep
  cases e : fitsB f s ch with
  | false =>
    simp only [Bool.false_eq_true, if_false]
    exact ExsTo.cons (ExTo.ite (c := false) (TsTo.cast tst e) (fun h => nomatch h) (fun _ => ExsTo.nil)) ExsTo.nil
  | true =>
    simp only [if_true]
    refine ExsTo.cons (ExTo.ite (c := true) (TsTo.cast tst e) (fun _ => ?_) (fun h => nomatch h)) ExsTo.nil
    refine' ExsTo.cons (ExTo.append (xs := acc.map betD) (d := betD (ch, looseP f s ch)) (by walk_at "mem") (by decide +kernel) (EvP.tup (EvsTo.cons (by walk_at "ev") (EvsTo.cons (EvP.call (by rfl) (.inl D.h13.name) (by decide +kernel) ho13 hd13 (EvsTo.cons (by walk_at "ev") (EvsTo.cons (by walk_at "ev") (EvsTo.cons (by walk_at "ev") EvsTo.nil (by rfl)) (by rfl)) (by rfl)) (CallTo.level (loose_call D.h13 D.ra D.mn D.ln D.en f s ch (by omega) (by omega) (by omega) (fun x hx => by have := hfe x hx; omega) (fun x hx => by have := hce x hx; omega)) (by omega)) (by rfl)) EvsTo.nil (by rfl)) (by rfl)) (by rw [esz]; simp)) (by rw [map_snocB]; walk_at "upd") (by rw [List.length_map, esz]; omega) (by rfl) (by rfl) (by rfl) (by rfl) (by rfl) (by rfl)) ExsTo.nil

set_option maxHeartbeats 1000000 in
theorem law1314 (D : Gd G) (d : List Int) (t : Int) (m : Nat) (f s : List Int) (hf : f.length = m) (hs : s.length = m) (hm : m ≤ 3) (hfe : ∀ x ∈ f, 1 ≤ x ∧ x ≤ 6) {rest : List Stmt} {o : Out}
    (h : ExsTo G 4 (lawE pm cd doc L fa) (sgH d t m f s (betweenP m f s)) rest o) : ExsTo G 4 (lawE pm cd doc L fa) (sgF d t m f s) (stIn lawB 13 :: stIn lawB 14 :: rest) o := by
  obtain ⟨c1, c2⟩ := choices_ent m hm
  obtain ⟨o10, ho10, hd10⟩ := D.h10.obj
  refine' ExsTo.cons (ExTo.assignNew (x := Str.ofString "between") (xs := ([] : List (List Int × List Int)).map betD) (EvNew.disp EvsTo.nil (by decide +kernel)) (by walk_at "st") (by walk_at "upd") (by rfl)) ?_
  have loop : ForAt G 4 (lawE pm cd doc L fa) (loopIn lawB 14).1 (loopIn lawB 14).2.2 (sgB d t m f s []) ((choicesN m).map intsD) true (.next (sgB d t m f s (betweenP m f s))) := by
    refine ForAt.foldl (sgB d t m f s) intsD (betStep f s) (fun acc l => acc.length + l.length ≤ 1000 ∧ ∀ ch ∈ l, ch.length = m ∧ ∀ x ∈ ch, 1 ≤ x ∧ x ≤ 6) (fun s => by walk_at "nodup") (fun acc ch r hi => ?_) _ _ ⟨by simp; omega, c2⟩
    obtain ⟨i1, i2⟩ := hi
    simp only [List.length_cons] at i1
    have hch := i2 ch (by simp)
    refine ⟨sgB2 d t m f s acc ch, sgB2 d t m f s (betStep f s acc ch) ch, TgtTo.name (by walk_at "st") (by walk_at "upd"), law14_turn D d t m f s ch acc hf hs hm hfe hch.1 hch.2 (by omega), by walk_at "sub", ?_, fun c hc => i2 c (by simp [hc])⟩
    have h : (betStep f s acc ch).length ≤ acc.length + 1 := by unfold betStep; split <;> simp
    omega
  refine ExsTo.cons (ExTo.for (IterTo.list (.name _ _) (EvP.call (by rfl) (.inl D.h10.name) (by decide +kernel) ho10 hd10 (EvsTo.cons (by walk_at "ev") EvsTo.nil (by rfl)) (CallTo.level (choices_call D.h10 D.ra m hm) (by omega)) (by rfl))) loop (fun _ => rfl)) ?_
  exact ExsTo.freeze (x := Str.ofString "between") (xs := (betweenP m f s).map betD) (by walk_at "mem") (by walk_at "upd") h

set_option maxHeartbeats 1000000 in
theorem law15 (D : Gd G) (d : List Int) (t : Int) (m : Nat) (f s : List Int) (hf : f.length = m) (hs : s.length = m) (hm : m ≤ 3) (hfe : ∀ x ∈ f, 1 ≤ x ∧ x ≤ 6) (hse : ∀ x ∈ s, 1 ≤ x ∧ x ≤ 6) (P : PairOk m f s) :
    ExTo G 4 (lawE pm cd doc L fa) (sgH d t m f s (betweenP m f s)) (stIn lawB 15) (.next (sgH d t m f s (betweenP m f s))) := by
  have esz : sizeLine = 16777216 := by decide +kernel
  obtain ⟨c1, c2⟩ := choices_ent m hm
  obtain ⟨o12, ho12, hd12⟩ := D.h12.obj
  have hbl : (betweenP m f s).length ≤ 100 := by have := bet_len f s (choicesN m) []; simp at this; unfold betweenP; omega
  have hln1 : BuiltTo G "len" [.list ((betweenP m f s).map betD)] (.int (betweenP m f s).length) := by have := BuiltTo.lenL (G := G) (xs := (betweenP m f s).map betD) (by rw [List.length_map, esz]; omega); rw [List.length_map] at this; exact this
  have ec : (((betweenP m f s).length : Int) != detP f s) = false := by rw [P.cnt]; simp
  exact ExTo.ite (c := false) (TsTo.cast (TsTo.cmp (b1 := true) (b2 := true) (EvP.built1 (b1 := true) (by rfl) D.ln (by decide +kernel) (by walk_at "ev") hln1 rfl (by rfl)) (EvP.call (by rfl) (.inl D.h12.name) (by decide +kernel) ho12 hd12 (EvsTo.cons (by walk_at "ev") (EvsTo.cons (by walk_at "ev") EvsTo.nil (by rfl)) (by rfl)) (CallTo.level (det_call D.h12 D.ra D.mx D.ln f s (by omega) (by omega) hfe hse) (by omega)) (by rfl)) (CmpP.neI _ _) (by with_unfolding_all rfl)) ec) (fun h => nomatch h) (fun _ => ExsTo.nil)

set_option maxHeartbeats 1000000 in
theorem law16 (D : Gd G) (d : List Int) (t : Int) (m : Nat) (f s : List Int) (hf : f.length = m) (hs : s.length = m) (hm : m ≤ 3) (b : List (List Int × List Int)) :
    ExTo G 4 (lawE pm cd doc L fa) (sgH d t m f s b) (stIn lawB 16) (.next (sgI d t m f s b (heldP m f s))) := by
  have esz : sizeLine = 16777216 := by decide +kernel
  have it := IterTo.range1 (G := G) (n := 4) (env := lawE pm cd doc L fa) (σ := sgH d t m f s b) (tgt := .Name (Str.ofString "k") ⟨136, 18, 136, 19⟩) (c := (m : Int)) (np := ⟨136, 23, 136, 28⟩) (pos := ⟨136, 23, 136, 34⟩) (e := .Name (Str.ofString "many") ⟨136, 29, 136, 33⟩) (.name _ _) (by rfl) D.ra (by walk_at "ev") (by omega) (by omega) (by rfl)
  rw [Int.toNat_natCast] at it
  refine ExTo.assign (d := .bool (heldP m f s)) (EvP.cmp (b1 := true) (b2 := true) (EvNew.ev (EvNew.comp (σf := [(Str.ofString "first", .sh (intsD f)), (Str.ofString "second", .sh (intsD s))]) (l := (upFrom 0 m).map .int) (out := ((upFrom 0 m).filter fun k => decide (s.getD k.toNat 0 < f.getD k.toNat 0)).map .int) (comp_ok (by decide +kernel) (by walk_at "sub") (by walk_at "shs") (by walk_at "frees"))
    it (fun C => ?_) ?_ (fun _ => rfl))) (EvP.disp EvsTo.nil (by decide +kernel)) (CmpP.eqNil _) (by with_unfolding_all rfl)) (by walk_at "st") (by walk_at "upd") (by rfl)
  · refine CompAt.each PyData.int (fun p => [(Str.ofString "first", .sh (intsD f)), (Str.ofString "second", .sh (intsD s)), (Str.ofString "k", .sh (.int p))]) _ PyData.int (fun _ _ => compTurn_one ..) _ (fun p _ => CTgt.name (by rfl) (by walk_at "upd")) (fun _ _ => by walk_at "sub") (fun p hp => ?_) (fun p _ _ => by walk_at "ev")
    have hm := upFrom_mem hp
    exact CTests.one (TsTo.cmp (b1 := true) (b2 := true) (EvP.item (b1 := true) (by walk_at "ev") (by walk_at "ev") (by omega) (by omega) (ix_int (by omega)) (fun _ _ => rfl)) (EvP.item (b1 := true) (by walk_at "ev") (by walk_at "ev") (by omega) (by omega) (ix_int (by omega)) (fun _ _ => rfl)) (CmpP.gt _ _) (by with_unfolding_all rfl))
  · rw [List.length_map, esz]
    have h1 : ((upFrom 0 m).filter fun k => decide (s.getD k.toNat 0 < f.getD k.toNat 0)).length ≤ (upFrom 0 m).length := List.length_filter_le _ _
    rw [upFrom_len] at h1
    omega

set_option maxHeartbeats 1000000 in
theorem law17 (D : Gd G) (d : List Int) (t : Int) (m : Nat) (f s : List Int) (hm : m ≤ 3) (P : PairOk m f s) :
    ExTo G 4 (lawE pm cd doc L fa) (sgI d t m f s (betweenP m f s) (heldP m f s)) (stIn lawB 17) (.next (sgI d t m f s (betweenP m f s) (heldP m f s))) := by
  have esz : sizeLine = 16777216 := by decide +kernel
  obtain ⟨c1, c2⟩ := choices_ent m hm
  have hbl : (betweenP m f s).length ≤ 100 := by have := bet_len f s (choicesN m) []; simp at this; unfold betweenP; omega
  have e1 : ((betweenP m f s).map fun b => (2 : Int) ^ b.2.length).map PyData.int = (((betweenP m f s).filter fun _ => true).map fun b => PyData.int ((2 : Int) ^ b.2.length)) := by
    rw [List.map_map, List.filter_eq_self.mpr (fun _ _ => rfl)]; rfl
  have ec : ((((betweenP m f s).map fun b => (2 : Int) ^ b.2.length).sum) != if heldP m f s then 64 else 0) = false := by rw [P.sum]; simp
  refine ExTo.ite (c := false) (TsTo.cast (TsTo.cmp (b1 := true) (b2 := true) (x := .int (((betweenP m f s).map fun b => (2 : Int) ^ b.2.length).sum)) (y := .int (if heldP m f s then 64 else 0)) (EvP.built1 (b1 := true) (by rfl) D.su (by decide +kernel) (EvNew.ev (EvNew.comp (σf := []) (l := (betweenP m f s).map betD) (out := ((betweenP m f s).map fun b => (2 : Int) ^ b.2.length).map PyData.int) (comp_ok (by decide +kernel) (by simp) allSh_nil (by decide +kernel)) (IterTo.list (.tup _ _ _) (by walk_at "ev")) (fun C => ?_) ?_ (fun _ => rfl))) BuiltTo.sum rfl (by rfl)) (EvP.ifExp (c := heldP m f s) (TsTo.val (b := true) (by walk_at "ev") (fun _ => by rfl)) (fun h => ?_) (fun h => ?_)) (CmpP.neI _ _) (by with_unfolding_all rfl)) ec) (fun h => nomatch h) (fun _ => ExsTo.nil)
  · rw [e1]
    refine CompAt.each betD (fun p => [(Str.ofString "choice", .sh (intsD p.1)), (Str.ofString "loose", .sh (intsD p.2))]) _ _ (fun _ _ => compTurn_one ..) _ (fun p _ => CTgt.pair (by rfl) Upd.new (by rfl) (by walk_at "upd")) (fun _ _ p hp => by cases hp) (fun p hp => CTests.none) (fun p hp _ => ?_)
    have hs := P.small p hp
    have hpw := BinP.powI 2 (p.2.length) (by omega) (by have e : Builtin.Int.intBits 2 = 2 := by decide +kernel
                                                        rw [e]; omega)
    rw [Int.toNat_natCast] at hpw
    exact EvP.bin EvP.cInt (EvP.built1 (b1 := true) (by rfl) D.ln (by decide +kernel) (by walk_at "ev") (len_ints _ (by omega)) rfl (by rfl)) hpw
  · rw [List.length_map, List.length_map, esz]; omega
  · rw [h]; exact EvP.cInt
  · rw [h]; exact EvP.cInt

set_option maxHeartbeats 1000000 in
theorem law1819 (d : List Int) (t : Int) (m : Nat) (f s : List Int) (b : List (List Int × List Int)) (h : Bool) {rest : List Stmt} {o : Out} (hh : ExsTo G 4 (lawE pm cd doc L fa) (sgJ d t m f s b h t) rest o) :
    ExsTo G 4 (lawE pm cd doc L fa) (sgI d t m f s b h) (stIn lawB 18 :: stIn lawB 19 :: rest) o := by
  refine' ExsTo.cons (ExTo.assign (x := Str.ofString "hides") (d := .list (hidesL.map .str)) (EvP.disp (EvsTo.cons EvP.cStr (EvsTo.cons EvP.cStr (EvsTo.cons EvP.cStr (EvsTo.cons EvP.cStr (EvsTo.cons EvP.cStr (EvsTo.cons EvP.cStr (EvsTo.cons EvP.cStr (EvsTo.cons EvP.cStr EvsTo.nil (by rfl)) (by rfl)) (by rfl)) (by rfl)) (by rfl)) (by rfl)) (by rfl)) (by rfl)) (by decide +kernel)) (by walk_at "st") (by walk_at "upd") (by rfl)) ?_
  refine' ExsTo.cons (ExTo.assign (x := Str.ofString "seen") (d := .int t) (by walk_at "ev") (by walk_at "st") (by walk_at "upd") (by rfl)) hh
end




theorem pow2_ok {n : Int} (h : n ≤ 64) : (Builtin.Int.intBits 2 : Int) * n ≤ 2 ^ 27 := by
  have e : Builtin.Int.intBits 2 = 2 := by decide +kernel
  rw [e]; omega
noncomputable def placesP (dr : Int) : List Int := (rangeI 1 7).filter fun p => (dr.fdiv (2 ^ (p - 1).toNat)).fmod 2 == 1
noncomputable def earlyP (m : Nat) (f P : List Int) : Bool := ((P.length : Int) == m) && ((upFrom 0 m).filter fun k => decide (P.getD k.toNat 0 < f.getD k.toNat 0)).isEmpty
noncomputable def lateP (m : Nat) (s P : List Int) : Bool := ((P.length : Int) == m) && ((upFrom 0 m).filter fun k => decide (s.getD k.toNat 0 < P.getD k.toNat 0)).isEmpty
noncomputable def fitTest (P : List Int) (b : List Int × List Int) : Bool := ((rangeI 1 7).filter fun p => (!(PyData.eqv (.bool (inI p b.1)) (.bool (inI p P)))) && (!inI p b.2)).isEmpty
noncomputable def fitStep (P : List Int) (acc : List (List Int)) (b : List Int × List Int) : List (List Int) := if fitTest P b then acc ++ [b.1] else acc
noncomputable def fitsP (b : List (List Int × List Int)) (P : List Int) : List (List Int) := b.foldl (fitStep P) []

structure SetOk (m : Nat) (f s P : List Int) : Prop where
  early : ∀ h ∈ hidesL, checkP (textP f P h) = earlyP m f P
  late : ∀ h ∈ hidesL, checkP (textP P s h) = lateP m s P
  fits : heldP m f s = true → fitsP (betweenP m f s) P = [walkP f s P]
  walk : heldP m f s = true → (earlyP m f P && lateP m s P) = (walkP f s P == P)

theorem eqv_ints : ∀ (a b : List Int), PyData.eqv (intsD a) (intsD b) = (a == b)
  | [], [] => rfl
  | [], _ :: _ => rfl
  | _ :: _, [] => rfl
  | x :: a, y :: b => by
    have ih := eqv_ints a b
    simp only [intsD, PyData.eqv, List.map_cons, PyData.eqvAll] at ih ⊢
    rw [ih]; rfl
theorem dep_ints (ns : List Int) : (intsD ns).depth ≤ 2 := by
  have hdep : ∀ ns : List Int, PyData.depthAll (ns.map .int) = 0 := by
    intro ns
    induction ns with
    | nil => rfl
    | cons a r ih => simp [PyData.depthAll, PyData.depth, ih]
  simp [PyData.depth, hdep]
theorem eq_ints (a b : List Int) : CmpP .Eq (intsD a) (intsD b) (a == b) := by
  rw [← eqv_ints]; exact CmpP.eq _ _ (lay_ints a) (lay_ints b) (Nat.le_trans (dep_ints a) (by decide))
theorem ne_same2 (w : List Int) : CmpP .NotEq (.list [intsD w]) (.list [intsD w]) false := by
  have hlay : (PyData.list [intsD w]).canLay0 = true := by
    have : (intsD w).canLay0 = true := lay_ints w
    simp [PyData.canLay0, PyData.canLayAll0] at this ⊢; exact this
  have hd := dep_ints w
  have := CmpP.ne (.list [intsD w]) (.list [intsD w]) hlay hlay (by simp only [PyData.depth, PyData.depthAll] at hd ⊢; omega)
  rwa [SeqAt.eqv_refl _ hlay] at this
theorem ix_str {l : List Str} {i : Int} (h : i.toNat < l.length) : (l.map PyData.str)[i.toNat]? = some (.str (l.getD i.toNat es)) := by
  rw [List.getElem?_map, List.getElem?_eq_getElem h, List.getD_eq_getElem?_getD, List.getElem?_eq_getElem h]; rfl
theorem hides_ok : hidesL.length = 8 ∧ ∀ h ∈ hidesL, h.length ≤ 100 ∧ ∀ c ∈ h.cps.toList, c < 128 := by decide +kernel
theorem hide_at (a : Int) : (a.fmod 8).toNat < hidesL.length ∧ hidesL.getD (a.fmod 8).toNat es ∈ hidesL := by
  have h1 := Int.fmod_nonneg_of_pos a (b := 8) (by omega)
  have h2 := Int.fmod_lt_of_pos a (b := 8) (by omega)
  have h3 : (a.fmod 8).toNat < hidesL.length := by rw [hides_ok.1]; omega
  refine ⟨h3, ?_⟩
  rw [List.getD_eq_getElem?_getD, List.getElem?_eq_getElem h3]
  exact List.getElem_mem _

noncomputable abbrev sgK (m : Nat) (f s : List Int) (b : List (List Int × List Int)) (h : Bool) (seen : Int) : Sig := [(Str.ofString "many", .sh (.int m)), (Str.ofString "first", .sh (intsD f)), (Str.ofString "second", .sh (intsD s)), (Str.ofString "between", .sh (.list (b.map betD))), (Str.ofString "held", .sh (.bool h)), (Str.ofString "hides", .sh (.list (hidesL.map .str))), (Str.ofString "seen", .sh (.int seen))]
noncomputable abbrev sgK1 (m : Nat) (f s : List Int) (b : List (List Int × List Int)) (h : Bool) (seen dr : Int) : Sig := [(Str.ofString "many", .sh (.int m)), (Str.ofString "first", .sh (intsD f)), (Str.ofString "second", .sh (intsD s)), (Str.ofString "between", .sh (.list (b.map betD))), (Str.ofString "held", .sh (.bool h)), (Str.ofString "hides", .sh (.list (hidesL.map .str))), (Str.ofString "seen", .sh (.int seen)), (Str.ofString "drawn", .sh (.int dr))]
noncomputable abbrev sgK2 (m : Nat) (f s : List Int) (b : List (List Int × List Int)) (h : Bool) (seen : Int) (P : List Int) : Sig := [(Str.ofString "many", .sh (.int m)), (Str.ofString "first", .sh (intsD f)), (Str.ofString "second", .sh (intsD s)), (Str.ofString "between", .sh (.list (b.map betD))), (Str.ofString "held", .sh (.bool h)), (Str.ofString "hides", .sh (.list (hidesL.map .str))), (Str.ofString "seen", .sh (.int seen)), (Str.ofString "places", .sh (intsD P))]
noncomputable abbrev sgK2e (m : Nat) (f s : List Int) (b : List (List Int × List Int)) (h : Bool) (seen : Int) (P : List Int) (ea : Bool) : Sig := [(Str.ofString "many", .sh (.int m)), (Str.ofString "first", .sh (intsD f)), (Str.ofString "second", .sh (intsD s)), (Str.ofString "between", .sh (.list (b.map betD))), (Str.ofString "held", .sh (.bool h)), (Str.ofString "hides", .sh (.list (hidesL.map .str))), (Str.ofString "seen", .sh (.int seen)), (Str.ofString "places", .sh (intsD P)), (Str.ofString "early", .sh (.bool ea))]
noncomputable abbrev sgK3 (m : Nat) (f s : List Int) (b : List (List Int × List Int)) (h : Bool) (seen : Int) (P : List Int) (ea la : Bool) : Sig := [(Str.ofString "many", .sh (.int m)), (Str.ofString "first", .sh (intsD f)), (Str.ofString "second", .sh (intsD s)), (Str.ofString "between", .sh (.list (b.map betD))), (Str.ofString "held", .sh (.bool h)), (Str.ofString "hides", .sh (.list (hidesL.map .str))), (Str.ofString "seen", .sh (.int seen)), (Str.ofString "places", .sh (intsD P)), (Str.ofString "early", .sh (.bool ea)), (Str.ofString "late", .sh (.bool la))]
noncomputable abbrev sgK4 (m : Nat) (f s : List Int) (b : List (List Int × List Int)) (h : Bool) (seen : Int) (P : List Int) (ea la : Bool) (w : List Int) (fi : List (List Int)) : Sig := [(Str.ofString "many", .sh (.int m)), (Str.ofString "first", .sh (intsD f)), (Str.ofString "second", .sh (intsD s)), (Str.ofString "between", .sh (.list (b.map betD))), (Str.ofString "held", .sh (.bool h)), (Str.ofString "hides", .sh (.list (hidesL.map .str))), (Str.ofString "seen", .sh (.int seen)), (Str.ofString "places", .sh (intsD P)), (Str.ofString "early", .sh (.bool ea)), (Str.ofString "late", .sh (.bool la)), (Str.ofString "walk", .sh (intsD w)), (Str.ofString "fits", .own (fi.map intsD))]
noncomputable abbrev sgK5 (m : Nat) (f s : List Int) (b : List (List Int × List Int)) (h : Bool) (seen : Int) (P : List Int) (ea la : Bool) (w : List Int) (fi : List (List Int)) (q : List Int × List Int) : Sig := [(Str.ofString "many", .sh (.int m)), (Str.ofString "first", .sh (intsD f)), (Str.ofString "second", .sh (intsD s)), (Str.ofString "between", .sh (.list (b.map betD))), (Str.ofString "held", .sh (.bool h)), (Str.ofString "hides", .sh (.list (hidesL.map .str))), (Str.ofString "seen", .sh (.int seen)), (Str.ofString "places", .sh (intsD P)), (Str.ofString "early", .sh (.bool ea)), (Str.ofString "late", .sh (.bool la)), (Str.ofString "walk", .sh (intsD w)), (Str.ofString "fits", .own (fi.map intsD)), (Str.ofString "choice", .sh (intsD q.1)), (Str.ofString "loose", .sh (intsD q.2))]

noncomputable abbrev lastL := loopIn lawB 20
noncomputable abbrev fitL := loopIn (ifIn lastL.2.2 6).2.1 2

section
variable {G : Gx} {n : Nat} {pm cd doc : Value} {L fa : Addr}

theorem rangeI_len6 : (rangeI 1 7).length = 6 := by decide +kernel

set_option maxHeartbeats 1000000 in
theorem lawK0 (D : Gd G) (m : Nat) (f s : List Int) (b : List (List Int × List Int)) (h : Bool) (seen dr : Int) :
    ExTo G 4 (lawE pm cd doc L fa) (sgK1 m f s b h seen dr) (stIn lastL.2.2 0) (.next (sgK2 m f s b h seen (placesP dr))) := by
  have esz : sizeLine = 16777216 := by decide +kernel
  refine ExTo.out (σ1 := [(Str.ofString "many", .sh (.int m)), (Str.ofString "first", .sh (intsD f)), (Str.ofString "second", .sh (intsD s)), (Str.ofString "between", .sh (.list (b.map betD))), (Str.ofString "held", .sh (.bool h)), (Str.ofString "hides", .sh (.list (hidesL.map .str))), (Str.ofString "seen", .sh (.int seen)), (Str.ofString "drawn", .sh (.int dr)), (Str.ofString "places", .sh (intsD (placesP dr)))]) (ExTo.assign (d := intsD (placesP dr)) (EvNew.ev (EvNew.comp (σf := [(Str.ofString "drawn", .sh (.int dr))]) (out := (placesP dr).map .int) (l := (rangeI 1 7).map .int) (comp_ok (by decide +kernel) (by walk_at "sub") (by walk_at "shs") (by walk_at "frees"))
    (IterTo.range2 (.name _ _) (by rfl) D.ra EvP.cInt EvP.cInt (by omega) (by omega) (by omega) (by omega) (by rfl) (by rfl)) (fun C => ?_) ?_ (fun _ => rfl))) (by walk_at "st") (by walk_at "upd") (by rfl)) (by walk_at "sub") (by walk_at "nodup")
  · refine CompAt.each PyData.int (fun p => [(Str.ofString "drawn", .sh (.int dr)), (Str.ofString "place", .sh (.int p))]) _ PyData.int (fun _ _ => compTurn_one ..) _ (fun p _ => CTgt.name (by rfl) (by walk_at "upd")) (fun _ _ => by walk_at "sub") (fun p hp => ?_) (fun p _ _ => by walk_at "ev")
    have hm := rangeI_mem hp
    have hpow : ∀ k : Nat, k ≤ 6 → (2 : Int) ^ k ≠ 0 ∧ ((2 : Int) ^ k).natAbs < 2 ^ 63 := by decide +kernel
    have hk := hpow (p - 1).toNat (by omega)
    have hpw := BinP.powI 2 (p - 1) (by omega) (pow2_ok (by omega))
    exact CTests.one (TsTo.cmp (b1 := true) (b2 := true) (EvP.bin (EvP.bin (by walk_at "ev") (EvP.bin EvP.cInt (by walk_at "ev") hpw) (BinP.divI _ _ hk.1 (noPy hk.2))) EvP.cInt (BinP.modI _ _ (by omega))) EvP.cInt (CmpP.eqI _ _) (by with_unfolding_all rfl))
  · rw [List.length_map, esz]
    have h1 : (placesP dr).length ≤ (rangeI 1 7).length := List.length_filter_le _ _
    rw [rangeI_len6] at h1
    omega

set_option maxHeartbeats 1000000 in
theorem lawK1 (D : Gd G) (m : Nat) (f s : List Int) (b : List (List Int × List Int)) (h : Bool) (seen : Int) (P : List Int) (hf : f.length = m) (hm : m ≤ 3) (hP : P.length ≤ 6) :
    ExTo G 4 (lawE pm cd doc L fa) (sgK2 m f s b h seen P) (stIn lastL.2.2 1) (.next (sgK2e m f s b h seen P (earlyP m f P))) := by
  have esz : sizeLine = 16777216 := by decide +kernel
  have it := IterTo.range1 (G := G) (n := 4) (env := lawE pm cd doc L fa) (σ := sgK2 m f s b h seen P) (tgt := .Name (Str.ofString "k") ⟨143, 47, 143, 48⟩) (c := (m : Int)) (np := ⟨143, 52, 143, 57⟩) (pos := ⟨143, 52, 143, 63⟩) (e := .Name (Str.ofString "many") ⟨143, 58, 143, 62⟩) (.name _ _) (by rfl) D.ra (by walk_at "ev") (by omega) (by omega) (by rfl)
  rw [Int.toNat_natCast] at it
  refine ExTo.assign (d := .bool (earlyP m f P)) (EvP.and (b1 := true) (b2 := true) (EvP.cmp (b1 := true) (b2 := true) (EvP.built1 (b1 := true) (by rfl) D.ln (by decide +kernel) (by walk_at "ev") (len_ints P (by omega)) rfl (by rfl)) (by walk_at "ev") (CmpP.eqI _ _) (by with_unfolding_all rfl)) (fun hc => ?_)) (by walk_at "st") (by walk_at "upd") (by rfl)
  have hPm : P.length = m := by have := beq_iff_eq.mp hc; omega
  refine EvP.cmp (b1 := true) (b2 := true) (EvNew.ev (EvNew.comp (σf := [(Str.ofString "first", .sh (intsD f)), (Str.ofString "places", .sh (intsD P))]) (l := (upFrom 0 m).map .int) (out := ((upFrom 0 m).filter fun k => decide (P.getD k.toNat 0 < f.getD k.toNat 0)).map .int) (comp_ok (by decide +kernel) (by walk_at "sub") (by walk_at "shs") (by walk_at "frees"))
    it (fun C => ?_) ?_ (fun _ => rfl))) (EvP.disp EvsTo.nil (by decide +kernel)) (CmpP.eqNil _) (by with_unfolding_all rfl)
  · refine CompAt.each PyData.int (fun p => [(Str.ofString "first", .sh (intsD f)), (Str.ofString "places", .sh (intsD P)), (Str.ofString "k", .sh (.int p))]) _ PyData.int (fun _ _ => compTurn_one ..) _ (fun p _ => CTgt.name (by rfl) (by walk_at "upd")) (fun _ _ => by walk_at "sub") (fun p hp => ?_) (fun p _ _ => by walk_at "ev")
    have hm := upFrom_mem hp
    exact CTests.one (TsTo.cmp (b1 := true) (b2 := true) (EvP.item (b1 := true) (by walk_at "ev") (by walk_at "ev") (by omega) (by omega) (ix_int (by omega)) (fun _ _ => rfl)) (EvP.item (b1 := true) (by walk_at "ev") (by walk_at "ev") (by omega) (by omega) (ix_int (by omega)) (fun _ _ => rfl)) (CmpP.lt _ _) (by with_unfolding_all rfl))
  · rw [List.length_map, esz]
    have h1 : ((upFrom 0 m).filter fun k => decide (P.getD k.toNat 0 < f.getD k.toNat 0)).length ≤ (upFrom 0 m).length := List.length_filter_le _ _
    rw [upFrom_len] at h1
    omega

set_option maxHeartbeats 1000000 in
theorem lawK2 (D : Gd G) (m : Nat) (f s : List Int) (b : List (List Int × List Int)) (h : Bool) (seen : Int) (P : List Int) (hs : s.length = m) (hm : m ≤ 3) (hP : P.length ≤ 6) (ea : Bool) :
    ExTo G 4 (lawE pm cd doc L fa) (sgK2e m f s b h seen P ea) (stIn lastL.2.2 2) (.next (sgK3 m f s b h seen P ea (lateP m s P))) := by
  have esz : sizeLine = 16777216 := by decide +kernel
  have it := IterTo.range1 (G := G) (n := 4) (env := lawE pm cd doc L fa) (σ := sgK2e m f s b h seen P ea) (tgt := .Name (Str.ofString "k") ⟨144, 46, 144, 47⟩) (c := (m : Int)) (np := ⟨144, 51, 144, 56⟩) (pos := ⟨144, 51, 144, 62⟩) (e := .Name (Str.ofString "many") ⟨144, 57, 144, 61⟩) (.name _ _) (by rfl) D.ra (by walk_at "ev") (by omega) (by omega) (by rfl)
  rw [Int.toNat_natCast] at it
  refine ExTo.assign (d := .bool (lateP m s P)) (EvP.and (b1 := true) (b2 := true) (EvP.cmp (b1 := true) (b2 := true) (EvP.built1 (b1 := true) (by rfl) D.ln (by decide +kernel) (by walk_at "ev") (len_ints P (by omega)) rfl (by rfl)) (by walk_at "ev") (CmpP.eqI _ _) (by with_unfolding_all rfl)) (fun hc => ?_)) (by walk_at "st") (by walk_at "upd") (by rfl)
  have hPm : P.length = m := by have := beq_iff_eq.mp hc; omega
  refine EvP.cmp (b1 := true) (b2 := true) (EvNew.ev (EvNew.comp (σf := [(Str.ofString "places", .sh (intsD P)), (Str.ofString "second", .sh (intsD s))]) (l := (upFrom 0 m).map .int) (out := ((upFrom 0 m).filter fun k => decide (s.getD k.toNat 0 < P.getD k.toNat 0)).map .int) (comp_ok (by decide +kernel) (by walk_at "sub") (by walk_at "shs") (by walk_at "frees"))
    it (fun C => ?_) ?_ (fun _ => rfl))) (EvP.disp EvsTo.nil (by decide +kernel)) (CmpP.eqNil _) (by with_unfolding_all rfl)
  · refine CompAt.each PyData.int (fun p => [(Str.ofString "places", .sh (intsD P)), (Str.ofString "second", .sh (intsD s)), (Str.ofString "k", .sh (.int p))]) _ PyData.int (fun _ _ => compTurn_one ..) _ (fun p _ => CTgt.name (by rfl) (by walk_at "upd")) (fun _ _ => by walk_at "sub") (fun p hp => ?_) (fun p _ _ => by walk_at "ev")
    have hm := upFrom_mem hp
    exact CTests.one (TsTo.cmp (b1 := true) (b2 := true) (EvP.item (b1 := true) (by walk_at "ev") (by walk_at "ev") (by omega) (by omega) (ix_int (by omega)) (fun _ _ => rfl)) (EvP.item (b1 := true) (by walk_at "ev") (by walk_at "ev") (by omega) (by omega) (ix_int (by omega)) (fun _ _ => rfl)) (CmpP.gt _ _) (by with_unfolding_all rfl))
  · rw [List.length_map, esz]
    have h1 : ((upFrom 0 m).filter fun k => decide (s.getD k.toNat 0 < P.getD k.toNat 0)).length ≤ (upFrom 0 m).length := List.length_filter_le _ _
    rw [upFrom_len] at h1
    omega

set_option maxHeartbeats 1000000 in
theorem lawK34 (D : Gd G) (m : Nat) (f s : List Int) (b : List (List Int × List Int)) (h : Bool) (seen : Int) (P : List Int) (O : SetOk m f s P) {rest : List Stmt} {o : Out}
    (hh : ExsTo G 4 (lawE pm cd doc L fa) (sgK3 m f s b h (seen + 2) P (earlyP m f P) (lateP m s P)) rest o) :
    ExsTo G 4 (lawE pm cd doc L fa) (sgK3 m f s b h seen P (earlyP m f P) (lateP m s P)) (stIn lastL.2.2 3 :: stIn lastL.2.2 4 :: stIn lastL.2.2 5 :: rest) o := by
  obtain ⟨a1, a2⟩ := hide_at seen
  obtain ⟨b1, b2⟩ := hide_at (seen + 1)
  have f1 := Int.fmod_nonneg_of_pos seen (b := 8) (by omega)
  have f2 := Int.fmod_nonneg_of_pos (seen + 1) (b := 8) (by omega)
  have f3 := Int.fmod_lt_of_pos seen (b := 8) (by omega)
  have f4 := Int.fmod_lt_of_pos (seen + 1) (b := 8) (by omega)
  have ho1 := hides_ok.2 _ a2
  have ho2 := hides_ok.2 _ b2
  have e1 : (!(checkP (textP f P (hidesL.getD (seen.fmod 8).toNat es)) == earlyP m f P)) = false := by rw [O.early _ a2]; simp
  have e2 : (!(checkP (textP P s (hidesL.getD ((seen + 1).fmod 8).toNat es)) == lateP m s P)) = false := by rw [O.late _ b2]; simp
  refine ExsTo.cons (ExTo.ite (c := false) (TsTo.cast (TsTo.cmp (b1 := true) (b2 := true) (check_ev D (by walk_at "ev") (by walk_at "ev") (EvP.item (b1 := true) (by walk_at "ev") (EvP.bin (by walk_at "ev") EvP.cInt (BinP.modI _ _ (by omega))) f1 (by omega) (ix_str a1) (fun _ _ => rfl)) ho1.1 ho1.2 (by rfl) (by rfl) (by rfl)) (by walk_at "ev") (CmpP.isNotB _ _) (by with_unfolding_all rfl)) e1) (fun h => nomatch h) (fun _ => ExsTo.nil)) ?_
  refine ExsTo.cons (ExTo.ite (c := false) (TsTo.cast (TsTo.cmp (b1 := true) (b2 := true) (check_ev D (by walk_at "ev") (by walk_at "ev") (EvP.item (b1 := true) (by walk_at "ev") (EvP.bin (EvP.bin (by walk_at "ev") EvP.cInt (BinP.addI _ _)) EvP.cInt (BinP.modI _ _ (by omega))) f2 (by omega) (ix_str b1) (fun _ _ => rfl)) ho2.1 ho2.2 (by rfl) (by rfl) (by rfl)) (by walk_at "ev") (CmpP.isNotB _ _) (by with_unfolding_all rfl)) e2) (fun h => nomatch h) (fun _ => ExsTo.nil)) ?_
  refine' ExsTo.cons (ExTo.aug (by walk_at "mem") (by walk_at "ev") (.inl rfl) (BinP.addI _ _) (by walk_at "st") (by walk_at "upd") (by decide +kernel)) hh

theorem map_snocC (l : List (List Int)) (a : List Int) : (l.map intsD) ++ [intsD a] = (l ++ [a]).map intsD := by simp

set_option maxHeartbeats 1000000 in
theorem fit_turn (D : Gd G) (m : Nat) (f s : List Int) (b : List (List Int × List Int)) (h : Bool) (seen : Int) (P : List Int) (ea la : Bool) (w : List Int) (fi : List (List Int)) (q : List Int × List Int) (hfi : fi.length ≤ 1000) :
    ExsTo G 4 (lawE pm cd doc L fa) (sgK5 m f s b h seen P ea la w fi q) fitL.2.2 (.next (sgK5 m f s b h seen P ea la w (fitStep P fi q) q)) := by
  have esz : sizeLine = 16777216 := by decide +kernel
  have tst : TsTo G 4 (lawE pm cd doc L fa) (sgK5 m f s b h seen P ea la w fi q) (ifIn fitL.2.2 0).1 (fitTest P q) := by
    refine TsTo.cmp (b1 := true) (b2 := true) (EvNew.ev (EvNew.comp (σf := [(Str.ofString "choice", .sh (intsD q.1)), (Str.ofString "loose", .sh (intsD q.2)), (Str.ofString "places", .sh (intsD P))]) (l := (rangeI 1 7).map .int) (out := ((rangeI 1 7).filter fun p => (!(PyData.eqv (.bool (inI p q.1)) (.bool (inI p P)))) && (!inI p q.2)).map .int) (comp_ok (by decide +kernel) (by walk_at "sub") (by walk_at "shs") (by walk_at "frees"))
      (IterTo.range2 (.name _ _) (by rfl) D.ra EvP.cInt EvP.cInt (by omega) (by omega) (by omega) (by omega) (by rfl) (by rfl)) (fun C => ?_) ?_ (fun _ => rfl))) (EvP.disp EvsTo.nil (by decide +kernel)) (CmpP.eqNil _) (by with_unfolding_all rfl)
    · refine CompAt.each PyData.int (fun p => [(Str.ofString "choice", .sh (intsD q.1)), (Str.ofString "loose", .sh (intsD q.2)), (Str.ofString "places", .sh (intsD P)), (Str.ofString "place", .sh (.int p))]) _ PyData.int (fun _ _ => compTurn_one ..) _ (fun p _ => CTgt.name (by rfl) (by walk_at "upd")) (fun _ _ => by walk_at "sub") (fun p hp => ?_) (fun p _ _ => by walk_at "ev")
      exact CTests.one (TsTo.and (TsTo.cmp (b1 := true) (b2 := true) (EvP.cmp (b1 := true) (b2 := true) (by walk_at "ev") (by walk_at "ev") (CmpP.inInts _ _) (by with_unfolding_all rfl)) (EvP.cmp (b1 := true) (b2 := true) (by walk_at "ev") (by walk_at "ev") (CmpP.inInts _ _) (by with_unfolding_all rfl)) (CmpP.ne _ _ rfl rfl (by simp [PyData.depth])) (by with_unfolding_all rfl)) (fun _ => TsTo.cmp (b1 := true) (b2 := true) (by walk_at "ev") (by walk_at "ev") (CmpP.notInInts _ _) (by with_unfolding_all rfl)))
    · rw [List.length_map, esz]
      have h1 : ((rangeI 1 7).filter fun p => (!(PyData.eqv (.bool (inI p q.1)) (.bool (inI p P)))) && (!inI p q.2)).length ≤ (rangeI 1 7).length := List.length_filter_le _ _
      rw [rangeI_len6] at h1
      omega
  unfold fitStep
  cases e : fitTest P q with
  | false =>
    simp only [Bool.false_eq_true, if_false]
    exact ExsTo.cons (ExTo.ite (c := false) (TsTo.cast tst e) (fun h => nomatch h) (fun _ => ExsTo.nil)) ExsTo.nil
  | true =>
    simp only [if_true]
    refine ExsTo.cons (ExTo.ite (c := true) (TsTo.cast tst e) (fun _ => ?_) (fun h => nomatch h)) ExsTo.nil
    refine' ExsTo.cons (ExTo.append (xs := fi.map intsD) (d := intsD q.1) (by walk_at "mem") (by decide +kernel) (by walk_at "ev") (by rw [map_snocC]; walk_at "upd") (by rw [List.length_map, esz]; omega) (by rfl) (by rfl) (by rfl) (by rfl) (by rfl) (by rfl)) ExsTo.nil

set_option maxHeartbeats 1000000 in
theorem lawK6 (D : Gd G) (m : Nat) (f s : List Int) (hf : f.length ≤ 100) (hs : s.length ≤ 100) (hb : (betweenP m f s).length ≤ 100) (seen : Int) (P : List Int) (O : SetOk m f s P) :
    ExTo G 4 (lawE pm cd doc L fa) (sgK3 m f s (betweenP m f s) (heldP m f s) seen P (earlyP m f P) (lateP m s P)) (stIn lastL.2.2 6) (.next (sgK m f s (betweenP m f s) (heldP m f s) seen)) := by
  obtain ⟨o14, ho14, hd14⟩ := D.h14.obj
  refine ExTo.ite (c := heldP m f s) (TsTo.val (b := true) (by walk_at "ev") (fun _ => by rfl)) (fun hh => ?_) (fun _ => ExsTo.out ExsTo.nil (by walk_at "sub") (by walk_at "nodup"))
  have of := O.fits hh
  have ow := O.walk hh
  refine' ExsTo.cons (ExTo.assign (x := Str.ofString "walk") (d := intsD (walkP f s P)) (EvP.call (by rfl) (.inl D.h14.name) (by decide +kernel) ho14 hd14 (EvsTo.cons (by walk_at "ev") (EvsTo.cons (by walk_at "ev") (EvsTo.cons (by walk_at "ev") EvsTo.nil (by rfl)) (by rfl)) (by rfl)) (CallTo.level (walk_call D.h14 D.ra D.mn D.mx D.ln f s P hf hs) (by omega)) (by rfl)) (by walk_at "st") (by walk_at "upd") (by rfl)) ?_
  refine' ExsTo.cons (ExTo.assignNew (x := Str.ofString "fits") (xs := ([] : List (List Int)).map intsD) (EvNew.disp EvsTo.nil (by decide +kernel)) (by walk_at "st") (by walk_at "upd") (by rfl)) ?_
  have loop : ForAt G 4 (lawE pm cd doc L fa) fitL.1 fitL.2.2 (sgK4 m f s (betweenP m f s) (heldP m f s) seen P (earlyP m f P) (lateP m s P) (walkP f s P) []) ((betweenP m f s).map betD) true (.next (sgK4 m f s (betweenP m f s) (heldP m f s) seen P (earlyP m f P) (lateP m s P) (walkP f s P) (fitsP (betweenP m f s) P))) := by
    refine ForAt.foldl (sgK4 m f s (betweenP m f s) (heldP m f s) seen P (earlyP m f P) (lateP m s P) (walkP f s P)) betD (fitStep P) (fun acc l => acc.length + l.length ≤ 1000) (fun s => by walk_at "nodup") (fun acc q r hi => ?_) _ _ (by simp; omega)
    simp only [List.length_cons] at hi
    refine ⟨sgK5 m f s (betweenP m f s) (heldP m f s) seen P (earlyP m f P) (lateP m s P) (walkP f s P) acc q, _, TgtTo.pair (by walk_at "st") (by walk_at "upd") (by walk_at "st") (by walk_at "upd"), fit_turn D m f s _ _ seen P _ _ _ acc q (by omega), by walk_at "sub", ?_⟩
    have h : (fitStep P acc q).length ≤ acc.length + 1 := by unfold fitStep; split <;> simp
    omega
  rw [of] at loop
  refine ExsTo.cons (ExTo.for (IterTo.list (.tup _ _ _) (by walk_at "ev")) loop (fun _ => rfl)) ?_
  have ew : (!((earlyP m f P && lateP m s P) == (walkP f s P == P))) = false := by rw [ow]; simp
  refine ExsTo.cons (ExTo.ite (c := false) (TsTo.cast (TsTo.or (TsTo.cmp (b1 := false) (b2 := true) (EvP.nameOwn (xs := [walkP f s P].map intsD) (by walk_at "mem") (by decide +kernel)) (EvP.disp (EvsTo.cons (by walk_at "ev") EvsTo.nil (by rfl)) (by show 1 ≤ sizeLine; decide +kernel)) (ne_same2 (walkP f s P)) (by with_unfolding_all rfl)) (fun _ => TsTo.cmp (b1 := true) (b2 := true) (EvP.and (b1 := true) (b2 := true) (by walk_at "ev") (fun _ => by walk_at "ev")) (EvP.cmp (b1 := true) (b2 := true) (by walk_at "ev") (by walk_at "ev") (eq_ints _ _) (by with_unfolding_all rfl)) (CmpP.isNotB _ _) (by with_unfolding_all rfl))) (by rw [ew]; rfl)) (fun h => nomatch h) (fun _ => ExsTo.nil)) ?_
  exact ExsTo.out ExsTo.nil (by walk_at "sub") (by walk_at "nodup")
end




noncomputable def sublists : List Int → List (List Int)
  | [] => [[]]
  | x :: r => (sublists r).flatMap fun l => [l, x :: l]
noncomputable def allSets : List (List Int) := sublists [1, 2, 3, 4, 5, 6]
theorem filter_sub (q : Int → Bool) : ∀ l : List Int, l.filter q ∈ sublists l
  | [] => by simp [sublists]
  | x :: r => by
    simp only [sublists, List.mem_flatMap]
    refine ⟨r.filter q, filter_sub q r, ?_⟩
    rw [List.filter_cons]
    split <;> simp
theorem places_in (dr : Int) : placesP dr ∈ allSets := by
  have e : rangeI 1 7 = [1, 2, 3, 4, 5, 6] := by decide +kernel
  unfold placesP
  rw [e]
  exact filter_sub _ _
theorem sub_len : ∀ (l : List Int), ∀ P ∈ sublists l, P.length ≤ l.length
  | [], P, h => by simp [sublists] at h; simp [h]
  | x :: r, P, h => by
    simp only [sublists, List.mem_flatMap] at h
    obtain ⟨l, hl, h⟩ := h
    have := sub_len r l hl
    simp only [List.mem_cons, List.not_mem_nil, or_false] at h
    rcases h with rfl | rfl <;> simp only [List.length_cons] <;> omega

structure LawFacts : Prop where
  pair : ∀ l ∈ rows, ∀ r ∈ rows, PairOk (manyN l r) (firstP l r) (secondP l r)
  sets : ∀ l ∈ rows, ∀ r ∈ rows, ∀ P ∈ allSets, SetOk (manyN l r) (firstP l r) (secondP l r) P

section
variable {G : Gx} {n : Nat} {pm cd doc : Value} {L fa : Addr}

set_option maxHeartbeats 1000000 in
theorem last_turn (D : Gd G) (m : Nat) (f s : List Int) (hf : f.length = m) (hs : s.length = m) (hm : m ≤ 3) (seen dr : Int) (O : SetOk m f s (placesP dr)) :
    ExsTo G 4 (lawE pm cd doc L fa) (sgK1 m f s (betweenP m f s) (heldP m f s) seen dr) lastL.2.2 (.next (sgK m f s (betweenP m f s) (heldP m f s) (seen + 2))) := by
  have e : lastL.2.2 = [stIn lastL.2.2 0, stIn lastL.2.2 1, stIn lastL.2.2 2, stIn lastL.2.2 3, stIn lastL.2.2 4, stIn lastL.2.2 5, stIn lastL.2.2 6] := by rfl
  have hP : (placesP dr).length ≤ 6 := sub_len _ _ (places_in dr)
  have hb : (betweenP m f s).length ≤ 100 := by
    have := bet_len f s (choicesN m) []
    have c1 := (choices_ent m hm).1
    simp at this; unfold betweenP; omega
  rw [e]
  refine ExsTo.cons (lawK0 D m f s _ _ seen dr) (ExsTo.cons (lawK1 D m f s _ _ seen _ hf hm hP) (ExsTo.cons (lawK2 D m f s _ _ seen _ hs hm hP _) (lawK34 D m f s _ _ seen _ O (ExsTo.cons (lawK6 D m f s (by omega) (by omega) hb (seen + 2) _ O) ExsTo.nil))))

set_option maxHeartbeats 1000000 in
theorem law20 (D : Gd G) (d : List Int) (t : Int) (hd : d.length = 6) (m : Nat) (f s : List Int) (hf : f.length = m) (hs : s.length = m) (hm : m ≤ 3) (O : ∀ P ∈ allSets, SetOk m f s P) :
    ∃ σ, ExTo G 4 (lawE pm cd doc L fa) (sgJ d t m f s (betweenP m f s) (heldP m f s) t) (stIn lawB 20) (.next σ) := by
  have loop : ForAt G 4 (lawE pm cd doc L fa) lastL.1 lastL.2.2 (sgK m f s (betweenP m f s) (heldP m f s) t) (([d.getD 4 0, d.getD 5 0, t] : List Int).map .int) true (.next (sgK m f s (betweenP m f s) (heldP m f s) (([d.getD 4 0, d.getD 5 0, t] : List Int).foldl (fun seen _ => seen + 2) t))) := by
    refine ForAt.foldl (sgK m f s (betweenP m f s) (heldP m f s)) PyData.int (fun seen _ => seen + 2) (fun _ _ => True) (fun s => by walk_at "nodup") (fun seen dr r _ => ?_) _ _ trivial
    exact ⟨sgK1 m f s (betweenP m f s) (heldP m f s) seen dr, _, TgtTo.name (by walk_at "st") (by walk_at "upd"), last_turn D m f s hf hs hm seen dr (O _ (places_in dr)), fun _ h => h, trivial⟩
  have it : IterTo G 4 (lawE pm cd doc L fa) (sgJ d t m f s (betweenP m f s) (heldP m f s) t) lastL.1 lastL.2.1 (([d.getD 4 0, d.getD 5 0, t] : List Int).map .int) true :=
    IterTo.list (.name _ _) (EvP.disp (EvsTo.cons (EvP.item (b1 := true) (by walk_at "ev") EvP.cInt (by omega) (by omega) (ix_int (by rw [hd]; decide)) (fun _ _ => rfl)) (EvsTo.cons (EvP.item (b1 := true) (by walk_at "ev") EvP.cInt (by omega) (by omega) (ix_int (by rw [hd]; decide)) (fun _ _ => rfl)) (EvsTo.cons (by walk_at "ev") EvsTo.nil (by rfl)) (by rfl)) (by rfl)) (by show 3 ≤ sizeLine; decide +kernel))
  exact ⟨_, ExTo.for it (ForAt.sub (σ' := sgK m f s (betweenP m f s) (heldP m f s) t) (by walk_at "sub") (by walk_at "nodup") loop) (fun _ => rfl)⟩

set_option maxHeartbeats 2000000 in
theorem law_body (D : Gd G) (F : LawFacts) (script : List Int) (h63 : script.length ≤ 63) : ExsTo G 4 (lawE pm cd doc L fa) (sgS script) lawB (.ret (.bool true)) := by
  have e : lawB = [stIn lawB 0, stIn lawB 1, stIn lawB 2, stIn lawB 3, stIn lawB 4, stIn lawB 5, stIn lawB 6, stIn lawB 7, stIn lawB 8, stIn lawB 9, stIn lawB 10, stIn lawB 11, stIn lawB 12, stIn lawB 13, stIn lawB 14, stIn lawB 15, stIn lawB 16, stIn lawB 17, stIn lawB 18, stIn lawB 19, stIn lawB 20, stIn lawB 21] := by rfl
  rw [e]
  have hd := drawsP_len script
  have hl : leftP script ∈ rows := rulerP_row _ _ _
  have hr : rightP script ∈ rows := rulerP_row _ _ _
  have Rl := rows_ok _ hl
  have Rr := rows_ok _ hr
  have PO := F.pair _ hl _ hr
  refine ExsTo.cons (law0 D script h63) (ExsTo.cons (law1 D script) (ExsTo.cons (law2 D script) (ExsTo.cons (law3 _ _) (ExsTo.cons (law4 _ _ hd) (ExsTo.cons (law5 _ _ _ hd) ?_)))))
  refine law67 D (drawsP script) (leftP script) (rightP script) (totalP script) hl hr ?_
  refine ExsTo.cons (law8 D _ _ _ _ hl hr) (ExsTo.cons (law9 D _ _ _ _ hl hr) (ExsTo.cons (law10 D _ _ _ _ hl hr) (law11 D _ _ _ _ hl hr ?_)))
  refine law1314 D _ _ _ _ _ first_len second_len many_le (first_ent Rl) ?_
  refine ExsTo.cons (law15 D _ _ _ _ _ first_len second_len many_le (first_ent Rl) (second_ent Rr) PO) (ExsTo.cons (law16 D _ _ _ _ _ first_len second_len many_le _) (ExsTo.cons (law17 D _ _ _ _ _ many_le PO) (law1819 _ _ _ _ _ _ _ ?_)))
  obtain ⟨σ, h20⟩ := law20 (pm := pm) (cd := cd) (doc := doc) (L := L) (fa := fa) D (drawsP script) (totalP script) hd (manyN (leftP script) (rightP script)) (firstP (leftP script) (rightP script)) (secondP (leftP script) (rightP script)) first_len second_len many_le (F.sets _ hl _ hr)
  refine ExsTo.cons h20 (ExsTo.ret (ExTo.return EvP.cBool))
end
end Mine
end

section
open PySem PySem.W PyProof.Rows
namespace Mine

noncomputable def defIx : List Nat := [1, 2, 3, 6, 8, 9, 10, 11, 12, 13, 14, 15]
noncomputable def builtIx : List Str := [Str.ofString "enumerate", Str.ofString "range", Str.ofString "len", Str.ofString "min", Str.ofString "max", Str.ofString "sum", Str.ofString "sorted"]

theorem boots : bootBuiltins (Str.ofString "enumerate") = some (.type "enumerate") ∧ bootBuiltins (Str.ofString "range") = some (.type "range") ∧ bootBuiltins (Str.ofString "len") = some (.builtin "len") ∧
    bootBuiltins (Str.ofString "min") = some (.builtin "min") ∧ bootBuiltins (Str.ofString "max") = some (.builtin "max") ∧ bootBuiltins (Str.ofString "sum") = some (.builtin "sum") ∧ bootBuiltins (Str.ofString "sorted") = some (.builtin "sorted") :=
  ⟨by kernel_rfl, by kernel_rfl, by kernel_rfl, by kernel_rfl, by kernel_rfl, by kernel_rfl, by kernel_rfl⟩

theorem rm_caller : Rm 5 callerA := ⟨by rfl, by decide +kernel, by decide +kernel⟩

set_option maxHeartbeats 1000000 in
theorem join_law (F : LawFacts) {prog view : Program} {w : World} {s₁ : Shared} {mg mb : Str → Option Value} {fa : Addr} {names : List Str} {consts : List (Str × PyData)}
    (GL : Glob 0 mg mb (List.map itemOf (recsOf view)) consts [] names s₁.heap) (TA : ∀ e : DefItem, e ∈ List.map itemOf (recsOf view) → e.params.defaults = [] → e.At mg s₁.heap)
    (hdefs : ∀ i ∈ defIx, defAt i ∈ List.map itemOf (recsOf view)) (hcm : (Str.ofString "CHAR_MAX", PyData.int 127) ∈ consts) (hnames : ∀ x ∈ builtIx, x ∉ names ∧ x ∉ bootMainNames)
    (hmg : mg (Str.ofString "law") = some (.ref fa)) {script : List Int} {a : Addr} {vs : List Value} (hL : s₁.heap.IsList a vs.toArray) (hI : IntsAre vs script) (h63 : ¬ ((63 : Nat) : Int) < (script.length : Int))
    {Q : Value → Shared → Prop} {E : Value → Shared → Prop} (hQ : ∀ s', Mv [] [] s₁ s' → Q (.bool true) s') :
    wpAny (model prog w) callerA (call (.ref fa) [.ref a]) Q E s₁ := by
  let G : Gx := ⟨prog, w, s₁.heap, mg, mb, GL.g, GL.b, GL.nolimit⟩
  have hnd : ∀ i ∈ defIx, (defAt i).params.defaults = [] := by
    intro i hi
    simp only [defIx, List.mem_cons, List.not_mem_nil, or_false] at hi
    rcases hi with rfl | rfl | rfl | rfl | rfl | rfl | rfl | rfl | rfl | rfl | rfl | rfl <;> rfl
  have key : ∀ i : Nat, ∃ q : Addr × Value × Value × Value, i ∈ defIx → Has G i q.1 q.2.1 q.2.2.1 q.2.2.2 := by
    intro i
    by_cases hi : i ∈ defIx
    · obtain ⟨a, c, P, o, pm, doc, h1, h2, h3, h4, _⟩ := TA _ (hdefs i hi) (hnd i hi)
      exact ⟨(a, pm, .ref c, doc), fun _ => ⟨h1, ⟨o, h2, h3⟩, h4⟩⟩
    · exact ⟨(0, .none, .none, .none), fun h => absurd h hi⟩
  obtain ⟨q, hq⟩ : ∃ q : Nat → Addr × Value × Value × Value, ∀ i ∈ defIx, Has G i (q i).1 (q i).2.1 (q i).2.2.1 (q i).2.2.2 := ⟨fun i => Classical.choose (key i), fun i => Classical.choose_spec (key i)⟩
  obtain ⟨v, hv1, hv2⟩ := GL.bound _ hcm
  have hv : ∃ t, v = .int 127 t := by
    have := hv2 s₁.heap
    cases this
    exact ⟨_, rfl⟩
  obtain ⟨t, rfl⟩ := hv
  have bi : ∀ x ∈ builtIx, ∀ u, x ≠ Str.ofString "__name__" → bootBuiltins x = some u → GlobIs G x u := fun x hx u hn hu => .inr ⟨GL.free x (hnames x hx).1 (hnames x hx).2, (GL.builtins x hn).trans hu⟩
  obtain ⟨b1, b2, b3, b4, b5, b6, b7⟩ := boots
  let D : Gd G := {
    f := fun i => (q i).1
    pm := fun i => (q i).2.1
    cd := fun i => (q i).2.2.1
    doc := fun i => (q i).2.2.2
    tok := t
    h1 := hq 1 (by decide)
    h2 := hq 2 (by decide)
    h3 := hq 3 (by decide)
    h6 := hq 6 (by decide)
    h8 := hq 8 (by decide)
    h9 := hq 9 (by decide)
    h10 := hq 10 (by decide)
    h11 := hq 11 (by decide)
    h12 := hq 12 (by decide)
    h13 := hq 13 (by decide)
    h14 := hq 14 (by decide)
    cm := .inl hv1
    en := bi _ (by decide +kernel) _ (by decide +kernel) b1
    ra := bi _ (by decide +kernel) _ (by decide +kernel) b2
    ln := bi _ (by decide +kernel) _ (by decide +kernel) b3
    mn := bi _ (by decide +kernel) _ (by decide +kernel) b4
    mx := bi _ (by decide +kernel) _ (by decide +kernel) b5
    su := bi _ (by decide +kernel) _ (by decide +kernel) b6
    so := bi _ (by decide +kernel) _ (by decide +kernel) b7 }
  have H := hq 15 (by decide)
  have efa : (q 15).1 = fa := by
    have h1 := H.name
    have h2 : (defAt 15).name = Str.ofString "law" := by rfl
    rw [h2] at h1
    have := h1.symm.trans hmg
    injection this with this; injection this
  have hlen : script.length ≤ 63 := by omega
  have C : CallTo G 5 fa [intsD script] (.bool true) := by
    rw [← efa]
    refine CallTo.of (H.at (names := [Str.ofString "script"]) (by decide +kernel) (by decide +kernel) (by decide +kernel) (by decide +kernel) (fun vs h => by
      match vs, h with
      | [a], _ => rfl)) (by rfl) rfl fun L => ?_
    exact law_body D F script hlen
  have hrep : RepAll (Pt s₁.heap []) [intsD script] [.ref a] := by
    obtain ⟨o, ho, hc, n, hd⟩ := hL
    exact RepAll.cons (Rep.list ⟨ho, by simp⟩ hc hd (RepAll.of_ints (by simpa using hI))) RepAll.nil
  refine wpAny_mono (C callerA rm_caller [] s₁ [.ref a] (fun _ _ e => e) (fun _ h => nomatch h) hrep E) (fun v s' h => ?_) fun _ _ x => x
  obtain ⟨r, m⟩ := h
  obtain rfl := r.bool_inv
  exact hQ s' m
end Mine
end

section
open PySem PyProof.Rows
namespace Mine

theorem occ_go (s sub : Str) (hi : Nat) : ∀ (l : List Nat) (found : Array Nat) (free : Nat), (1 ≤ found.size ∨ (free = 0 ∧ ∃ i ∈ l, i + sub.length ≤ hi ∧ Builtin.Str.subAt s sub i = true)) →
    1 ≤ (Id.run (forIn l (found, free) fun i __s =>
              if (decide (__s.fst.size < 1) && decide (__s.snd ≤ i) && decide (i + sub.length ≤ hi) && Builtin.Str.subAt s sub i) = true then
                pure (ForInStep.yield (__s.fst.push i, i + sub.length))
              else pure (ForInStep.yield (__s.fst, __s.snd)))).fst.size
  | [], found, free, h => by
    rcases h with h | ⟨_, i, hi, _⟩
    · exact h
    · cases hi
  | a :: r, found, free, h => by
    rw [List.forIn_cons]
    by_cases c : (decide (found.size < 1) && decide (free ≤ a) && decide (a + sub.length ≤ hi) && Builtin.Str.subAt s sub a) = true
    · rw [if_pos c]
      exact occ_go s sub hi r _ _ (.inl (by rw [Array.size_push]; omega))
    · rw [if_neg c]
      refine occ_go s sub hi r _ _ ?_
      rcases h with h | ⟨h0, i, hi', h1, h2⟩
      · exact .inl h
      · by_cases k : 1 ≤ found.size
        · exact .inl k
        · refine .inr ⟨h0, i, ?_, h1, h2⟩
          rcases List.mem_cons.mp hi' with rfl | hm
          · exfalso
            apply c
            simp only [Bool.and_eq_true, decide_eq_true_eq]
            exact ⟨⟨⟨by omega, by omega⟩, h1⟩, h2⟩
          · exact hm

theorem dq_eq : dq = ⟨#[34]⟩ := by decide +kernel
theorem lp_eq : lp = ⟨#[40]⟩ := by decide +kernel
theorem rp_eq : rp = ⟨#[41]⟩ := by decide +kernel
theorem bs_eq : bs = ⟨#[92]⟩ := by decide +kernel

theorem contains_none {x : Str} (h : Txt.contains x dq = false) : 34 ∉ x.cps.toList := fun hm => by
  obtain ⟨i, hi, e⟩ := List.getElem_of_mem hm
  have hil : i < x.cps.size := by simpa using hi
  have e' : x.cps[i] = 34 := by simpa using e
  unfold Txt.contains Builtin.Str.occurrences at h
  simp only [Std.Legacy.Range.forIn_eq_forIn_range', Std.Legacy.Range.size] at h
  have hsub : Builtin.Str.subAt x dq i = true := by
    unfold Builtin.Str.subAt
    rw [dq_eq]
    have : x.cps.extract i (i + (⟨#[34]⟩ : Str).length) = #[34] := by
      apply Array.ext
      · rw [Array.size_extract]
        show min (i + 1) x.cps.size - i = 1
        omega
      · intro j h1 h2
        have : j = 0 := by simp at h2; omega
        subst this
        simp [e']
    rw [this]; rfl
  have hlen : dq.length = 1 := by rw [dq_eq]; rfl
  have key := occ_go x dq x.length (List.range' 0 ((x.length + 1 - 0 + 1 - 1) / 1)) #[] 0 (.inr ⟨rfl, i, by
    rw [List.mem_range']
    exact ⟨i, by show i < _; have : x.length = x.cps.size := rfl; omega, by omega⟩, by rw [hlen]; have : x.length = x.cps.size := rfl; omega, hsub⟩)
  simp only [Bool.not_eq_false'] at h
  have h' := List.isEmpty_iff.mp h
  generalize hf : (Id.run (forIn (List.range' 0 ((x.length + 1 - 0 + 1 - 1) / 1)) ((#[] : Array Nat), 0) fun i __s =>
              if (decide (__s.fst.size < 1) && decide (__s.snd ≤ i) && decide (i + dq.length ≤ x.length) && Builtin.Str.subAt x dq i) = true then
                pure (ForInStep.yield (__s.fst.push i, i + dq.length))
              else pure (ForInStep.yield (__s.fst, __s.snd)))) = R at key
  have h2 : R.fst.toList = [] := by rw [← hf]; exact h'
  have := congrArg List.length h2
  simp at this
  rw [this] at key
  simp at key
end Mine
end

section
open PySem PyProof.Rows
namespace Mine

/-- brackets outside what is escaped -/
noncomputable def chkGo : List Nat → Bool → Nat → Bool
  | [], _, o => Nat.beq o 0
  | c :: r, true, o => chkGo r false o
  | c :: r, false, o => if Nat.beq c 92 then chkGo r true o else if Nat.beq c 40 then chkGo r false (o + 1) else if Nat.beq c 41 then (if Nat.beq o 0 then false else chkGo r false (o - 1)) else chkGo r false o

theorem one_eq (c d : Nat) : ((⟨#[c]⟩ : Str) == ⟨#[d]⟩) = Nat.beq c d := by
  by_cases h : c = d
  · subst h; simp
  · have : Nat.beq c d = false := by
      cases e : Nat.beq c d with
      | false => rfl
      | true => exact absurd (Nat.eq_of_beq_eq_true e) h
    rw [this]
    simp only [beq_eq_false_iff_ne, ne_eq, Str.mk.injEq]
    intro k
    have := congrArg (fun a : Array Nat => a[0]?) k
    simp at this
    exact h this
theorem two_ne (c d : Nat) : ((bs ++ (⟨#[c]⟩ : Str)) == ⟨#[d]⟩) = false := by
  simp only [beq_eq_false_iff_ne, ne_eq]
  intro k
  have := congrArg Str.length k
  rw [sapp_len, bs_eq] at this
  simp [Str.length] at this

noncomputable def fin (e : Except PyData Int) : Bool := match e with
  | .ok o => o == 0
  | .error _ => false

theorem chk_eq : ∀ (cs : List Nat) (i : Nat) (esc : Bool) (pos : Int) (o : Nat), fin (foldO checkStep (o : Int) (escQ i esc pos cs)) = chkGo cs esc o
  | [], i, esc, pos, o => by
    have e1 : (bs == lp) = false := by rw [bs_eq, lp_eq, one_eq]; rfl
    have e2 : (bs == rp) = false := by rw [bs_eq, rp_eq, one_eq]; rfl
    have e3 : ((o : Int) == 0) = Nat.beq o 0 := by cases o <;> rfl
    cases esc with
    | false => simp only [escQ, chkGo, Bool.false_eq_true, if_false, foldO, fin]; exact e3
    | true => simp only [escQ, chkGo, if_true, foldO, checkStep, e1, e2, Bool.false_eq_true, if_false, fin]; exact e3
  | c :: r, i, true, pos, o => by
    have e1 : ((bs ++ (⟨#[c]⟩ : Str)) == lp) = false := by rw [lp_eq]; exact two_ne _ _
    have e2 : ((bs ++ (⟨#[c]⟩ : Str)) == rp) = false := by rw [rp_eq]; exact two_ne _ _
    simp only [escQ, chkGo, if_true, foldO, checkStep, e1, e2, Bool.false_eq_true, if_false]
    exact chk_eq r _ _ _ _
  | c :: r, i, false, pos, o => by
    simp only [escQ, chkGo, Bool.false_eq_true, if_false, bs_eq, one_eq]
    cases h1 : Nat.beq c 92 with
    | true => simp only [if_true]; exact chk_eq r _ _ _ _
    | false =>
      simp only [Bool.false_eq_true, if_false, foldO, checkStep, lp_eq, rp_eq, one_eq]
      cases h2 : Nat.beq c 40 with
      | true => simp only [if_true]; exact chk_eq r _ _ _ (o + 1)
      | false =>
        simp only [Bool.false_eq_true, if_false]
        cases h3 : Nat.beq c 41 with
        | false => simp only [Bool.false_eq_true, if_false]; exact chk_eq r _ _ _ _
        | true =>
          simp only [if_true]
          cases o with
          | zero => rfl
          | succ o =>
            have : ¬ (((o + 1 : Nat) : Int) - 1 < 0) := by omega
            rw [if_neg this]
            have e : (((o + 1 : Nat) : Int) - 1) = (o : Int) := by omega
            simp only [e]
            exact chk_eq r _ _ _ o

theorem checkP_eq (x : Str) : checkP x = chkGo (stripP x).cps.toList false 0 := by
  have := chk_eq (stripP x).cps.toList 0 false 0 0
  unfold checkP checkR
  exact this

/-- what stands outside closed quotation marks: acc ahead of the last open one, pend from it on -/
noncomputable def stripGo : List Nat → Bool → Bool → List Nat → List Nat → List Nat
  | [], _, _, acc, pend => acc ++ pend
  | c :: r, true, op, acc, pend => if op then stripGo r false op acc (pend ++ [c]) else stripGo r false op (acc ++ [c]) pend
  | c :: r, false, op, acc, pend =>
    if Nat.beq c 92 then (if op then stripGo r true op acc (pend ++ [c]) else stripGo r true op (acc ++ [c]) pend)
    else if Nat.beq c 34 then (if op then stripGo r false false acc [] else stripGo r false true acc [c])
    else (if op then stripGo r false op acc (pend ++ [c]) else stripGo r false op (acc ++ [c]) pend)

noncomputable def flatS (l : List Str) : List Nat := (l.map fun p => p.cps.toList).flatten
theorem gl_flat (l : List Str) : (gl l).cps.toList = flatS l := rfl

/-- the indices of a slice -/
theorem pick (cs : Array Nat) (a : Nat) : ∀ k : Nat, ((List.range k).map fun (j : Nat) => ((a : Int) + 1 * (j : Int)).toNat).filterMap (cs[·]?) = (cs.toList.drop a).take k
  | 0 => by simp
  | k + 1 => by
    rw [List.range_succ, List.map_append, List.filterMap_append, pick cs a k, List.take_succ]
    congr 1
    have e : ((a : Int) + 1 * (k : Int)).toNat = a + k := by omega
    simp only [List.map_cons, List.map_nil, e, List.getElem?_drop, Array.getElem?_toList]
    cases h : cs[a + k]? with
    | none => simp [h]
    | some v => simp [h]

theorem slice_ab (x : Str) (a b : Nat) (hab : a ≤ b) (hb : b ≤ x.length) : (Txt.slice x (some (a : Int)) (some (b : Int))).cps.toList = (x.cps.toList.take b).drop a := by
  have hn : x.cps.toList.length = x.length := by simp [Str.length]
  have e : Builtin.Str.strSliceIndices (some (a : Int)) (some (b : Int)) 1 x.length = (List.range (b - a)).map fun (j : Nat) => ((a : Int) + 1 * (j : Int)).toNat := by
    unfold Builtin.Str.strSliceIndices sliceRange
    have h1 : ¬ ((a : Int) < 0) := by omega
    have h2 : ¬ ((b : Int) < 0) := by omega
    have h3 : max 0 (min (a : Int) x.length) = a := by omega
    have h4 : max 0 (min (b : Int) x.length) = b := by omega
    simp only [show (1 : Int) > 0 by decide, if_true, if_neg h1, if_neg h2, h3, h4]
    have h5 : (if (a : Int) < b then ((b : Int) - a + 1 - 1) / 1 else 0).toNat = b - a := by split <;> omega
    rw [h5]
  unfold Txt.slice
  rw [e, List.length_map, List.length_range]
  split
  · rename_i h
    have h : b - a = x.length := by simpa using h
    have ha : a = 0 := by omega
    have hb' : b = x.length := by omega
    rw [ha, List.drop_zero, List.take_of_length_le (by omega)]
  · show (List.filterMap _ _).toArray.toList = _
    rw [List.toList_toArray, pick, List.drop_take]

theorem slice_a (x : Str) (a : Nat) (ha : a ≤ x.length) : (Txt.slice x (some (a : Int)) none).cps.toList = x.cps.toList.drop a := by
  have hn : x.cps.toList.length = x.length := by simp [Str.length]
  have e : Builtin.Str.strSliceIndices (some (a : Int)) none 1 x.length = (List.range (x.length - a)).map fun (j : Nat) => ((a : Int) + 1 * (j : Int)).toNat := by
    unfold Builtin.Str.strSliceIndices sliceRange
    have h1 : ¬ ((a : Int) < 0) := by omega
    have h3 : max 0 (min (a : Int) x.length) = a := by omega
    simp only [show (1 : Int) > 0 by decide, if_true, if_neg h1, h3]
    have h5 : (if (a : Int) < x.length then ((x.length : Int) - a + 1 - 1) / 1 else 0).toNat = x.length - a := by split <;> omega
    rw [h5]
  unfold Txt.slice
  rw [e, List.length_map, List.length_range]
  split
  · rename_i h
    have h : x.length - a = x.length := by simpa using h
    by_cases h0 : a = 0
    · subst h0; simp
    · have : x.length = 0 := by omega
      have : x.cps.toList = [] := List.length_eq_zero_iff.mp (by omega)
      rw [this]; simp
  · show (List.filterMap _ _).toArray.toList = _
    rw [List.toList_toArray, pick]
    rw [List.take_of_length_le (by rw [List.length_drop]; omega)]

noncomputable def piecesS (x : Str) (S : StripS) : List Str := if S.1 < (x.length : Int) then S.2.2 ++ [Txt.slice x (some S.1) none] else S.2.2
noncomputable def opI : Option Nat → Option Int
  | none => none
  | some o => some (o : Int)
noncomputable def accS (pre : List Nat) (st : Nat) : Option Nat → List Nat
  | none => pre.drop st
  | some o => (pre.take o).drop st
noncomputable def pendS (pre : List Nat) : Option Nat → List Nat
  | none => []
  | some o => pre.drop o
theorem flatS_snoc (l : List Str) (p : Str) : flatS (l ++ [p]) = flatS l ++ p.cps.toList := by simp [flatS]
theorem step_id {x : Str} {s : StripS} {p : Int × Str} (h : (p.2 == dq) = false) : stripStep x s p = s := by unfold stripStep; simp [h]

theorem stT (c : Nat) (r : List Nat) (op : Bool) (acc pend : List Nat) : stripGo (c :: r) true op acc pend = if op then stripGo r false op acc (pend ++ [c]) else stripGo r false op (acc ++ [c]) pend := rfl
theorem stF (c : Nat) (r : List Nat) (op : Bool) (acc pend : List Nat) : stripGo (c :: r) false op acc pend = if Nat.beq c 92 then (if op then stripGo r true op acc (pend ++ [c]) else stripGo r true op (acc ++ [c]) pend)
    else if Nat.beq c 34 then (if op then stripGo r false false acc [] else stripGo r false true acc [c])
    else (if op then stripGo r false op acc (pend ++ [c]) else stripGo r false op (acc ++ [c]) pend) := rfl
/-- a sign that is no mark goes where the others go -/
theorem go_sign {pre r : List Nat} {c : Nat} {st : Nat} {op : Option Nat} {F : List Nat} {esc : Bool} (h1 : st ≤ pre.length) (h2 : ∀ o, op = some o → o ≤ pre.length) :
    (if op.isSome = true then stripGo r esc op.isSome (F ++ accS pre st op) (pendS pre op ++ [c]) else stripGo r esc op.isSome ((F ++ accS pre st op) ++ [c]) (pendS pre op)) = stripGo r esc op.isSome (F ++ accS (pre ++ [c]) st op) (pendS (pre ++ [c]) op) := by
  cases op with
  | none =>
    simp only [Option.isSome_none, Bool.false_eq_true, if_false, accS, pendS]
    rw [List.drop_append_of_le_length h1, List.append_assoc]
  | some o =>
    have ho := h2 o rfl
    simp only [Option.isSome_some, if_true, accS, pendS]
    rw [List.drop_append_of_le_length ho, List.take_append_of_le_length ho]

theorem strip_go (x : Str) : ∀ (r pre : List Nat) (esc : Bool) (st : Nat) (op : Option Nat) (res : List Str) (pos : Int), x.cps.toList = pre ++ r → st ≤ pre.length → (∀ o, op = some o → st ≤ o ∧ o ≤ pre.length) →
    flatS (piecesS x ((escQ pre.length esc pos r).foldl (stripStep x) ((st : Int), opI op, res))) = stripGo r esc op.isSome (flatS res ++ accS pre st op) (pendS pre op)
  | [], pre, esc, st, op, res, pos, hx, h1, h2 => by
    have e0 : (escQ pre.length esc pos []).foldl (stripStep x) ((st : Int), opI op, res) = ((st : Int), opI op, res) := by
      cases esc with
      | false => rfl
      | true =>
        have : (bs == dq) = false := by rw [bs_eq, dq_eq, one_eq]; rfl
        simp only [escQ, if_true, List.foldl_cons, List.foldl_nil]
        exact step_id this
    rw [e0]
    have hn : x.length = pre.length := by
      have : x.cps.toList.length = x.length := by simp [Str.length]
      rw [← this, hx, List.append_nil]
    have hp : x.cps.toList = pre := by rw [hx, List.append_nil]
    have hacc : accS pre st op ++ pendS pre op = pre.drop st := by
      cases op with
      | none => simp [accS, pendS]
      | some o =>
        obtain ⟨a1, a2⟩ := h2 o rfl
        simp only [accS, pendS]
        conv => rhs; rw [← List.take_append_drop o pre]
        rw [List.drop_append_of_le_length (by rw [List.length_take]; omega)]
    have hg : stripGo [] esc op.isSome (flatS res ++ accS pre st op) (pendS pre op) = flatS res ++ pre.drop st := by
      cases esc <;> simp only [stripGo] <;> rw [List.append_assoc, hacc]
    rw [hg]
    unfold piecesS
    by_cases h : (st : Int) < (x.length : Int)
    · simp only [if_pos h]
      rw [flatS_snoc, slice_a x st (by omega), hp]
    · simp only [if_neg h]
      rw [List.drop_of_length_le (by omega), List.append_nil]
  | c :: r, pre, true, st, op, res, pos, hx, h1, h2 => by
    have e1 : ((bs ++ (⟨#[c]⟩ : Str)) == dq) = false := by rw [dq_eq]; exact two_ne _ _
    have ih := strip_go x r (pre ++ [c]) false st op res pre.length (by rw [hx, List.append_assoc]; rfl) (by rw [List.length_append]; omega) (fun o ho => by have := h2 o ho; rw [List.length_append]; omega)
    have el : (pre ++ [c]).length = pre.length + 1 := by simp
    rw [el] at ih
    simp only [escQ, if_true, List.foldl_cons]
    rw [step_id e1, ih]
    rw [stT]
    exact (go_sign h1 fun o ho => (h2 o ho).2).symm
  | c :: r, pre, false, st, op, res, pos, hx, h1, h2 => by
    have hx' : x.cps.toList = (pre ++ [c]) ++ r := by rw [hx, List.append_assoc]; rfl
    have el : (pre ++ [c]).length = pre.length + 1 := by simp
    simp only [escQ, Bool.false_eq_true, if_false, bs_eq, one_eq]
    cases k1 : Nat.beq c 92 with
    | true =>
      simp only [if_true]
      have ih := strip_go x r (pre ++ [c]) true st op res pre.length hx' (by omega) (fun o ho => by have := h2 o ho; omega)
      rw [el] at ih
      rw [ih]
      rw [stF]
      simp only [k1, if_true]
      exact (go_sign h1 fun o ho => (h2 o ho).2).symm
    | false =>
      simp only [Bool.false_eq_true, if_false, List.foldl_cons]
      cases k2 : Nat.beq c 34 with
      | false =>
        have e1 : ((⟨#[c]⟩ : Str) == dq) = false := by rw [dq_eq, one_eq]; exact k2
        have ih := strip_go x r (pre ++ [c]) false st op res pre.length hx' (by omega) (fun o ho => by have := h2 o ho; omega)
        rw [el] at ih
        rw [step_id e1, ih]
        rw [stF]
        simp only [k1, k2, Bool.false_eq_true, if_false]
        exact (go_sign h1 fun o ho => (h2 o ho).2).symm
      | true =>
        have e1 : ((⟨#[c]⟩ : Str) == dq) = true := by rw [dq_eq, one_eq]; exact k2
        have hxl : x.length = pre.length + 1 + r.length := by
          have : x.cps.toList.length = x.length := by simp [Str.length]
          rw [← this, hx]; simp; omega
        cases op with
        | none =>
          have es : stripStep x ((st : Int), opI none, res) ((pre.length : Int), ⟨#[c]⟩) = ((st : Int), opI (some pre.length), res) := by unfold stripStep; simp [e1, opI]
          have ih := strip_go x r (pre ++ [c]) false st (some pre.length) res pre.length hx' (by omega) (fun o ho => by cases ho; omega)
          rw [el] at ih
          rw [es, ih]
          rw [stF]
          simp only [k1, k2, Bool.false_eq_true, if_false, if_true, Option.isSome_none, Option.isSome_some, accS, pendS]
          rw [List.take_left', List.drop_left'] <;> rfl
        | some o =>
          obtain ⟨a1, a2⟩ := h2 o rfl
          have hsl := slice_ab x st o a1 (by omega)
          have hpre : (x.cps.toList.take o).drop st = (pre.take o).drop st := by rw [hx, List.take_append_of_le_length a2]
          rw [hpre] at hsl
          have hfl : flatS (if ((st : Int) != (o : Int)) = true then res ++ [Txt.slice x (some (st : Int)) (some (o : Int))] else res) = flatS res ++ (pre.take o).drop st := by
            split
            · rw [flatS_snoc, hsl]
            · rename_i hne
              have : st = o := by
                have : (st : Int) = o := by simpa using hne
                omega
              rw [this, List.drop_of_length_le (by rw [List.length_take]; omega), List.append_nil]
          have es : stripStep x ((st : Int), opI (some o), res) ((pre.length : Int), ⟨#[c]⟩) = (((pre.length + 1 : Nat) : Int), opI none, if ((st : Int) != (o : Int)) = true then res ++ [Txt.slice x (some (st : Int)) (some (o : Int))] else res) := by
            unfold stripStep; simp only [e1, if_true, opI]; rfl
          have ih := strip_go x r (pre ++ [c]) false (pre.length + 1) none (if ((st : Int) != (o : Int)) = true then res ++ [Txt.slice x (some (st : Int)) (some (o : Int))] else res) pre.length hx' (by omega) (fun o ho => nomatch ho)
          rw [el] at ih
          rw [es, ih, hfl]
          rw [stF]
          simp only [k1, k2, Bool.false_eq_true, if_false, if_true, Option.isSome_none, Option.isSome_some, accS, pendS]
          rw [List.drop_of_length_le (l := pre ++ [c]) (by omega), List.append_nil]

/-- without a mark nothing goes -/
theorem strip_none : ∀ (r : List Nat) (esc : Bool) (acc : List Nat), 34 ∉ r → stripGo r esc false acc [] = acc ++ r
  | [], esc, acc, _ => by simp [stripGo]
  | c :: r, true, acc, h => by
    simp only [List.mem_cons, not_or] at h
    simp only [stripGo, Bool.false_eq_true, if_false]
    rw [strip_none r _ _ h.2, List.append_assoc]; rfl
  | c :: r, false, acc, h => by
    simp only [List.mem_cons, not_or] at h
    have k : Nat.beq c 34 = false := by
      cases e : Nat.beq c 34 with
      | false => rfl
      | true => exact absurd (Nat.eq_of_beq_eq_true e).symm h.1
    simp only [stripGo, Bool.false_eq_true, if_false, k]
    split <;> (rw [strip_none r _ _ h.2, List.append_assoc]; rfl)

theorem stripP_eq (x : Str) : (stripP x).cps.toList = stripGo x.cps.toList false false [] [] := by
  unfold stripP
  cases e : Txt.contains x dq with
  | false =>
    simp only [Bool.not_false, if_true]
    rw [strip_none _ _ _ (contains_none e)]; rfl
  | true =>
    simp only [Bool.not_true, Bool.false_eq_true, if_false]
    rw [gl_flat]
    have := strip_go x x.cps.toList [] false 0 none [] 0 rfl (Nat.le_refl _) (fun o ho => nomatch ho)
    exact this
theorem checkP_list (x : Str) : checkP x = chkGo (stripGo x.cps.toList false false [] []) false 0 := by rw [checkP_eq, stripP_eq]
end Mine
end

section
open PySem PyProof.Rows
namespace Mine
noncomputable def textC (a b : List Int) (hc : List Nat) : List Nat :=
  ([1, 2, 3, 4, 5, 6] : List Int).flatMap fun p => ((if inI p a then [40] else []) ++ (if p == 3 then hc else [])) ++ (if inI p b then [41] else [])
theorem textP_list (a b : List Int) (h : Str) : (textP a b h).cps.toList = textC a b h.cps.toList := by
  have e : (rangeI 1 7).filter (fun _ => true) = [1, 2, 3, 4, 5, 6] := by decide +kernel
  unfold textP
  rw [gl_flat]
  unfold flatS pcsT textC
  rw [e, List.map_map, List.flatMap_def]
  congr 1
  apply List.map_congr_left
  intro p _
  show (pcT a b h p).cps.toList = _
  have app : ∀ x y : Str, (x ++ y).cps.toList = x.cps.toList ++ y.cps.toList := fun x y => by
    have : (x ++ y).cps = x.cps ++ y.cps := rfl
    rw [this, Array.toList_append]
  have el : lp.cps.toList = [40] := by decide +kernel
  have er : rp.cps.toList = [41] := by decide +kernel
  have ee : es.cps.toList = [] := by decide +kernel
  unfold pcT
  rw [app, app]
  congr 1
  · congr 1
    · split <;> assumption
    · split
      · rfl
      · exact ee
  · split <;> assumption
noncomputable def chk (a b : List Int) (hc : List Nat) : Bool := chkGo (stripGo (textC a b hc) false false [] []) false 0
theorem checkP_text (a b : List Int) (h : Str) : checkP (textP a b h) = chk a b h.cps.toList := by rw [checkP_list, textP_list]; rfl


/-- brackets alone -/
noncomputable def Pure (l : List Nat) : Prop := ∀ c ∈ l, c = 40 ∨ c = 41
theorem Pure.app {a b : List Nat} (h : Pure a) (k : Pure b) : Pure (a ++ b) := fun c hc => (List.mem_append.mp hc).elim (h c) (k c)
theorem strip_pure : ∀ (A R : List Nat) (acc : List Nat), Pure A → stripGo (A ++ R) false false acc [] = stripGo R false false (acc ++ A) []
  | [], R, acc, _ => by simp
  | c :: A, R, acc, h => by
    have h92 : Nat.beq c 92 = false := by rcases h c (by simp) with rfl | rfl <;> rfl
    have h34 : Nat.beq c 34 = false := by rcases h c (by simp) with rfl | rfl <;> rfl
    rw [List.cons_append, stF, h92, h34]
    simp only [Bool.false_eq_true, if_false]
    rw [strip_pure A R _ fun d hd => h d (by simp [hd]), List.append_assoc]; rfl
theorem strip_open : ∀ (A : List Nat) (acc pend : List Nat), Pure A → stripGo A false true acc pend = acc ++ (pend ++ A)
  | [], acc, pend, _ => by simp [stripGo]
  | c :: A, acc, pend, h => by
    have h92 : Nat.beq c 92 = false := by rcases h c (by simp) with rfl | rfl <;> rfl
    have h34 : Nat.beq c 34 = false := by rcases h c (by simp) with rfl | rfl <;> rfl
    rw [stF, h92, h34]
    simp only [Bool.false_eq_true, if_false, if_true]
    rw [strip_open A _ _ fun d hd => h d (by simp [hd]), List.append_assoc]; rfl
theorem strip_rest {B : List Nat} (acc : List Nat) (h : Pure B) : stripGo B false false acc [] = acc ++ B :=
  strip_none B false acc fun k => by rcases h 34 k with h | h <;> cases h
/-- what h leaves -/
noncomputable def leaves (h h' : List Nat) : Prop := ∀ (B acc : List Nat), Pure B → stripGo (h ++ B) false false acc [] = acc ++ (h' ++ B)
theorem chk_mid {h' : List Nat} (hn : ∀ (B : List Nat) (o : Nat), chkGo (h' ++ B) false o = chkGo B false o) : ∀ (A B : List Nat) (o : Nat), Pure A → chkGo (A ++ (h' ++ B)) false o = chkGo (A ++ B) false o
  | [], B, o, _ => hn B o
  | c :: A, B, o, h => by
    have ih := fun o => chk_mid hn A B o fun d hd => h d (by simp [hd])
    rcases h c (by simp) with rfl | rfl
    · show chkGo (A ++ (h' ++ B)) false (o + 1) = chkGo (A ++ B) false (o + 1)
      exact ih _
    · show (if Nat.beq o 0 then false else chkGo (A ++ (h' ++ B)) false (o - 1)) = (if Nat.beq o 0 then false else chkGo (A ++ B) false (o - 1))
      rw [ih]
theorem hide_gone {h h' : List Nat} (hl : leaves h h') (hn : ∀ (B : List Nat) (o : Nat), chkGo (h' ++ B) false o = chkGo B false o) (A B : List Nat) (hA : Pure A) (hB : Pure B) :
    chkGo (stripGo (A ++ (h ++ B)) false false [] []) false 0 = chkGo (A ++ B) false 0 := by
  rw [strip_pure A _ _ hA, hl B _ hB, List.nil_append]
  exact chk_mid hn A B 0 hA

noncomputable def hidesC : List (List Nat) := [[92, 92], [34], [34, 40, 34], [92, 41], [92, 40], [34, 41, 34], [34, 92, 34, 41, 34], [34, 41, 34, 34, 40, 34]]
theorem hides_list : hidesL.map (fun h => h.cps.toList) = hidesC := by decide +kernel

theorem hide_any {h : List Nat} (hh : h = [] ∨ h ∈ hidesC) : ∃ h', leaves h h' ∧ ∀ (B : List Nat) (o : Nat), chkGo (h' ++ B) false o = chkGo B false o := by
  simp only [hidesC, List.mem_cons, List.not_mem_nil, or_false] at hh
  rcases hh with rfl | rfl | rfl | rfl | rfl | rfl | rfl | rfl | rfl
  · exact ⟨[], fun B acc hB => strip_rest acc hB, fun _ _ => rfl⟩
  · exact ⟨[92, 92], fun B acc hB => (strip_rest (acc ++ [92] ++ [92]) hB).trans (by simp), fun _ _ => rfl⟩
  · exact ⟨[34], fun B acc hB => strip_open B acc [34] hB, fun _ _ => rfl⟩
  · exact ⟨[], fun B acc hB => strip_rest acc hB, fun _ _ => rfl⟩
  · exact ⟨[92, 41], fun B acc hB => (strip_rest (acc ++ [92] ++ [41]) hB).trans (by simp), fun _ _ => rfl⟩
  · exact ⟨[92, 40], fun B acc hB => (strip_rest (acc ++ [92] ++ [40]) hB).trans (by simp), fun _ _ => rfl⟩
  · exact ⟨[], fun B acc hB => strip_rest acc hB, fun _ _ => rfl⟩
  · exact ⟨[], fun B acc hB => strip_rest acc hB, fun _ _ => rfl⟩
  · exact ⟨[], fun B acc hB => strip_rest acc hB, fun _ _ => rfl⟩

theorem pure_if (c : Bool) (d : Nat) (h : d = 40 ∨ d = 41) : Pure (if c then [d] else []) := by
  split
  · intro x hx; simp at hx; subst hx; exact h
  · intro x hx; cases hx
noncomputable def chk0 (a b : List Int) : Bool := chkGo (textC a b []) false 0
theorem chk_hide (a b : List Int) {h : List Nat} (hh : h = [] ∨ h ∈ hidesC) : chk a b h = chk0 a b := by
  obtain ⟨h', hl, hn⟩ := hide_any hh
  have key : ∀ h : List Nat, textC a b h = ((if inI 1 a then [40] else []) ++ (if inI 1 b then [41] else []) ++ (if inI 2 a then [40] else []) ++ (if inI 2 b then [41] else []) ++ (if inI 3 a then [40] else [])) ++
      (h ++ ((if inI 3 b then [41] else []) ++ (if inI 4 a then [40] else []) ++ (if inI 4 b then [41] else []) ++ (if inI 5 a then [40] else []) ++ (if inI 5 b then [41] else []) ++ (if inI 6 a then [40] else []) ++ (if inI 6 b then [41] else []))) := by
    intro h
    simp [textC]
  unfold chk chk0
  have hl0 : ∀ (A B : List Nat), A ++ ([] ++ B) = A ++ B := fun A B => rfl
  rw [key h, key [], hl0]
  refine hide_gone hl hn _ _ ?_ ?_
  · exact ((((pure_if _ _ (.inl rfl)).app (pure_if _ _ (.inr rfl))).app (pure_if _ _ (.inl rfl))).app (pure_if _ _ (.inr rfl))).app (pure_if _ _ (.inl rfl))
  · exact ((((((pure_if _ _ (.inr rfl)).app (pure_if _ _ (.inl rfl))).app (pure_if _ _ (.inr rfl))).app (pure_if _ _ (.inl rfl))).app (pure_if _ _ (.inr rfl))).app (pure_if _ _ (.inl rfl))).app (pure_if _ _ (.inr rfl))
theorem check_hide (a b : List Int) {h : Str} (hh : h = es ∨ h ∈ hidesL) : checkP (textP a b h) = chk0 a b := by
  rw [checkP_text]
  refine chk_hide a b ?_
  rcases hh with rfl | hh
  · left; decide +kernel
  · right; rw [← hides_list]; exact List.mem_map_of_mem hh
end Mine
end

section
open PySem PyProof.Rows
namespace Mine
noncomputable def F3 : List (List Int) := [[1, 2, 3], [1, 3, 5], [1, 3, 4], [1, 4, 5], [2, 3, 4], [2, 4, 6], [2, 4, 5], [2, 5, 6], [3, 4, 5], [3, 5, 6]]
noncomputable def F2 : List (List Int) := [[1, 2], [1, 3], [1, 4], [2, 3], [2, 4], [2, 5], [3, 4], [3, 5], [3, 6]]
noncomputable def S3 : List (List Int) := [[4, 5, 6], [2, 4, 6], [3, 4, 6], [2, 3, 6], [3, 4, 5], [1, 3, 5], [2, 3, 5], [1, 2, 5], [2, 3, 4], [1, 2, 4]]
noncomputable def S2 : List (List Int) := [[5, 6], [4, 6], [3, 6], [4, 5], [3, 5], [2, 5], [3, 4], [2, 4], [1, 4]]
noncomputable def betStepC (f s : List Int) (acc : List (List Int × List Int)) (ch : List Int) : List (List Int × List Int) := if chk0 f ch && chk0 ch s then acc ++ [(ch, looseP f s ch)] else acc
noncomputable def betC (m : Nat) (f s : List Int) : List (List Int × List Int) := (choicesN m).foldl (betStepC f s) []
/-- a set as figures -/
noncomputable def mk (l : List Int) : Nat := l.foldl (fun a p => Nat.lor a (Nat.shiftLeft 1 p.toNat)) 0
noncomputable def rowM (f s : List Int) (p : Int) : Nat × Nat × Nat := (Nat.shiftLeft 1 p.toNat, (f.filter fun m => decide (m ≤ p)).length, (s.filter fun m => decide (m ≤ p)).length)
noncomputable def tab (f s : List Int) : List (Nat × Nat × Nat) := ([1, 2, 3, 4, 5, 6] : List Int).map (rowM f s)
noncomputable def allR {α : Type} (p : α → Bool) (l : List α) : Bool := List.rec true (fun a _ ih => cond (p a) ih false) l
noncomputable def fitM (pm : Nat) (q : Nat × Nat) : Bool := Nat.beq (Nat.land (Nat.land (Nat.xor q.1 pm) 126) (Nat.xor q.2 126)) 0
noncomputable def okFits (pm wm : Nat) (l : List (Nat × Nat)) : Bool → Bool := List.rec (motive := fun _ => Bool → Bool) (fun found => found) (fun q _ ih found => cond (fitM pm q) (cond (Nat.beq q.1 wm) (cond found false (ih true)) false) (ih found)) l
noncomputable def walkR (pm : Nat) (l : List (Nat × Nat × Nat)) : Nat → Nat → Nat := List.rec (motive := fun _ => Nat → Nat → Nat) (fun _ acc => acc) (fun q _ ih k acc => cond (Nat.ble (k + 1) q.2.1) (cond (Nat.ble (k + 1) q.2.2) (ih (k + 1) (Nat.lor acc q.1)) (cond (Nat.beq (Nat.land pm q.1) 0) (ih k acc) (ih (k + 1) (Nat.lor acc q.1)))) (ih k acc)) l

noncomputable def tbl3 : List (List Int × List (List Int × List (List Int × List Int) × List (Nat × Nat) × List (Nat × Nat × Nat))) := [
  ([1, 2, 3], [
    ([4, 5, 6], [([1, 2, 3], [4, 5, 6]), ([1, 2, 4], [5, 6]), ([1, 2, 5], [6]), ([1, 2, 6], [6]), ([1, 3, 4], [5, 6]), ([1, 3, 5], [6]), ([1, 3, 6], [6]), ([1, 4, 5], [6]), ([1, 4, 6], [6]), ([1, 5, 6], [5, 6]), ([2, 3, 4], [5, 6]), ([2, 3, 5], [6]), ([2, 3, 6], [6]), ([2, 4, 5], [6]), ([2, 4, 6], [6]), ([2, 5, 6], [5, 6]), ([3, 4, 5], [6]), ([3, 4, 6], [6]), ([3, 5, 6], [5, 6]), ([4, 5, 6], [4, 5, 6])], [(14, 112), (22, 96), (38, 64), (70, 64), (26, 96), (42, 64), (74, 64), (50, 64), (82, 64), (98, 96), (28, 96), (44, 64), (76, 64), (52, 64), (84, 64), (100, 96), (56, 64), (88, 64), (104, 96), (112, 112)], [(2, 1, 0), (4, 2, 0), (8, 3, 0), (16, 3, 1), (32, 3, 2), (64, 3, 3)]),
    ([2, 4, 6], [([1, 2, 3], [4, 5, 6]), ([1, 2, 4], [5, 6]), ([1, 2, 5], [6]), ([1, 2, 6], [6]), ([1, 3, 4], [5, 6]), ([1, 3, 5], [6]), ([1, 3, 6], [6]), ([1, 4, 5], [4, 6]), ([1, 4, 6], [4, 6]), ([2, 3, 4], [2, 5, 6]), ([2, 3, 5], [2, 6]), ([2, 3, 6], [2, 6]), ([2, 4, 5], [2, 4, 6]), ([2, 4, 6], [2, 4, 6])], [(14, 112), (22, 96), (38, 64), (70, 64), (26, 96), (42, 64), (74, 64), (50, 80), (82, 80), (28, 100), (44, 68), (76, 68), (52, 84), (84, 84)], [(2, 1, 0), (4, 2, 1), (8, 3, 1), (16, 3, 2), (32, 3, 2), (64, 3, 3)]),
    ([3, 4, 6], [([1, 2, 3], [4, 5, 6]), ([1, 2, 4], [5, 6]), ([1, 2, 5], [6]), ([1, 2, 6], [6]), ([1, 3, 4], [5, 6]), ([1, 3, 5], [6]), ([1, 3, 6], [6]), ([1, 4, 5], [4, 6]), ([1, 4, 6], [4, 6]), ([2, 3, 4], [5, 6]), ([2, 3, 5], [6]), ([2, 3, 6], [6]), ([2, 4, 5], [4, 6]), ([2, 4, 6], [4, 6]), ([3, 4, 5], [3, 4, 6]), ([3, 4, 6], [3, 4, 6])], [(14, 112), (22, 96), (38, 64), (70, 64), (26, 96), (42, 64), (74, 64), (50, 80), (82, 80), (28, 96), (44, 64), (76, 64), (52, 80), (84, 80), (56, 88), (88, 88)], [(2, 1, 0), (4, 2, 0), (8, 3, 1), (16, 3, 2), (32, 3, 2), (64, 3, 3)]),
    ([2, 3, 6], [([1, 2, 3], [4, 5, 6]), ([1, 2, 4], [5, 6]), ([1, 2, 5], [6]), ([1, 2, 6], [6]), ([1, 3, 4], [3, 5, 6]), ([1, 3, 5], [3, 6]), ([1, 3, 6], [3, 6]), ([2, 3, 4], [2, 3, 5, 6]), ([2, 3, 5], [2, 3, 6]), ([2, 3, 6], [2, 3, 6])], [(14, 112), (22, 96), (38, 64), (70, 64), (26, 104), (42, 72), (74, 72), (28, 108), (44, 76), (76, 76)], [(2, 1, 0), (4, 2, 1), (8, 3, 2), (16, 3, 2), (32, 3, 2), (64, 3, 3)]),
    ([3, 4, 5], [([1, 2, 3], [4, 5, 6]), ([1, 2, 4], [5, 6]), ([1, 2, 5], [5, 6]), ([1, 3, 4], [5, 6]), ([1, 3, 5], [5, 6]), ([1, 4, 5], [4, 5, 6]), ([2, 3, 4], [5, 6]), ([2, 3, 5], [5, 6]), ([2, 4, 5], [4, 5, 6]), ([3, 4, 5], [3, 4, 5, 6])], [(14, 112), (22, 96), (38, 96), (26, 96), (42, 96), (50, 112), (28, 96), (44, 96), (52, 112), (56, 120)], [(2, 1, 0), (4, 2, 0), (8, 3, 1), (16, 3, 2), (32, 3, 3), (64, 3, 3)]),
    ([1, 3, 5], [([1, 2, 3], [1, 4, 5, 6]), ([1, 2, 4], [1, 5, 6]), ([1, 2, 5], [1, 5, 6]), ([1, 3, 4], [1, 3, 5, 6]), ([1, 3, 5], [1, 3, 5, 6])], [(14, 114), (22, 98), (38, 98), (26, 106), (42, 106)], [(2, 1, 1), (4, 2, 1), (8, 3, 2), (16, 3, 2), (32, 3, 3), (64, 3, 3)]),
    ([2, 3, 5], [([1, 2, 3], [4, 5, 6]), ([1, 2, 4], [5, 6]), ([1, 2, 5], [5, 6]), ([1, 3, 4], [3, 5, 6]), ([1, 3, 5], [3, 5, 6]), ([2, 3, 4], [2, 3, 5, 6]), ([2, 3, 5], [2, 3, 5, 6])], [(14, 112), (22, 96), (38, 96), (26, 104), (42, 104), (28, 108), (44, 108)], [(2, 1, 0), (4, 2, 1), (8, 3, 2), (16, 3, 2), (32, 3, 3), (64, 3, 3)]),
    ([1, 2, 5], [([1, 2, 3], [1, 2, 4, 5, 6]), ([1, 2, 4], [1, 2, 5, 6]), ([1, 2, 5], [1, 2, 5, 6])], [(14, 118), (22, 102), (38, 102)], [(2, 1, 1), (4, 2, 2), (8, 3, 2), (16, 3, 2), (32, 3, 3), (64, 3, 3)]),
    ([2, 3, 4], [([1, 2, 3], [4, 5, 6]), ([1, 2, 4], [4, 5, 6]), ([1, 3, 4], [3, 4, 5, 6]), ([2, 3, 4], [2, 3, 4, 5, 6])], [(14, 112), (22, 112), (26, 120), (28, 124)], [(2, 1, 0), (4, 2, 1), (8, 3, 2), (16, 3, 3), (32, 3, 3), (64, 3, 3)]),
    ([1, 2, 4], [([1, 2, 3], [1, 2, 4, 5, 6]), ([1, 2, 4], [1, 2, 4, 5, 6])], [(14, 118), (22, 118)], [(2, 1, 1), (4, 2, 2), (8, 3, 2), (16, 3, 3), (32, 3, 3), (64, 3, 3)])]),
  ([1, 3, 5], [
    ([4, 5, 6], [([1, 3, 5], [2, 4, 6]), ([1, 3, 6], [6, 2, 4]), ([1, 4, 5], [2, 6]), ([1, 4, 6], [6, 2]), ([1, 5, 6], [5, 6, 2]), ([2, 3, 5], [4, 6]), ([2, 3, 6], [6, 4]), ([2, 4, 5], [6]), ([2, 4, 6], [6]), ([2, 5, 6], [5, 6]), ([3, 4, 5], [6]), ([3, 4, 6], [6]), ([3, 5, 6], [5, 6]), ([4, 5, 6], [4, 5, 6])], [(42, 84), (74, 84), (50, 68), (82, 68), (98, 100), (44, 80), (76, 80), (52, 64), (84, 64), (100, 96), (56, 64), (88, 64), (104, 96), (112, 112)], [(2, 1, 0), (4, 1, 0), (8, 2, 0), (16, 2, 1), (32, 3, 2), (64, 3, 3)]),
    ([2, 4, 6], [([1, 3, 5], [2, 4, 6]), ([1, 3, 6], [6, 2, 4]), ([1, 4, 5], [4, 2, 6]), ([1, 4, 6], [4, 6, 2]), ([2, 3, 5], [2, 4, 6]), ([2, 3, 6], [2, 6, 4]), ([2, 4, 5], [2, 4, 6]), ([2, 4, 6], [2, 4, 6])], [(42, 84), (74, 84), (50, 84), (82, 84), (44, 84), (76, 84), (52, 84), (84, 84)], [(2, 1, 0), (4, 1, 1), (8, 2, 1), (16, 2, 2), (32, 3, 2), (64, 3, 3)]),
    ([3, 4, 6], [([1, 3, 5], [2, 4, 6]), ([1, 3, 6], [6, 2, 4]), ([1, 4, 5], [4, 2, 6]), ([1, 4, 6], [4, 6, 2]), ([2, 3, 5], [4, 6]), ([2, 3, 6], [6, 4]), ([2, 4, 5], [4, 6]), ([2, 4, 6], [4, 6]), ([3, 4, 5], [3, 4, 6]), ([3, 4, 6], [3, 4, 6])], [(42, 84), (74, 84), (50, 84), (82, 84), (44, 80), (76, 80), (52, 80), (84, 80), (56, 88), (88, 88)], [(2, 1, 0), (4, 1, 0), (8, 2, 1), (16, 2, 2), (32, 3, 2), (64, 3, 3)]),
    ([2, 3, 6], [([1, 3, 5], [3, 2, 4, 6]), ([1, 3, 6], [3, 6, 2, 4]), ([2, 3, 5], [2, 3, 4, 6]), ([2, 3, 6], [2, 3, 6, 4])], [(42, 92), (74, 92), (44, 92), (76, 92)], [(2, 1, 0), (4, 1, 1), (8, 2, 2), (16, 2, 2), (32, 3, 2), (64, 3, 3)]),
    ([3, 4, 5], [([1, 3, 5], [5, 2, 4, 6]), ([1, 4, 5], [4, 5, 2, 6]), ([2, 3, 5], [5, 4, 6]), ([2, 4, 5], [4, 5, 6]), ([3, 4, 5], [3, 4, 5, 6])], [(42, 116), (50, 116), (44, 112), (52, 112), (56, 120)], [(2, 1, 0), (4, 1, 0), (8, 2, 1), (16, 2, 2), (32, 3, 3), (64, 3, 3)]),
    ([1, 3, 5], [([1, 3, 5], [1, 3, 5, 2, 4, 6])], [(42, 126)], [(2, 1, 1), (4, 1, 1), (8, 2, 2), (16, 2, 2), (32, 3, 3), (64, 3, 3)]),
    ([2, 3, 5], [([1, 3, 5], [3, 5, 2, 4, 6]), ([2, 3, 5], [2, 3, 5, 4, 6])], [(42, 124), (44, 124)], [(2, 1, 0), (4, 1, 1), (8, 2, 2), (16, 2, 2), (32, 3, 3), (64, 3, 3)]),
    ([1, 2, 5], [], [], [(2, 1, 1), (4, 1, 2), (8, 2, 2), (16, 2, 2), (32, 3, 3), (64, 3, 3)]),
    ([2, 3, 4], [], [], [(2, 1, 0), (4, 1, 1), (8, 2, 2), (16, 2, 3), (32, 3, 3), (64, 3, 3)]),
    ([1, 2, 4], [], [], [(2, 1, 1), (4, 1, 2), (8, 2, 2), (16, 2, 3), (32, 3, 3), (64, 3, 3)])]),
  ([1, 3, 4], [
    ([4, 5, 6], [([1, 3, 4], [2, 5, 6]), ([1, 3, 5], [2, 6]), ([1, 3, 6], [6, 2]), ([1, 4, 5], [2, 6]), ([1, 4, 6], [6, 2]), ([1, 5, 6], [5, 6, 2]), ([2, 3, 4], [5, 6]), ([2, 3, 5], [6]), ([2, 3, 6], [6]), ([2, 4, 5], [6]), ([2, 4, 6], [6]), ([2, 5, 6], [5, 6]), ([3, 4, 5], [6]), ([3, 4, 6], [6]), ([3, 5, 6], [5, 6]), ([4, 5, 6], [4, 5, 6])], [(26, 100), (42, 68), (74, 68), (50, 68), (82, 68), (98, 100), (28, 96), (44, 64), (76, 64), (52, 64), (84, 64), (100, 96), (56, 64), (88, 64), (104, 96), (112, 112)], [(2, 1, 0), (4, 1, 0), (8, 2, 0), (16, 3, 1), (32, 3, 2), (64, 3, 3)]),
    ([2, 4, 6], [([1, 3, 4], [2, 5, 6]), ([1, 3, 5], [2, 6]), ([1, 3, 6], [6, 2]), ([1, 4, 5], [4, 2, 6]), ([1, 4, 6], [4, 6, 2]), ([2, 3, 4], [2, 5, 6]), ([2, 3, 5], [2, 6]), ([2, 3, 6], [2, 6]), ([2, 4, 5], [2, 4, 6]), ([2, 4, 6], [2, 4, 6])], [(26, 100), (42, 68), (74, 68), (50, 84), (82, 84), (28, 100), (44, 68), (76, 68), (52, 84), (84, 84)], [(2, 1, 0), (4, 1, 1), (8, 2, 1), (16, 3, 2), (32, 3, 2), (64, 3, 3)]),
    ([3, 4, 6], [([1, 3, 4], [2, 5, 6]), ([1, 3, 5], [2, 6]), ([1, 3, 6], [6, 2]), ([1, 4, 5], [4, 2, 6]), ([1, 4, 6], [4, 6, 2]), ([2, 3, 4], [5, 6]), ([2, 3, 5], [6]), ([2, 3, 6], [6]), ([2, 4, 5], [4, 6]), ([2, 4, 6], [4, 6]), ([3, 4, 5], [3, 4, 6]), ([3, 4, 6], [3, 4, 6])], [(26, 100), (42, 68), (74, 68), (50, 84), (82, 84), (28, 96), (44, 64), (76, 64), (52, 80), (84, 80), (56, 88), (88, 88)], [(2, 1, 0), (4, 1, 0), (8, 2, 1), (16, 3, 2), (32, 3, 2), (64, 3, 3)]),
    ([2, 3, 6], [([1, 3, 4], [3, 2, 5, 6]), ([1, 3, 5], [3, 2, 6]), ([1, 3, 6], [3, 6, 2]), ([2, 3, 4], [2, 3, 5, 6]), ([2, 3, 5], [2, 3, 6]), ([2, 3, 6], [2, 3, 6])], [(26, 108), (42, 76), (74, 76), (28, 108), (44, 76), (76, 76)], [(2, 1, 0), (4, 1, 1), (8, 2, 2), (16, 3, 2), (32, 3, 2), (64, 3, 3)]),
    ([3, 4, 5], [([1, 3, 4], [2, 5, 6]), ([1, 3, 5], [5, 2, 6]), ([1, 4, 5], [4, 5, 2, 6]), ([2, 3, 4], [5, 6]), ([2, 3, 5], [5, 6]), ([2, 4, 5], [4, 5, 6]), ([3, 4, 5], [3, 4, 5, 6])], [(26, 100), (42, 100), (50, 116), (28, 96), (44, 96), (52, 112), (56, 120)], [(2, 1, 0), (4, 1, 0), (8, 2, 1), (16, 3, 2), (32, 3, 3), (64, 3, 3)]),
    ([1, 3, 5], [([1, 3, 4], [1, 3, 2, 5, 6]), ([1, 3, 5], [1, 3, 5, 2, 6])], [(26, 110), (42, 110)], [(2, 1, 1), (4, 1, 1), (8, 2, 2), (16, 3, 2), (32, 3, 3), (64, 3, 3)]),
    ([2, 3, 5], [([1, 3, 4], [3, 2, 5, 6]), ([1, 3, 5], [3, 5, 2, 6]), ([2, 3, 4], [2, 3, 5, 6]), ([2, 3, 5], [2, 3, 5, 6])], [(26, 108), (42, 108), (28, 108), (44, 108)], [(2, 1, 0), (4, 1, 1), (8, 2, 2), (16, 3, 2), (32, 3, 3), (64, 3, 3)]),
    ([1, 2, 5], [], [], [(2, 1, 1), (4, 1, 2), (8, 2, 2), (16, 3, 2), (32, 3, 3), (64, 3, 3)]),
    ([2, 3, 4], [([1, 3, 4], [3, 4, 2, 5, 6]), ([2, 3, 4], [2, 3, 4, 5, 6])], [(26, 124), (28, 124)], [(2, 1, 0), (4, 1, 1), (8, 2, 2), (16, 3, 3), (32, 3, 3), (64, 3, 3)]),
    ([1, 2, 4], [], [], [(2, 1, 1), (4, 1, 2), (8, 2, 2), (16, 3, 3), (32, 3, 3), (64, 3, 3)])]),
  ([1, 4, 5], [
    ([4, 5, 6], [([1, 4, 5], [2, 3, 6]), ([1, 4, 6], [6, 2, 3]), ([1, 5, 6], [5, 6, 2, 3]), ([2, 4, 5], [3, 6]), ([2, 4, 6], [6, 3]), ([2, 5, 6], [5, 6, 3]), ([3, 4, 5], [6]), ([3, 4, 6], [6]), ([3, 5, 6], [5, 6]), ([4, 5, 6], [4, 5, 6])], [(50, 76), (82, 76), (98, 108), (52, 72), (84, 72), (100, 104), (56, 64), (88, 64), (104, 96), (112, 112)], [(2, 1, 0), (4, 1, 0), (8, 1, 0), (16, 2, 1), (32, 3, 2), (64, 3, 3)]),
    ([2, 4, 6], [([1, 4, 5], [4, 2, 3, 6]), ([1, 4, 6], [4, 6, 2, 3]), ([2, 4, 5], [2, 4, 3, 6]), ([2, 4, 6], [2, 4, 6, 3])], [(50, 92), (82, 92), (52, 92), (84, 92)], [(2, 1, 0), (4, 1, 1), (8, 1, 1), (16, 2, 2), (32, 3, 2), (64, 3, 3)]),
    ([3, 4, 6], [([1, 4, 5], [4, 2, 3, 6]), ([1, 4, 6], [4, 6, 2, 3]), ([2, 4, 5], [4, 3, 6]), ([2, 4, 6], [4, 6, 3]), ([3, 4, 5], [3, 4, 6]), ([3, 4, 6], [3, 4, 6])], [(50, 92), (82, 92), (52, 88), (84, 88), (56, 88), (88, 88)], [(2, 1, 0), (4, 1, 0), (8, 1, 1), (16, 2, 2), (32, 3, 2), (64, 3, 3)]),
    ([2, 3, 6], [], [], [(2, 1, 0), (4, 1, 1), (8, 1, 2), (16, 2, 2), (32, 3, 2), (64, 3, 3)]),
    ([3, 4, 5], [([1, 4, 5], [4, 5, 2, 3, 6]), ([2, 4, 5], [4, 5, 3, 6]), ([3, 4, 5], [3, 4, 5, 6])], [(50, 124), (52, 120), (56, 120)], [(2, 1, 0), (4, 1, 0), (8, 1, 1), (16, 2, 2), (32, 3, 3), (64, 3, 3)]),
    ([1, 3, 5], [], [], [(2, 1, 1), (4, 1, 1), (8, 1, 2), (16, 2, 2), (32, 3, 3), (64, 3, 3)]),
    ([2, 3, 5], [], [], [(2, 1, 0), (4, 1, 1), (8, 1, 2), (16, 2, 2), (32, 3, 3), (64, 3, 3)]),
    ([1, 2, 5], [], [], [(2, 1, 1), (4, 1, 2), (8, 1, 2), (16, 2, 2), (32, 3, 3), (64, 3, 3)]),
    ([2, 3, 4], [], [], [(2, 1, 0), (4, 1, 1), (8, 1, 2), (16, 2, 3), (32, 3, 3), (64, 3, 3)]),
    ([1, 2, 4], [], [], [(2, 1, 1), (4, 1, 2), (8, 1, 2), (16, 2, 3), (32, 3, 3), (64, 3, 3)])]),
  ([2, 3, 4], [
    ([4, 5, 6], [([2, 3, 4], [1, 5, 6]), ([2, 3, 5], [1, 6]), ([2, 3, 6], [6, 1]), ([2, 4, 5], [1, 6]), ([2, 4, 6], [6, 1]), ([2, 5, 6], [5, 6, 1]), ([3, 4, 5], [1, 6]), ([3, 4, 6], [6, 1]), ([3, 5, 6], [5, 6, 1]), ([4, 5, 6], [4, 5, 6, 1])], [(28, 98), (44, 66), (76, 66), (52, 66), (84, 66), (100, 98), (56, 66), (88, 66), (104, 98), (112, 114)], [(2, 0, 0), (4, 1, 0), (8, 2, 0), (16, 3, 1), (32, 3, 2), (64, 3, 3)]),
    ([2, 4, 6], [([2, 3, 4], [2, 1, 5, 6]), ([2, 3, 5], [2, 1, 6]), ([2, 3, 6], [2, 6, 1]), ([2, 4, 5], [2, 4, 1, 6]), ([2, 4, 6], [2, 4, 6, 1])], [(28, 102), (44, 70), (76, 70), (52, 86), (84, 86)], [(2, 0, 0), (4, 1, 1), (8, 2, 1), (16, 3, 2), (32, 3, 2), (64, 3, 3)]),
    ([3, 4, 6], [([2, 3, 4], [1, 5, 6]), ([2, 3, 5], [1, 6]), ([2, 3, 6], [6, 1]), ([2, 4, 5], [4, 1, 6]), ([2, 4, 6], [4, 6, 1]), ([3, 4, 5], [3, 4, 1, 6]), ([3, 4, 6], [3, 4, 6, 1])], [(28, 98), (44, 66), (76, 66), (52, 82), (84, 82), (56, 90), (88, 90)], [(2, 0, 0), (4, 1, 0), (8, 2, 1), (16, 3, 2), (32, 3, 2), (64, 3, 3)]),
    ([2, 3, 6], [([2, 3, 4], [2, 3, 1, 5, 6]), ([2, 3, 5], [2, 3, 1, 6]), ([2, 3, 6], [2, 3, 6, 1])], [(28, 110), (44, 78), (76, 78)], [(2, 0, 0), (4, 1, 1), (8, 2, 2), (16, 3, 2), (32, 3, 2), (64, 3, 3)]),
    ([3, 4, 5], [([2, 3, 4], [1, 5, 6]), ([2, 3, 5], [5, 1, 6]), ([2, 4, 5], [4, 5, 1, 6]), ([3, 4, 5], [3, 4, 5, 1, 6])], [(28, 98), (44, 98), (52, 114), (56, 122)], [(2, 0, 0), (4, 1, 0), (8, 2, 1), (16, 3, 2), (32, 3, 3), (64, 3, 3)]),
    ([1, 3, 5], [], [], [(2, 0, 1), (4, 1, 1), (8, 2, 2), (16, 3, 2), (32, 3, 3), (64, 3, 3)]),
    ([2, 3, 5], [([2, 3, 4], [2, 3, 1, 5, 6]), ([2, 3, 5], [2, 3, 5, 1, 6])], [(28, 110), (44, 110)], [(2, 0, 0), (4, 1, 1), (8, 2, 2), (16, 3, 2), (32, 3, 3), (64, 3, 3)]),
    ([1, 2, 5], [], [], [(2, 0, 1), (4, 1, 2), (8, 2, 2), (16, 3, 2), (32, 3, 3), (64, 3, 3)]),
    ([2, 3, 4], [([2, 3, 4], [2, 3, 4, 1, 5, 6])], [(28, 126)], [(2, 0, 0), (4, 1, 1), (8, 2, 2), (16, 3, 3), (32, 3, 3), (64, 3, 3)]),
    ([1, 2, 4], [], [], [(2, 0, 1), (4, 1, 2), (8, 2, 2), (16, 3, 3), (32, 3, 3), (64, 3, 3)])]),
  ([2, 4, 6], [
    ([4, 5, 6], [([2, 4, 6], [6, 1, 3, 5]), ([2, 5, 6], [5, 6, 1, 3]), ([3, 4, 6], [6, 1, 5]), ([3, 5, 6], [5, 6, 1]), ([4, 5, 6], [4, 5, 6, 1])], [(84, 106), (100, 106), (88, 98), (104, 98), (112, 114)], [(2, 0, 0), (4, 1, 0), (8, 1, 0), (16, 2, 1), (32, 2, 2), (64, 3, 3)]),
    ([2, 4, 6], [([2, 4, 6], [2, 4, 6, 1, 3, 5])], [(84, 126)], [(2, 0, 0), (4, 1, 1), (8, 1, 1), (16, 2, 2), (32, 2, 2), (64, 3, 3)]),
    ([3, 4, 6], [([2, 4, 6], [4, 6, 1, 3, 5]), ([3, 4, 6], [3, 4, 6, 1, 5])], [(84, 122), (88, 122)], [(2, 0, 0), (4, 1, 0), (8, 1, 1), (16, 2, 2), (32, 2, 2), (64, 3, 3)]),
    ([2, 3, 6], [], [], [(2, 0, 0), (4, 1, 1), (8, 1, 2), (16, 2, 2), (32, 2, 2), (64, 3, 3)]),
    ([3, 4, 5], [], [], [(2, 0, 0), (4, 1, 0), (8, 1, 1), (16, 2, 2), (32, 2, 3), (64, 3, 3)]),
    ([1, 3, 5], [], [], [(2, 0, 1), (4, 1, 1), (8, 1, 2), (16, 2, 2), (32, 2, 3), (64, 3, 3)]),
    ([2, 3, 5], [], [], [(2, 0, 0), (4, 1, 1), (8, 1, 2), (16, 2, 2), (32, 2, 3), (64, 3, 3)]),
    ([1, 2, 5], [], [], [(2, 0, 1), (4, 1, 2), (8, 1, 2), (16, 2, 2), (32, 2, 3), (64, 3, 3)]),
    ([2, 3, 4], [], [], [(2, 0, 0), (4, 1, 1), (8, 1, 2), (16, 2, 3), (32, 2, 3), (64, 3, 3)]),
    ([1, 2, 4], [], [], [(2, 0, 1), (4, 1, 2), (8, 1, 2), (16, 2, 3), (32, 2, 3), (64, 3, 3)])]),
  ([2, 4, 5], [
    ([4, 5, 6], [([2, 4, 5], [1, 3, 6]), ([2, 4, 6], [6, 1, 3]), ([2, 5, 6], [5, 6, 1, 3]), ([3, 4, 5], [1, 6]), ([3, 4, 6], [6, 1]), ([3, 5, 6], [5, 6, 1]), ([4, 5, 6], [4, 5, 6, 1])], [(52, 74), (84, 74), (100, 106), (56, 66), (88, 66), (104, 98), (112, 114)], [(2, 0, 0), (4, 1, 0), (8, 1, 0), (16, 2, 1), (32, 3, 2), (64, 3, 3)]),
    ([2, 4, 6], [([2, 4, 5], [2, 4, 1, 3, 6]), ([2, 4, 6], [2, 4, 6, 1, 3])], [(52, 94), (84, 94)], [(2, 0, 0), (4, 1, 1), (8, 1, 1), (16, 2, 2), (32, 3, 2), (64, 3, 3)]),
    ([3, 4, 6], [([2, 4, 5], [4, 1, 3, 6]), ([2, 4, 6], [4, 6, 1, 3]), ([3, 4, 5], [3, 4, 1, 6]), ([3, 4, 6], [3, 4, 6, 1])], [(52, 90), (84, 90), (56, 90), (88, 90)], [(2, 0, 0), (4, 1, 0), (8, 1, 1), (16, 2, 2), (32, 3, 2), (64, 3, 3)]),
    ([2, 3, 6], [], [], [(2, 0, 0), (4, 1, 1), (8, 1, 2), (16, 2, 2), (32, 3, 2), (64, 3, 3)]),
    ([3, 4, 5], [([2, 4, 5], [4, 5, 1, 3, 6]), ([3, 4, 5], [3, 4, 5, 1, 6])], [(52, 122), (56, 122)], [(2, 0, 0), (4, 1, 0), (8, 1, 1), (16, 2, 2), (32, 3, 3), (64, 3, 3)]),
    ([1, 3, 5], [], [], [(2, 0, 1), (4, 1, 1), (8, 1, 2), (16, 2, 2), (32, 3, 3), (64, 3, 3)]),
    ([2, 3, 5], [], [], [(2, 0, 0), (4, 1, 1), (8, 1, 2), (16, 2, 2), (32, 3, 3), (64, 3, 3)]),
    ([1, 2, 5], [], [], [(2, 0, 1), (4, 1, 2), (8, 1, 2), (16, 2, 2), (32, 3, 3), (64, 3, 3)]),
    ([2, 3, 4], [], [], [(2, 0, 0), (4, 1, 1), (8, 1, 2), (16, 2, 3), (32, 3, 3), (64, 3, 3)]),
    ([1, 2, 4], [], [], [(2, 0, 1), (4, 1, 2), (8, 1, 2), (16, 2, 3), (32, 3, 3), (64, 3, 3)])]),
  ([2, 5, 6], [
    ([4, 5, 6], [([2, 5, 6], [5, 6, 1, 3, 4]), ([3, 5, 6], [5, 6, 1, 4]), ([4, 5, 6], [4, 5, 6, 1])], [(100, 122), (104, 114), (112, 114)], [(2, 0, 0), (4, 1, 0), (8, 1, 0), (16, 1, 1), (32, 2, 2), (64, 3, 3)]),
    ([2, 4, 6], [], [], [(2, 0, 0), (4, 1, 1), (8, 1, 1), (16, 1, 2), (32, 2, 2), (64, 3, 3)]),
    ([3, 4, 6], [], [], [(2, 0, 0), (4, 1, 0), (8, 1, 1), (16, 1, 2), (32, 2, 2), (64, 3, 3)]),
    ([2, 3, 6], [], [], [(2, 0, 0), (4, 1, 1), (8, 1, 2), (16, 1, 2), (32, 2, 2), (64, 3, 3)]),
    ([3, 4, 5], [], [], [(2, 0, 0), (4, 1, 0), (8, 1, 1), (16, 1, 2), (32, 2, 3), (64, 3, 3)]),
    ([1, 3, 5], [], [], [(2, 0, 1), (4, 1, 1), (8, 1, 2), (16, 1, 2), (32, 2, 3), (64, 3, 3)]),
    ([2, 3, 5], [], [], [(2, 0, 0), (4, 1, 1), (8, 1, 2), (16, 1, 2), (32, 2, 3), (64, 3, 3)]),
    ([1, 2, 5], [], [], [(2, 0, 1), (4, 1, 2), (8, 1, 2), (16, 1, 2), (32, 2, 3), (64, 3, 3)]),
    ([2, 3, 4], [], [], [(2, 0, 0), (4, 1, 1), (8, 1, 2), (16, 1, 3), (32, 2, 3), (64, 3, 3)]),
    ([1, 2, 4], [], [], [(2, 0, 1), (4, 1, 2), (8, 1, 2), (16, 1, 3), (32, 2, 3), (64, 3, 3)])]),
  ([3, 4, 5], [
    ([4, 5, 6], [([3, 4, 5], [1, 2, 6]), ([3, 4, 6], [6, 1, 2]), ([3, 5, 6], [5, 6, 1, 2]), ([4, 5, 6], [4, 5, 6, 1, 2])], [(56, 70), (88, 70), (104, 102), (112, 118)], [(2, 0, 0), (4, 0, 0), (8, 1, 0), (16, 2, 1), (32, 3, 2), (64, 3, 3)]),
    ([2, 4, 6], [], [], [(2, 0, 0), (4, 0, 1), (8, 1, 1), (16, 2, 2), (32, 3, 2), (64, 3, 3)]),
    ([3, 4, 6], [([3, 4, 5], [3, 4, 1, 2, 6]), ([3, 4, 6], [3, 4, 6, 1, 2])], [(56, 94), (88, 94)], [(2, 0, 0), (4, 0, 0), (8, 1, 1), (16, 2, 2), (32, 3, 2), (64, 3, 3)]),
    ([2, 3, 6], [], [], [(2, 0, 0), (4, 0, 1), (8, 1, 2), (16, 2, 2), (32, 3, 2), (64, 3, 3)]),
    ([3, 4, 5], [([3, 4, 5], [3, 4, 5, 1, 2, 6])], [(56, 126)], [(2, 0, 0), (4, 0, 0), (8, 1, 1), (16, 2, 2), (32, 3, 3), (64, 3, 3)]),
    ([1, 3, 5], [], [], [(2, 0, 1), (4, 0, 1), (8, 1, 2), (16, 2, 2), (32, 3, 3), (64, 3, 3)]),
    ([2, 3, 5], [], [], [(2, 0, 0), (4, 0, 1), (8, 1, 2), (16, 2, 2), (32, 3, 3), (64, 3, 3)]),
    ([1, 2, 5], [], [], [(2, 0, 1), (4, 0, 2), (8, 1, 2), (16, 2, 2), (32, 3, 3), (64, 3, 3)]),
    ([2, 3, 4], [], [], [(2, 0, 0), (4, 0, 1), (8, 1, 2), (16, 2, 3), (32, 3, 3), (64, 3, 3)]),
    ([1, 2, 4], [], [], [(2, 0, 1), (4, 0, 2), (8, 1, 2), (16, 2, 3), (32, 3, 3), (64, 3, 3)])]),
  ([3, 5, 6], [
    ([4, 5, 6], [([3, 5, 6], [5, 6, 1, 2, 4]), ([4, 5, 6], [4, 5, 6, 1, 2])], [(104, 118), (112, 118)], [(2, 0, 0), (4, 0, 0), (8, 1, 0), (16, 1, 1), (32, 2, 2), (64, 3, 3)]),
    ([2, 4, 6], [], [], [(2, 0, 0), (4, 0, 1), (8, 1, 1), (16, 1, 2), (32, 2, 2), (64, 3, 3)]),
    ([3, 4, 6], [], [], [(2, 0, 0), (4, 0, 0), (8, 1, 1), (16, 1, 2), (32, 2, 2), (64, 3, 3)]),
    ([2, 3, 6], [], [], [(2, 0, 0), (4, 0, 1), (8, 1, 2), (16, 1, 2), (32, 2, 2), (64, 3, 3)]),
    ([3, 4, 5], [], [], [(2, 0, 0), (4, 0, 0), (8, 1, 1), (16, 1, 2), (32, 2, 3), (64, 3, 3)]),
    ([1, 3, 5], [], [], [(2, 0, 1), (4, 0, 1), (8, 1, 2), (16, 1, 2), (32, 2, 3), (64, 3, 3)]),
    ([2, 3, 5], [], [], [(2, 0, 0), (4, 0, 1), (8, 1, 2), (16, 1, 2), (32, 2, 3), (64, 3, 3)]),
    ([1, 2, 5], [], [], [(2, 0, 1), (4, 0, 2), (8, 1, 2), (16, 1, 2), (32, 2, 3), (64, 3, 3)]),
    ([2, 3, 4], [], [], [(2, 0, 0), (4, 0, 1), (8, 1, 2), (16, 1, 3), (32, 2, 3), (64, 3, 3)]),
    ([1, 2, 4], [], [], [(2, 0, 1), (4, 0, 2), (8, 1, 2), (16, 1, 3), (32, 2, 3), (64, 3, 3)])])]
noncomputable def tbl2 : List (List Int × List (List Int × List (List Int × List Int) × List (Nat × Nat) × List (Nat × Nat × Nat))) := [
  ([1, 2], [
    ([5, 6], [([1, 2], [3, 4, 5, 6]), ([1, 3], [4, 5, 6]), ([1, 4], [5, 6]), ([1, 5], [6]), ([1, 6], [6]), ([2, 3], [4, 5, 6]), ([2, 4], [5, 6]), ([2, 5], [6]), ([2, 6], [6]), ([3, 4], [5, 6]), ([3, 5], [6]), ([3, 6], [6]), ([4, 5], [6]), ([4, 6], [6]), ([5, 6], [5, 6])], [(6, 120), (10, 112), (18, 96), (34, 64), (66, 64), (12, 112), (20, 96), (36, 64), (68, 64), (24, 96), (40, 64), (72, 64), (48, 64), (80, 64), (96, 96)], [(2, 1, 0), (4, 2, 0), (8, 2, 0), (16, 2, 0), (32, 2, 1), (64, 2, 2)]),
    ([4, 6], [([1, 2], [3, 4, 5, 6]), ([1, 3], [4, 5, 6]), ([1, 4], [5, 6]), ([1, 5], [6]), ([1, 6], [6]), ([2, 3], [4, 5, 6]), ([2, 4], [5, 6]), ([2, 5], [6]), ([2, 6], [6]), ([3, 4], [5, 6]), ([3, 5], [6]), ([3, 6], [6]), ([4, 5], [4, 6]), ([4, 6], [4, 6])], [(6, 120), (10, 112), (18, 96), (34, 64), (66, 64), (12, 112), (20, 96), (36, 64), (68, 64), (24, 96), (40, 64), (72, 64), (48, 80), (80, 80)], [(2, 1, 0), (4, 2, 0), (8, 2, 0), (16, 2, 1), (32, 2, 1), (64, 2, 2)]),
    ([3, 6], [([1, 2], [3, 4, 5, 6]), ([1, 3], [4, 5, 6]), ([1, 4], [5, 6]), ([1, 5], [6]), ([1, 6], [6]), ([2, 3], [4, 5, 6]), ([2, 4], [5, 6]), ([2, 5], [6]), ([2, 6], [6]), ([3, 4], [3, 5, 6]), ([3, 5], [3, 6]), ([3, 6], [3, 6])], [(6, 120), (10, 112), (18, 96), (34, 64), (66, 64), (12, 112), (20, 96), (36, 64), (68, 64), (24, 104), (40, 72), (72, 72)], [(2, 1, 0), (4, 2, 0), (8, 2, 1), (16, 2, 1), (32, 2, 1), (64, 2, 2)]),
    ([4, 5], [([1, 2], [3, 4, 5, 6]), ([1, 3], [4, 5, 6]), ([1, 4], [5, 6]), ([1, 5], [5, 6]), ([2, 3], [4, 5, 6]), ([2, 4], [5, 6]), ([2, 5], [5, 6]), ([3, 4], [5, 6]), ([3, 5], [5, 6]), ([4, 5], [4, 5, 6])], [(6, 120), (10, 112), (18, 96), (34, 96), (12, 112), (20, 96), (36, 96), (24, 96), (40, 96), (48, 112)], [(2, 1, 0), (4, 2, 0), (8, 2, 0), (16, 2, 1), (32, 2, 2), (64, 2, 2)]),
    ([3, 5], [([1, 2], [3, 4, 5, 6]), ([1, 3], [4, 5, 6]), ([1, 4], [5, 6]), ([1, 5], [5, 6]), ([2, 3], [4, 5, 6]), ([2, 4], [5, 6]), ([2, 5], [5, 6]), ([3, 4], [3, 5, 6]), ([3, 5], [3, 5, 6])], [(6, 120), (10, 112), (18, 96), (34, 96), (12, 112), (20, 96), (36, 96), (24, 104), (40, 104)], [(2, 1, 0), (4, 2, 0), (8, 2, 1), (16, 2, 1), (32, 2, 2), (64, 2, 2)]),
    ([2, 5], [([1, 2], [3, 4, 5, 6]), ([1, 3], [4, 5, 6]), ([1, 4], [5, 6]), ([1, 5], [5, 6]), ([2, 3], [2, 4, 5, 6]), ([2, 4], [2, 5, 6]), ([2, 5], [2, 5, 6])], [(6, 120), (10, 112), (18, 96), (34, 96), (12, 116), (20, 100), (36, 100)], [(2, 1, 0), (4, 2, 1), (8, 2, 1), (16, 2, 1), (32, 2, 2), (64, 2, 2)]),
    ([3, 4], [([1, 2], [3, 4, 5, 6]), ([1, 3], [4, 5, 6]), ([1, 4], [4, 5, 6]), ([2, 3], [4, 5, 6]), ([2, 4], [4, 5, 6]), ([3, 4], [3, 4, 5, 6])], [(6, 120), (10, 112), (18, 112), (12, 112), (20, 112), (24, 120)], [(2, 1, 0), (4, 2, 0), (8, 2, 1), (16, 2, 2), (32, 2, 2), (64, 2, 2)]),
    ([2, 4], [([1, 2], [3, 4, 5, 6]), ([1, 3], [4, 5, 6]), ([1, 4], [4, 5, 6]), ([2, 3], [2, 4, 5, 6]), ([2, 4], [2, 4, 5, 6])], [(6, 120), (10, 112), (18, 112), (12, 116), (20, 116)], [(2, 1, 0), (4, 2, 1), (8, 2, 1), (16, 2, 2), (32, 2, 2), (64, 2, 2)]),
    ([1, 4], [([1, 2], [1, 3, 4, 5, 6]), ([1, 3], [1, 4, 5, 6]), ([1, 4], [1, 4, 5, 6])], [(6, 122), (10, 114), (18, 114)], [(2, 1, 1), (4, 2, 1), (8, 2, 1), (16, 2, 2), (32, 2, 2), (64, 2, 2)])]),
  ([1, 3], [
    ([5, 6], [([1, 3], [2, 4, 5, 6]), ([1, 4], [2, 5, 6]), ([1, 5], [2, 6]), ([1, 6], [6, 2]), ([2, 3], [4, 5, 6]), ([2, 4], [5, 6]), ([2, 5], [6]), ([2, 6], [6]), ([3, 4], [5, 6]), ([3, 5], [6]), ([3, 6], [6]), ([4, 5], [6]), ([4, 6], [6]), ([5, 6], [5, 6])], [(10, 116), (18, 100), (34, 68), (66, 68), (12, 112), (20, 96), (36, 64), (68, 64), (24, 96), (40, 64), (72, 64), (48, 64), (80, 64), (96, 96)], [(2, 1, 0), (4, 1, 0), (8, 2, 0), (16, 2, 0), (32, 2, 1), (64, 2, 2)]),
    ([4, 6], [([1, 3], [2, 4, 5, 6]), ([1, 4], [2, 5, 6]), ([1, 5], [2, 6]), ([1, 6], [6, 2]), ([2, 3], [4, 5, 6]), ([2, 4], [5, 6]), ([2, 5], [6]), ([2, 6], [6]), ([3, 4], [5, 6]), ([3, 5], [6]), ([3, 6], [6]), ([4, 5], [4, 6]), ([4, 6], [4, 6])], [(10, 116), (18, 100), (34, 68), (66, 68), (12, 112), (20, 96), (36, 64), (68, 64), (24, 96), (40, 64), (72, 64), (48, 80), (80, 80)], [(2, 1, 0), (4, 1, 0), (8, 2, 0), (16, 2, 1), (32, 2, 1), (64, 2, 2)]),
    ([3, 6], [([1, 3], [2, 4, 5, 6]), ([1, 4], [2, 5, 6]), ([1, 5], [2, 6]), ([1, 6], [6, 2]), ([2, 3], [4, 5, 6]), ([2, 4], [5, 6]), ([2, 5], [6]), ([2, 6], [6]), ([3, 4], [3, 5, 6]), ([3, 5], [3, 6]), ([3, 6], [3, 6])], [(10, 116), (18, 100), (34, 68), (66, 68), (12, 112), (20, 96), (36, 64), (68, 64), (24, 104), (40, 72), (72, 72)], [(2, 1, 0), (4, 1, 0), (8, 2, 1), (16, 2, 1), (32, 2, 1), (64, 2, 2)]),
    ([4, 5], [([1, 3], [2, 4, 5, 6]), ([1, 4], [2, 5, 6]), ([1, 5], [5, 2, 6]), ([2, 3], [4, 5, 6]), ([2, 4], [5, 6]), ([2, 5], [5, 6]), ([3, 4], [5, 6]), ([3, 5], [5, 6]), ([4, 5], [4, 5, 6])], [(10, 116), (18, 100), (34, 100), (12, 112), (20, 96), (36, 96), (24, 96), (40, 96), (48, 112)], [(2, 1, 0), (4, 1, 0), (8, 2, 0), (16, 2, 1), (32, 2, 2), (64, 2, 2)]),
    ([3, 5], [([1, 3], [2, 4, 5, 6]), ([1, 4], [2, 5, 6]), ([1, 5], [5, 2, 6]), ([2, 3], [4, 5, 6]), ([2, 4], [5, 6]), ([2, 5], [5, 6]), ([3, 4], [3, 5, 6]), ([3, 5], [3, 5, 6])], [(10, 116), (18, 100), (34, 100), (12, 112), (20, 96), (36, 96), (24, 104), (40, 104)], [(2, 1, 0), (4, 1, 0), (8, 2, 1), (16, 2, 1), (32, 2, 2), (64, 2, 2)]),
    ([2, 5], [([1, 3], [2, 4, 5, 6]), ([1, 4], [2, 5, 6]), ([1, 5], [5, 2, 6]), ([2, 3], [2, 4, 5, 6]), ([2, 4], [2, 5, 6]), ([2, 5], [2, 5, 6])], [(10, 116), (18, 100), (34, 100), (12, 116), (20, 100), (36, 100)], [(2, 1, 0), (4, 1, 1), (8, 2, 1), (16, 2, 1), (32, 2, 2), (64, 2, 2)]),
    ([3, 4], [([1, 3], [2, 4, 5, 6]), ([1, 4], [4, 2, 5, 6]), ([2, 3], [4, 5, 6]), ([2, 4], [4, 5, 6]), ([3, 4], [3, 4, 5, 6])], [(10, 116), (18, 116), (12, 112), (20, 112), (24, 120)], [(2, 1, 0), (4, 1, 0), (8, 2, 1), (16, 2, 2), (32, 2, 2), (64, 2, 2)]),
    ([2, 4], [([1, 3], [2, 4, 5, 6]), ([1, 4], [4, 2, 5, 6]), ([2, 3], [2, 4, 5, 6]), ([2, 4], [2, 4, 5, 6])], [(10, 116), (18, 116), (12, 116), (20, 116)], [(2, 1, 0), (4, 1, 1), (8, 2, 1), (16, 2, 2), (32, 2, 2), (64, 2, 2)]),
    ([1, 4], [([1, 3], [1, 2, 4, 5, 6]), ([1, 4], [1, 4, 2, 5, 6])], [(10, 118), (18, 118)], [(2, 1, 1), (4, 1, 1), (8, 2, 1), (16, 2, 2), (32, 2, 2), (64, 2, 2)])]),
  ([1, 4], [
    ([5, 6], [([1, 4], [2, 3, 5, 6]), ([1, 5], [2, 3, 6]), ([1, 6], [6, 2, 3]), ([2, 4], [3, 5, 6]), ([2, 5], [3, 6]), ([2, 6], [6, 3]), ([3, 4], [5, 6]), ([3, 5], [6]), ([3, 6], [6]), ([4, 5], [6]), ([4, 6], [6]), ([5, 6], [5, 6])], [(18, 108), (34, 76), (66, 76), (20, 104), (36, 72), (68, 72), (24, 96), (40, 64), (72, 64), (48, 64), (80, 64), (96, 96)], [(2, 1, 0), (4, 1, 0), (8, 1, 0), (16, 2, 0), (32, 2, 1), (64, 2, 2)]),
    ([4, 6], [([1, 4], [2, 3, 5, 6]), ([1, 5], [2, 3, 6]), ([1, 6], [6, 2, 3]), ([2, 4], [3, 5, 6]), ([2, 5], [3, 6]), ([2, 6], [6, 3]), ([3, 4], [5, 6]), ([3, 5], [6]), ([3, 6], [6]), ([4, 5], [4, 6]), ([4, 6], [4, 6])], [(18, 108), (34, 76), (66, 76), (20, 104), (36, 72), (68, 72), (24, 96), (40, 64), (72, 64), (48, 80), (80, 80)], [(2, 1, 0), (4, 1, 0), (8, 1, 0), (16, 2, 1), (32, 2, 1), (64, 2, 2)]),
    ([3, 6], [([1, 4], [2, 3, 5, 6]), ([1, 5], [2, 3, 6]), ([1, 6], [6, 2, 3]), ([2, 4], [3, 5, 6]), ([2, 5], [3, 6]), ([2, 6], [6, 3]), ([3, 4], [3, 5, 6]), ([3, 5], [3, 6]), ([3, 6], [3, 6])], [(18, 108), (34, 76), (66, 76), (20, 104), (36, 72), (68, 72), (24, 104), (40, 72), (72, 72)], [(2, 1, 0), (4, 1, 0), (8, 1, 1), (16, 2, 1), (32, 2, 1), (64, 2, 2)]),
    ([4, 5], [([1, 4], [2, 3, 5, 6]), ([1, 5], [5, 2, 3, 6]), ([2, 4], [3, 5, 6]), ([2, 5], [5, 3, 6]), ([3, 4], [5, 6]), ([3, 5], [5, 6]), ([4, 5], [4, 5, 6])], [(18, 108), (34, 108), (20, 104), (36, 104), (24, 96), (40, 96), (48, 112)], [(2, 1, 0), (4, 1, 0), (8, 1, 0), (16, 2, 1), (32, 2, 2), (64, 2, 2)]),
    ([3, 5], [([1, 4], [2, 3, 5, 6]), ([1, 5], [5, 2, 3, 6]), ([2, 4], [3, 5, 6]), ([2, 5], [5, 3, 6]), ([3, 4], [3, 5, 6]), ([3, 5], [3, 5, 6])], [(18, 108), (34, 108), (20, 104), (36, 104), (24, 104), (40, 104)], [(2, 1, 0), (4, 1, 0), (8, 1, 1), (16, 2, 1), (32, 2, 2), (64, 2, 2)]),
    ([2, 5], [([1, 4], [2, 3, 5, 6]), ([1, 5], [5, 2, 3, 6]), ([2, 4], [2, 3, 5, 6]), ([2, 5], [2, 5, 3, 6])], [(18, 108), (34, 108), (20, 108), (36, 108)], [(2, 1, 0), (4, 1, 1), (8, 1, 1), (16, 2, 1), (32, 2, 2), (64, 2, 2)]),
    ([3, 4], [([1, 4], [4, 2, 3, 5, 6]), ([2, 4], [4, 3, 5, 6]), ([3, 4], [3, 4, 5, 6])], [(18, 124), (20, 120), (24, 120)], [(2, 1, 0), (4, 1, 0), (8, 1, 1), (16, 2, 2), (32, 2, 2), (64, 2, 2)]),
    ([2, 4], [([1, 4], [4, 2, 3, 5, 6]), ([2, 4], [2, 4, 3, 5, 6])], [(18, 124), (20, 124)], [(2, 1, 0), (4, 1, 1), (8, 1, 1), (16, 2, 2), (32, 2, 2), (64, 2, 2)]),
    ([1, 4], [([1, 4], [1, 4, 2, 3, 5, 6])], [(18, 126)], [(2, 1, 1), (4, 1, 1), (8, 1, 1), (16, 2, 2), (32, 2, 2), (64, 2, 2)])]),
  ([2, 3], [
    ([5, 6], [([2, 3], [1, 4, 5, 6]), ([2, 4], [1, 5, 6]), ([2, 5], [1, 6]), ([2, 6], [6, 1]), ([3, 4], [1, 5, 6]), ([3, 5], [1, 6]), ([3, 6], [6, 1]), ([4, 5], [1, 6]), ([4, 6], [6, 1]), ([5, 6], [5, 6, 1])], [(12, 114), (20, 98), (36, 66), (68, 66), (24, 98), (40, 66), (72, 66), (48, 66), (80, 66), (96, 98)], [(2, 0, 0), (4, 1, 0), (8, 2, 0), (16, 2, 0), (32, 2, 1), (64, 2, 2)]),
    ([4, 6], [([2, 3], [1, 4, 5, 6]), ([2, 4], [1, 5, 6]), ([2, 5], [1, 6]), ([2, 6], [6, 1]), ([3, 4], [1, 5, 6]), ([3, 5], [1, 6]), ([3, 6], [6, 1]), ([4, 5], [4, 1, 6]), ([4, 6], [4, 6, 1])], [(12, 114), (20, 98), (36, 66), (68, 66), (24, 98), (40, 66), (72, 66), (48, 82), (80, 82)], [(2, 0, 0), (4, 1, 0), (8, 2, 0), (16, 2, 1), (32, 2, 1), (64, 2, 2)]),
    ([3, 6], [([2, 3], [1, 4, 5, 6]), ([2, 4], [1, 5, 6]), ([2, 5], [1, 6]), ([2, 6], [6, 1]), ([3, 4], [3, 1, 5, 6]), ([3, 5], [3, 1, 6]), ([3, 6], [3, 6, 1])], [(12, 114), (20, 98), (36, 66), (68, 66), (24, 106), (40, 74), (72, 74)], [(2, 0, 0), (4, 1, 0), (8, 2, 1), (16, 2, 1), (32, 2, 1), (64, 2, 2)]),
    ([4, 5], [([2, 3], [1, 4, 5, 6]), ([2, 4], [1, 5, 6]), ([2, 5], [5, 1, 6]), ([3, 4], [1, 5, 6]), ([3, 5], [5, 1, 6]), ([4, 5], [4, 5, 1, 6])], [(12, 114), (20, 98), (36, 98), (24, 98), (40, 98), (48, 114)], [(2, 0, 0), (4, 1, 0), (8, 2, 0), (16, 2, 1), (32, 2, 2), (64, 2, 2)]),
    ([3, 5], [([2, 3], [1, 4, 5, 6]), ([2, 4], [1, 5, 6]), ([2, 5], [5, 1, 6]), ([3, 4], [3, 1, 5, 6]), ([3, 5], [3, 5, 1, 6])], [(12, 114), (20, 98), (36, 98), (24, 106), (40, 106)], [(2, 0, 0), (4, 1, 0), (8, 2, 1), (16, 2, 1), (32, 2, 2), (64, 2, 2)]),
    ([2, 5], [([2, 3], [2, 1, 4, 5, 6]), ([2, 4], [2, 1, 5, 6]), ([2, 5], [2, 5, 1, 6])], [(12, 118), (20, 102), (36, 102)], [(2, 0, 0), (4, 1, 1), (8, 2, 1), (16, 2, 1), (32, 2, 2), (64, 2, 2)]),
    ([3, 4], [([2, 3], [1, 4, 5, 6]), ([2, 4], [4, 1, 5, 6]), ([3, 4], [3, 4, 1, 5, 6])], [(12, 114), (20, 114), (24, 122)], [(2, 0, 0), (4, 1, 0), (8, 2, 1), (16, 2, 2), (32, 2, 2), (64, 2, 2)]),
    ([2, 4], [([2, 3], [2, 1, 4, 5, 6]), ([2, 4], [2, 4, 1, 5, 6])], [(12, 118), (20, 118)], [(2, 0, 0), (4, 1, 1), (8, 2, 1), (16, 2, 2), (32, 2, 2), (64, 2, 2)]),
    ([1, 4], [], [], [(2, 0, 1), (4, 1, 1), (8, 2, 1), (16, 2, 2), (32, 2, 2), (64, 2, 2)])]),
  ([2, 4], [
    ([5, 6], [([2, 4], [1, 3, 5, 6]), ([2, 5], [1, 3, 6]), ([2, 6], [6, 1, 3]), ([3, 4], [1, 5, 6]), ([3, 5], [1, 6]), ([3, 6], [6, 1]), ([4, 5], [1, 6]), ([4, 6], [6, 1]), ([5, 6], [5, 6, 1])], [(20, 106), (36, 74), (68, 74), (24, 98), (40, 66), (72, 66), (48, 66), (80, 66), (96, 98)], [(2, 0, 0), (4, 1, 0), (8, 1, 0), (16, 2, 0), (32, 2, 1), (64, 2, 2)]),
    ([4, 6], [([2, 4], [1, 3, 5, 6]), ([2, 5], [1, 3, 6]), ([2, 6], [6, 1, 3]), ([3, 4], [1, 5, 6]), ([3, 5], [1, 6]), ([3, 6], [6, 1]), ([4, 5], [4, 1, 6]), ([4, 6], [4, 6, 1])], [(20, 106), (36, 74), (68, 74), (24, 98), (40, 66), (72, 66), (48, 82), (80, 82)], [(2, 0, 0), (4, 1, 0), (8, 1, 0), (16, 2, 1), (32, 2, 1), (64, 2, 2)]),
    ([3, 6], [([2, 4], [1, 3, 5, 6]), ([2, 5], [1, 3, 6]), ([2, 6], [6, 1, 3]), ([3, 4], [3, 1, 5, 6]), ([3, 5], [3, 1, 6]), ([3, 6], [3, 6, 1])], [(20, 106), (36, 74), (68, 74), (24, 106), (40, 74), (72, 74)], [(2, 0, 0), (4, 1, 0), (8, 1, 1), (16, 2, 1), (32, 2, 1), (64, 2, 2)]),
    ([4, 5], [([2, 4], [1, 3, 5, 6]), ([2, 5], [5, 1, 3, 6]), ([3, 4], [1, 5, 6]), ([3, 5], [5, 1, 6]), ([4, 5], [4, 5, 1, 6])], [(20, 106), (36, 106), (24, 98), (40, 98), (48, 114)], [(2, 0, 0), (4, 1, 0), (8, 1, 0), (16, 2, 1), (32, 2, 2), (64, 2, 2)]),
    ([3, 5], [([2, 4], [1, 3, 5, 6]), ([2, 5], [5, 1, 3, 6]), ([3, 4], [3, 1, 5, 6]), ([3, 5], [3, 5, 1, 6])], [(20, 106), (36, 106), (24, 106), (40, 106)], [(2, 0, 0), (4, 1, 0), (8, 1, 1), (16, 2, 1), (32, 2, 2), (64, 2, 2)]),
    ([2, 5], [([2, 4], [2, 1, 3, 5, 6]), ([2, 5], [2, 5, 1, 3, 6])], [(20, 110), (36, 110)], [(2, 0, 0), (4, 1, 1), (8, 1, 1), (16, 2, 1), (32, 2, 2), (64, 2, 2)]),
    ([3, 4], [([2, 4], [4, 1, 3, 5, 6]), ([3, 4], [3, 4, 1, 5, 6])], [(20, 122), (24, 122)], [(2, 0, 0), (4, 1, 0), (8, 1, 1), (16, 2, 2), (32, 2, 2), (64, 2, 2)]),
    ([2, 4], [([2, 4], [2, 4, 1, 3, 5, 6])], [(20, 126)], [(2, 0, 0), (4, 1, 1), (8, 1, 1), (16, 2, 2), (32, 2, 2), (64, 2, 2)]),
    ([1, 4], [], [], [(2, 0, 1), (4, 1, 1), (8, 1, 1), (16, 2, 2), (32, 2, 2), (64, 2, 2)])]),
  ([2, 5], [
    ([5, 6], [([2, 5], [1, 3, 4, 6]), ([2, 6], [6, 1, 3, 4]), ([3, 5], [1, 4, 6]), ([3, 6], [6, 1, 4]), ([4, 5], [1, 6]), ([4, 6], [6, 1]), ([5, 6], [5, 6, 1])], [(36, 90), (68, 90), (40, 82), (72, 82), (48, 66), (80, 66), (96, 98)], [(2, 0, 0), (4, 1, 0), (8, 1, 0), (16, 1, 0), (32, 2, 1), (64, 2, 2)]),
    ([4, 6], [([2, 5], [1, 3, 4, 6]), ([2, 6], [6, 1, 3, 4]), ([3, 5], [1, 4, 6]), ([3, 6], [6, 1, 4]), ([4, 5], [4, 1, 6]), ([4, 6], [4, 6, 1])], [(36, 90), (68, 90), (40, 82), (72, 82), (48, 82), (80, 82)], [(2, 0, 0), (4, 1, 0), (8, 1, 0), (16, 1, 1), (32, 2, 1), (64, 2, 2)]),
    ([3, 6], [([2, 5], [1, 3, 4, 6]), ([2, 6], [6, 1, 3, 4]), ([3, 5], [3, 1, 4, 6]), ([3, 6], [3, 6, 1, 4])], [(36, 90), (68, 90), (40, 90), (72, 90)], [(2, 0, 0), (4, 1, 0), (8, 1, 1), (16, 1, 1), (32, 2, 1), (64, 2, 2)]),
    ([4, 5], [([2, 5], [5, 1, 3, 4, 6]), ([3, 5], [5, 1, 4, 6]), ([4, 5], [4, 5, 1, 6])], [(36, 122), (40, 114), (48, 114)], [(2, 0, 0), (4, 1, 0), (8, 1, 0), (16, 1, 1), (32, 2, 2), (64, 2, 2)]),
    ([3, 5], [([2, 5], [5, 1, 3, 4, 6]), ([3, 5], [3, 5, 1, 4, 6])], [(36, 122), (40, 122)], [(2, 0, 0), (4, 1, 0), (8, 1, 1), (16, 1, 1), (32, 2, 2), (64, 2, 2)]),
    ([2, 5], [([2, 5], [2, 5, 1, 3, 4, 6])], [(36, 126)], [(2, 0, 0), (4, 1, 1), (8, 1, 1), (16, 1, 1), (32, 2, 2), (64, 2, 2)]),
    ([3, 4], [], [], [(2, 0, 0), (4, 1, 0), (8, 1, 1), (16, 1, 2), (32, 2, 2), (64, 2, 2)]),
    ([2, 4], [], [], [(2, 0, 0), (4, 1, 1), (8, 1, 1), (16, 1, 2), (32, 2, 2), (64, 2, 2)]),
    ([1, 4], [], [], [(2, 0, 1), (4, 1, 1), (8, 1, 1), (16, 1, 2), (32, 2, 2), (64, 2, 2)])]),
  ([3, 4], [
    ([5, 6], [([3, 4], [1, 2, 5, 6]), ([3, 5], [1, 2, 6]), ([3, 6], [6, 1, 2]), ([4, 5], [1, 2, 6]), ([4, 6], [6, 1, 2]), ([5, 6], [5, 6, 1, 2])], [(24, 102), (40, 70), (72, 70), (48, 70), (80, 70), (96, 102)], [(2, 0, 0), (4, 0, 0), (8, 1, 0), (16, 2, 0), (32, 2, 1), (64, 2, 2)]),
    ([4, 6], [([3, 4], [1, 2, 5, 6]), ([3, 5], [1, 2, 6]), ([3, 6], [6, 1, 2]), ([4, 5], [4, 1, 2, 6]), ([4, 6], [4, 6, 1, 2])], [(24, 102), (40, 70), (72, 70), (48, 86), (80, 86)], [(2, 0, 0), (4, 0, 0), (8, 1, 0), (16, 2, 1), (32, 2, 1), (64, 2, 2)]),
    ([3, 6], [([3, 4], [3, 1, 2, 5, 6]), ([3, 5], [3, 1, 2, 6]), ([3, 6], [3, 6, 1, 2])], [(24, 110), (40, 78), (72, 78)], [(2, 0, 0), (4, 0, 0), (8, 1, 1), (16, 2, 1), (32, 2, 1), (64, 2, 2)]),
    ([4, 5], [([3, 4], [1, 2, 5, 6]), ([3, 5], [5, 1, 2, 6]), ([4, 5], [4, 5, 1, 2, 6])], [(24, 102), (40, 102), (48, 118)], [(2, 0, 0), (4, 0, 0), (8, 1, 0), (16, 2, 1), (32, 2, 2), (64, 2, 2)]),
    ([3, 5], [([3, 4], [3, 1, 2, 5, 6]), ([3, 5], [3, 5, 1, 2, 6])], [(24, 110), (40, 110)], [(2, 0, 0), (4, 0, 0), (8, 1, 1), (16, 2, 1), (32, 2, 2), (64, 2, 2)]),
    ([2, 5], [], [], [(2, 0, 0), (4, 0, 1), (8, 1, 1), (16, 2, 1), (32, 2, 2), (64, 2, 2)]),
    ([3, 4], [([3, 4], [3, 4, 1, 2, 5, 6])], [(24, 126)], [(2, 0, 0), (4, 0, 0), (8, 1, 1), (16, 2, 2), (32, 2, 2), (64, 2, 2)]),
    ([2, 4], [], [], [(2, 0, 0), (4, 0, 1), (8, 1, 1), (16, 2, 2), (32, 2, 2), (64, 2, 2)]),
    ([1, 4], [], [], [(2, 0, 1), (4, 0, 1), (8, 1, 1), (16, 2, 2), (32, 2, 2), (64, 2, 2)])]),
  ([3, 5], [
    ([5, 6], [([3, 5], [1, 2, 4, 6]), ([3, 6], [6, 1, 2, 4]), ([4, 5], [1, 2, 6]), ([4, 6], [6, 1, 2]), ([5, 6], [5, 6, 1, 2])], [(40, 86), (72, 86), (48, 70), (80, 70), (96, 102)], [(2, 0, 0), (4, 0, 0), (8, 1, 0), (16, 1, 0), (32, 2, 1), (64, 2, 2)]),
    ([4, 6], [([3, 5], [1, 2, 4, 6]), ([3, 6], [6, 1, 2, 4]), ([4, 5], [4, 1, 2, 6]), ([4, 6], [4, 6, 1, 2])], [(40, 86), (72, 86), (48, 86), (80, 86)], [(2, 0, 0), (4, 0, 0), (8, 1, 0), (16, 1, 1), (32, 2, 1), (64, 2, 2)]),
    ([3, 6], [([3, 5], [3, 1, 2, 4, 6]), ([3, 6], [3, 6, 1, 2, 4])], [(40, 94), (72, 94)], [(2, 0, 0), (4, 0, 0), (8, 1, 1), (16, 1, 1), (32, 2, 1), (64, 2, 2)]),
    ([4, 5], [([3, 5], [5, 1, 2, 4, 6]), ([4, 5], [4, 5, 1, 2, 6])], [(40, 118), (48, 118)], [(2, 0, 0), (4, 0, 0), (8, 1, 0), (16, 1, 1), (32, 2, 2), (64, 2, 2)]),
    ([3, 5], [([3, 5], [3, 5, 1, 2, 4, 6])], [(40, 126)], [(2, 0, 0), (4, 0, 0), (8, 1, 1), (16, 1, 1), (32, 2, 2), (64, 2, 2)]),
    ([2, 5], [], [], [(2, 0, 0), (4, 0, 1), (8, 1, 1), (16, 1, 1), (32, 2, 2), (64, 2, 2)]),
    ([3, 4], [], [], [(2, 0, 0), (4, 0, 0), (8, 1, 1), (16, 1, 2), (32, 2, 2), (64, 2, 2)]),
    ([2, 4], [], [], [(2, 0, 0), (4, 0, 1), (8, 1, 1), (16, 1, 2), (32, 2, 2), (64, 2, 2)]),
    ([1, 4], [], [], [(2, 0, 1), (4, 0, 1), (8, 1, 1), (16, 1, 2), (32, 2, 2), (64, 2, 2)])]),
  ([3, 6], [
    ([5, 6], [([3, 6], [6, 1, 2, 4, 5]), ([4, 6], [6, 1, 2, 5]), ([5, 6], [5, 6, 1, 2])], [(72, 118), (80, 102), (96, 102)], [(2, 0, 0), (4, 0, 0), (8, 1, 0), (16, 1, 0), (32, 1, 1), (64, 2, 2)]),
    ([4, 6], [([3, 6], [6, 1, 2, 4, 5]), ([4, 6], [4, 6, 1, 2, 5])], [(72, 118), (80, 118)], [(2, 0, 0), (4, 0, 0), (8, 1, 0), (16, 1, 1), (32, 1, 1), (64, 2, 2)]),
    ([3, 6], [([3, 6], [3, 6, 1, 2, 4, 5])], [(72, 126)], [(2, 0, 0), (4, 0, 0), (8, 1, 1), (16, 1, 1), (32, 1, 1), (64, 2, 2)]),
    ([4, 5], [], [], [(2, 0, 0), (4, 0, 0), (8, 1, 0), (16, 1, 1), (32, 1, 2), (64, 2, 2)]),
    ([3, 5], [], [], [(2, 0, 0), (4, 0, 0), (8, 1, 1), (16, 1, 1), (32, 1, 2), (64, 2, 2)]),
    ([2, 5], [], [], [(2, 0, 0), (4, 0, 1), (8, 1, 1), (16, 1, 1), (32, 1, 2), (64, 2, 2)]),
    ([3, 4], [], [], [(2, 0, 0), (4, 0, 0), (8, 1, 1), (16, 1, 2), (32, 1, 2), (64, 2, 2)]),
    ([2, 4], [], [], [(2, 0, 0), (4, 0, 1), (8, 1, 1), (16, 1, 2), (32, 1, 2), (64, 2, 2)]),
    ([1, 4], [], [], [(2, 0, 1), (4, 0, 1), (8, 1, 1), (16, 1, 2), (32, 1, 2), (64, 2, 2)])])]
noncomputable def setsM : List (List Int × Nat) := [([], 0), ([1], 2), ([2], 4), ([1, 2], 6), ([3], 8), ([1, 3], 10), ([2, 3], 12), ([1, 2, 3], 14), ([4], 16), ([1, 4], 18), ([2, 4], 20), ([1, 2, 4], 22), ([3, 4], 24), ([1, 3, 4], 26), ([2, 3, 4], 28), ([1, 2, 3, 4], 30), ([5], 32), ([1, 5], 34), ([2, 5], 36), ([1, 2, 5], 38), ([3, 5], 40), ([1, 3, 5], 42), ([2, 3, 5], 44), ([1, 2, 3, 5], 46), ([4, 5], 48), ([1, 4, 5], 50), ([2, 4, 5], 52), ([1, 2, 4, 5], 54), ([3, 4, 5], 56), ([1, 3, 4, 5], 58), ([2, 3, 4, 5], 60), ([1, 2, 3, 4, 5], 62), ([6], 64), ([1, 6], 66), ([2, 6], 68), ([1, 2, 6], 70), ([3, 6], 72), ([1, 3, 6], 74), ([2, 3, 6], 76), ([1, 2, 3, 6], 78), ([4, 6], 80), ([1, 4, 6], 82), ([2, 4, 6], 84), ([1, 2, 4, 6], 86), ([3, 4, 6], 88), ([1, 3, 4, 6], 90), ([2, 3, 4, 6], 92), ([1, 2, 3, 4, 6], 94), ([5, 6], 96), ([1, 5, 6], 98), ([2, 5, 6], 100), ([1, 2, 5, 6], 102), ([3, 5, 6], 104), ([1, 3, 5, 6], 106), ([2, 3, 5, 6], 108), ([1, 2, 3, 5, 6], 110), ([4, 5, 6], 112), ([1, 4, 5, 6], 114), ([2, 4, 5, 6], 116), ([1, 2, 4, 5, 6], 118), ([3, 4, 5, 6], 120), ([1, 3, 4, 5, 6], 122), ([2, 3, 4, 5, 6], 124), ([1, 2, 3, 4, 5, 6], 126)]


theorem tbl_heads : tbl3.map (·.1) = F3 ∧ (∀ x ∈ tbl3, x.2.map (·.1) = S3) ∧ tbl2.map (·.1) = F2 ∧ (∀ x ∈ tbl2, x.2.map (·.1) = S2) := by decide +kernel
theorem sets_heads : setsM.map (·.1) = allSets ∧ ∀ q ∈ setsM, mk q.1 = q.2 := by decide +kernel
noncomputable abbrev Ent := List Int × List (List Int × List Int) × List (Nat × Nat) × List (Nat × Nat × Nat)
noncomputable def rowOk (m : Nat) (f : List Int) (e : Ent) : Bool :=
  (betC m f e.1 == e.2.1) && (e.2.1.map (fun b => (mk b.1, mk b.2)) == e.2.2.1) && (tab f e.1 == e.2.2.2)
noncomputable def cntOk (m : Nat) (f : List Int) (e : Ent) : Bool :=
  ((e.2.1.length : Int) == detP f e.1) && (e.2.1.all fun b => decide (b.2.length ≤ 64)) && ((e.2.1.map fun b => (2 : Int) ^ b.2.length).sum == if heldP m f e.1 then 64 else 0)
noncomputable def setOk (m : Nat) (f : List Int) (e : Ent) : Bool :=
  cond (heldP m f e.1) (allR (fun q => cond (okFits q.2 (walkR q.2 e.2.2.2 0 0) e.2.2.1 false) ((earlyP m f q.1 && lateP m e.1 q.1) == Nat.beq (walkR q.2 e.2.2.2 0 0) q.2) false) setsM) true
set_option Elab.async false
theorem rows3 : allR (fun x => allR (fun e => rowOk 3 x.1 e) x.2) tbl3 = true := by decide +kernel
theorem rows2 : allR (fun x => allR (fun e => rowOk 2 x.1 e) x.2) tbl2 = true := by decide +kernel
theorem cnts3 : allR (fun x => allR (fun e => cntOk 3 x.1 e) x.2) tbl3 = true := by decide +kernel
theorem cnts2 : allR (fun x => allR (fun e => cntOk 2 x.1 e) x.2) tbl2 = true := by decide +kernel
theorem sets3 : allR (fun x => allR (fun e => setOk 3 x.1 e) x.2) tbl3 = true := by decide +kernel
theorem sets2 : allR (fun x => allR (fun e => setOk 2 x.1 e) x.2) tbl2 = true := by decide +kernel
end Mine
end

section
open PySem PyProof.Rows
namespace Mine

theorem allR_spec {α : Type} {p : α → Bool} : ∀ {l : List α}, allR p l = true → ∀ a ∈ l, p a = true
  | [], _, a, h => by cases h
  | b :: r, h, a, ha => by
    have h' : cond (p b) (allR p r) false = true := h
    cases e : p b with
    | false => rw [e] at h'; cases h'
    | true =>
      rw [e] at h'
      rcases List.mem_cons.mp ha with rfl | ha
      · exact e
      · exact allR_spec h' a ha

/-! the rows between -/
theorem fitsB_eq (f s ch : List Int) : fitsB f s ch = (chk0 f ch && chk0 ch s) := by
  unfold fitsB
  rw [check_hide f ch (.inl rfl), check_hide ch s (.inl rfl)]
theorem between_eq (m : Nat) (f s : List Int) : betweenP m f s = betC m f s := by
  unfold betweenP betC
  congr 1
  funext acc ch
  unfold betStep betStepC
  rw [fitsB_eq]
theorem betC_mem (f s : List Int) : ∀ (l : List (List Int)) (acc : List (List Int × List Int)) (b : List Int × List Int), b ∈ l.foldl (betStepC f s) acc → b ∈ acc ∨ b.1 ∈ l
  | [], acc, b, h => .inl h
  | a :: r, acc, b, h => by
    rcases betC_mem f s r _ b h with h | h
    · unfold betStepC at h
      split at h
      · rcases List.mem_append.mp h with h | h
        · exact .inl h
        · simp at h; subst h; exact .inr (by simp)
      · exact .inl h
    · exact .inr (by simp [h])

/-! sets as figures -/
theorem mk_acc : ∀ (l : List Int) (a i : Nat), (l.foldl (fun a p => Nat.lor a (Nat.shiftLeft 1 p.toNat)) a).testBit i = (a.testBit i || l.any fun p => decide (p.toNat = i))
  | [], a, i => by simp
  | p :: r, a, i => by
    rw [List.foldl_cons, mk_acc r, List.any_cons]
    have e : (Nat.lor a (Nat.shiftLeft 1 p.toNat)).testBit i = (a.testBit i || decide (p.toNat = i)) := by
      show (a ||| (1 <<< p.toNat)).testBit i = _
      rw [Nat.testBit_or, Nat.shiftLeft_eq, Nat.one_mul, Nat.testBit_two_pow]
    rw [e, Bool.or_assoc]
theorem mk_bit (l : List Int) {i : Nat} (hi : 1 ≤ i) : (mk l).testBit i = inI (i : Int) l := by
  unfold mk inI
  rw [mk_acc]
  simp only [Nat.zero_testBit, Bool.false_or]
  congr 1
  funext p
  have : decide (p.toNat = i) = (p == (i : Int)) := by
    by_cases h : p = (i : Int)
    · subst h; simp
    · have h2 : ¬ p.toNat = i := by omega
      simp [h, h2]
  exact this
theorem beq0 (x : Nat) : Nat.beq x 0 = true ↔ ∀ i, x.testBit i = false := by
  constructor
  · intro h i
    rw [Nat.eq_of_beq_eq_true h, Nat.zero_testBit]
  · intro h
    have : x = 0 := Nat.eq_of_testBit_eq fun i => by rw [h i, Nat.zero_testBit]
    rw [this]; rfl
theorem bits126 (i : Nat) : (126 : Nat).testBit i = decide (1 ≤ i ∧ i ≤ 6) := by
  by_cases h : i < 8
  · have : ∀ i : Nat, i < 8 → (126 : Nat).testBit i = decide (1 ≤ i ∧ i ≤ 6) := by decide +kernel
    exact this i h
  · have h1 : (126 : Nat).testBit i = false := Nat.testBit_lt_two_pow (Nat.lt_of_lt_of_le (by decide : 126 < 2 ^ 8) (Nat.pow_le_pow_right (by decide) (by omega)))
    rw [h1]; symm; simp; omega

theorem fit_eq (P : List Int) (b : List Int × List Int) : fitTest P b = fitM (mk P) (mk b.1, mk b.2) := by
  have e6 : rangeI 1 7 = [1, 2, 3, 4, 5, 6] := by decide +kernel
  have hb : ∀ i : Nat, (Nat.land (Nat.land (Nat.xor (mk b.1) (mk P)) 126) (Nat.xor (mk b.2) 126)).testBit i = ((((mk b.1).testBit i ^^ (mk P).testBit i) && (126 : Nat).testBit i) && ((mk b.2).testBit i ^^ (126 : Nat).testBit i)) := fun i => by
    show (((mk b.1 ^^^ mk P) &&& 126) &&& (mk b.2 ^^^ 126)).testBit i = _
    rw [Nat.testBit_and, Nat.testBit_and, Nat.testBit_xor, Nat.testBit_xor]
  rw [Bool.eq_iff_iff]
  unfold fitM
  rw [beq0]
  unfold fitTest
  rw [e6, List.isEmpty_iff, List.filter_eq_nil_iff]
  constructor
  · intro h i
    rw [hb, bits126]
    by_cases hi : 1 ≤ i ∧ i ≤ 6
    · have hm : (i : Int) ∈ ([1, 2, 3, 4, 5, 6] : List Int) := by
        simp only [List.mem_cons, List.not_mem_nil, or_false]; omega
      have := h _ hm
      rw [mk_bit _ hi.1, mk_bit _ hi.1, mk_bit _ hi.1]
      have hd : decide (1 ≤ i ∧ i ≤ 6) = true := by simpa using hi
      rw [hd]
      revert this
      cases inI (i : Int) b.1 <;> cases inI (i : Int) P <;> cases inI (i : Int) b.2 <;> simp [PyData.eqv]
    · have hd : decide (1 ≤ i ∧ i ≤ 6) = false := by simpa using hi
      rw [hd]; simp
  · intro h p hp
    have hr : 1 ≤ p ∧ p ≤ 6 := by
      simp only [List.mem_cons, List.not_mem_nil, or_false] at hp; omega
    have := h p.toNat
    have hpi : ((p.toNat : Nat) : Int) = p := by omega
    rw [hb, bits126, mk_bit _ (by omega), mk_bit _ (by omega), mk_bit _ (by omega), hpi] at this
    have hd : decide (1 ≤ p.toNat ∧ p.toNat ≤ 6) = true := by simp; omega
    rw [hd] at this
    revert this
    cases inI p b.1 <;> cases inI p P <;> cases inI p b.2 <;> simp [PyData.eqv]

theorem okFits_spec (pm wm : Nat) : ∀ (l : List (Nat × Nat)) (found : Bool), okFits pm wm l found = true → (l.filter (fitM pm)).map (·.1) = if found then [] else [wm]
  | [], found, h => by
    have h' : found = true := h
    rw [h']; rfl
  | q :: r, found, h => by
    have h' : cond (fitM pm q) (cond (Nat.beq q.1 wm) (cond found false (okFits pm wm r true)) false) (okFits pm wm r found) = true := h
    rw [List.filter_cons]
    cases e1 : fitM pm q with
    | false =>
      rw [e1] at h'
      simp only [Bool.false_eq_true, if_false]
      exact okFits_spec pm wm r found h'
    | true =>
      rw [e1] at h'
      cases e2 : Nat.beq q.1 wm with
      | false => rw [e2] at h'; cases h'
      | true =>
        rw [e2] at h'
        cases found with
        | true => cases h'
        | false =>
          have := okFits_spec pm wm r true h'
          simp only [if_true, List.map_cons]
          rw [this, Nat.eq_of_beq_eq_true e2]; rfl

theorem land_bit (P : List Int) {p : Int} (hp : 1 ≤ p) : Nat.beq (Nat.land (mk P) (Nat.shiftLeft 1 p.toNat)) 0 = !inI p P := by
  have hpi : ((p.toNat : Nat) : Int) = p := by omega
  have hb : ∀ i, (Nat.land (mk P) (Nat.shiftLeft 1 p.toNat)).testBit i = ((mk P).testBit i && decide (p.toNat = i)) := fun i => by
    show (mk P &&& (1 <<< p.toNat)).testBit i = _
    rw [Nat.testBit_and, Nat.shiftLeft_eq, Nat.one_mul, Nat.testBit_two_pow]
  have h1 := mk_bit P (i := p.toNat) (by omega)
  rw [hpi] at h1
  cases e : inI p P with
  | false =>
    rw [e] at h1
    rw [Bool.not_false, beq0]
    intro i
    rw [hb]
    by_cases h : p.toNat = i
    · subst h; rw [h1]; rfl
    · simp [h]
  | true =>
    rw [e] at h1
    rw [Bool.not_true]
    cases k : Nat.beq (Nat.land (mk P) (Nat.shiftLeft 1 p.toNat)) 0 with
    | false => rfl
    | true =>
      have := (beq0 _).mp k p.toNat
      rw [hb, h1] at this
      simp at this

theorem walk_mk (f s P : List Int) : ∀ (l : List Int) (kept : List Int), (∀ p ∈ l, 1 ≤ p) → mk (l.foldl (walkStep f s P) kept) = walkR (mk P) (l.map (rowM f s)) kept.length (mk kept)
  | [], kept, _ => rfl
  | p :: r, kept, h => by
    have hp := h p (by simp)
    rw [List.foldl_cons, walk_mk f s P r _ fun q hq => h q (by simp [hq])]
    have hsn : mk (kept ++ [p]) = Nat.lor (mk kept) (Nat.shiftLeft 1 p.toNat) := by unfold mk; rw [List.foldl_append]; rfl
    have step : walkR (mk P) ((p :: r).map (rowM f s)) kept.length (mk kept) = cond (Nat.ble (kept.length + 1) (rowM f s p).2.1) (cond (Nat.ble (kept.length + 1) (rowM f s p).2.2) (walkR (mk P) (r.map (rowM f s)) (kept.length + 1) (Nat.lor (mk kept) (rowM f s p).1)) (cond (Nat.beq (Nat.land (mk P) (rowM f s p).1) 0) (walkR (mk P) (r.map (rowM f s)) kept.length (mk kept)) (walkR (mk P) (r.map (rowM f s)) (kept.length + 1) (Nat.lor (mk kept) (rowM f s p).1)))) (walkR (mk P) (r.map (rowM f s)) kept.length (mk kept)) := rfl
    rw [step]
    have hl : (rowM f s p).1 = Nat.shiftLeft 1 p.toNat := rfl
    rw [hl, land_bit P hp]
    have ef : countLe f p = ((rowM f s p).2.1 : Nat) := rfl
    have es : countLe s p = ((rowM f s p).2.2 : Nat) := rfl
    unfold walkStep
    rw [ef, es]
    generalize (rowM f s p).2.1 = a
    generalize (rowM f s p).2.2 = b
    cases e1 : Nat.ble (kept.length + 1) a with
    | false =>
      have : ¬ kept.length + 1 ≤ a := fun k => by rw [Nat.ble_eq_true_of_le k] at e1; cases e1
      rw [if_neg (by omega)]; rfl
    | true =>
      have h1 : kept.length + 1 ≤ a := Nat.le_of_ble_eq_true e1
      cases e2 : Nat.ble (kept.length + 1) b with
      | true =>
        have h2 : kept.length + 1 ≤ b := Nat.le_of_ble_eq_true e2
        rw [if_pos (by split <;> omega), hsn, List.length_append]; rfl
      | false =>
        have h2 : ¬ kept.length + 1 ≤ b := fun k => by rw [Nat.ble_eq_true_of_le k] at e2; cases e2
        cases e3 : inI p P with
        | true =>
          rw [if_pos (by simp only [if_true]; omega), hsn, List.length_append]; rfl
        | false =>
          rw [if_neg (by simp only [Bool.false_eq_true, if_false]; omega)]; rfl

theorem walk_sub (f s P : List Int) : ∀ (l : List Int) (kept : List Int), ∃ u ∈ sublists l, l.foldl (walkStep f s P) kept = kept ++ u
  | [], kept => ⟨[], by simp [sublists], by simp⟩
  | p :: r, kept => by
    rw [List.foldl_cons]
    obtain ⟨u, hu, e⟩ := walk_sub f s P r (walkStep f s P kept p)
    have hc : walkStep f s P kept p = kept ++ [p] ∨ walkStep f s P kept p = kept := by
      unfold walkStep
      generalize (kept.length + (if inI p P then 1 else 0) : Int) = z
      split
      · exact .inl rfl
      · exact .inr rfl
    rcases hc with h | h
    · rw [h] at e
      rw [h]
      exact ⟨p :: u, by simp only [sublists, List.mem_flatMap]; exact ⟨u, hu, by simp⟩, by rw [e, List.append_assoc]; rfl⟩
    · rw [h] at e
      rw [h]
      exact ⟨u, by simp only [sublists, List.mem_flatMap]; exact ⟨u, hu, by simp⟩, e⟩

theorem range6 : rangeI 1 7 = [1, 2, 3, 4, 5, 6] := by decide +kernel
theorem walkP_mk (f s P : List Int) : mk (walkP f s P) = walkR (mk P) (tab f s) 0 0 := by
  unfold walkP tab
  rw [range6, walk_mk f s P _ [] (by decide)]; rfl
theorem walkP_in (f s P : List Int) : walkP f s P ∈ allSets := by
  unfold walkP
  rw [range6]
  obtain ⟨u, hu, e⟩ := walk_sub f s P [1, 2, 3, 4, 5, 6] []
  rw [e]; exact hu

/-- the set behind its figures -/
noncomputable def dec (n : Nat) : List Int := ([1, 2, 3, 4, 5, 6] : List Int).filter fun p => !Nat.beq (Nat.land n (Nat.shiftLeft 1 p.toNat)) 0
theorem dec_mk : ∀ P ∈ allSets, dec (mk P) = P := by decide +kernel
theorem mk_inj {P Q : List Int} (hP : P ∈ allSets) (hQ : Q ∈ allSets) (h : mk P = mk Q) : P = Q := by rw [← dec_mk P hP, ← dec_mk Q hQ, h]
theorem choices_in (m : Nat) (hm : m ≤ 3) : ∀ ch ∈ choicesN m, dec (mk ch) = ch := by
  have : m = 0 ∨ m = 1 ∨ m = 2 ∨ m = 3 := by omega
  rcases this with rfl | rfl | rfl | rfl <;> decide +kernel

theorem fits_fold (P : List Int) : ∀ (b : List (List Int × List Int)) (acc : List (List Int)), b.foldl (fitStep P) acc = acc ++ (b.filter (fitTest P)).map (·.1)
  | [], acc => by simp
  | q :: r, acc => by
    rw [List.foldl_cons, fits_fold P r, List.filter_cons]
    unfold fitStep
    split <;> simp [*]
end Mine
end

section
open PySem PyProof.Rows
namespace Mine
noncomputable def earlyOk (m : Nat) (f : List Int) : Bool := allR (fun q => chk0 f q.1 == earlyP m f q.1) setsM
noncomputable def lateOk (m : Nat) (s : List Int) : Bool := allR (fun q => chk0 q.1 s == lateP m s q.1) setsM
theorem early3 : allR (earlyOk 3) F3 = true := by decide +kernel
theorem early2 : allR (earlyOk 2) F2 = true := by decide +kernel
theorem late3 : allR (lateOk 3) S3 = true := by decide +kernel
theorem late2 : allR (lateOk 2) S2 = true := by decide +kernel

theorem sets_mem {P : List Int} (h : P ∈ allSets) : (P, mk P) ∈ setsM := by
  rw [← sets_heads.1] at h
  obtain ⟨q, hq, rfl⟩ := List.mem_map.mp h
  have := sets_heads.2 q hq
  rw [this]; exact hq

theorem facts_of (m : Nat) (hm : m ≤ 3) (F S : List (List Int)) (tbl : List (List Int × List Ent)) (h1 : tbl.map (·.1) = F) (h2 : ∀ x ∈ tbl, x.2.map (·.1) = S)
    (hr : allR (fun x => allR (fun e => rowOk m x.1 e) x.2) tbl = true) (hc : allR (fun x => allR (fun e => cntOk m x.1 e) x.2) tbl = true) (hs : allR (fun x => allR (fun e => setOk m x.1 e) x.2) tbl = true)
    (he : allR (earlyOk m) F = true) (hl : allR (lateOk m) S = true) : ∀ f ∈ F, ∀ s ∈ S, PairOk m f s ∧ ∀ P ∈ allSets, SetOk m f s P := by
  intro f hf s hsS
  have E := allR_spec he f hf
  have La := allR_spec hl s hsS
  rw [← h1] at hf
  obtain ⟨x, hx, rfl⟩ := List.mem_map.mp hf
  rw [← h2 x hx] at hsS
  obtain ⟨e, hee, rfl⟩ := List.mem_map.mp hsS
  have r := allR_spec (allR_spec hr x hx) e hee
  have c := allR_spec (allR_spec hc x hx) e hee
  have t := allR_spec (allR_spec hs x hx) e hee
  unfold rowOk at r
  unfold cntOk at c
  simp only [Bool.and_eq_true, beq_iff_eq, List.all_eq_true, decide_eq_true_eq] at r c
  obtain ⟨⟨r1, r2⟩, r3⟩ := r
  obtain ⟨⟨c1, c2⟩, c3⟩ := c
  have hb : betweenP m x.1 e.1 = e.2.1 := (between_eq m x.1 e.1).trans r1
  refine ⟨⟨by rw [hb]; exact c1, by rw [hb]; exact c2, by rw [hb]; exact c3⟩, fun P hP => ?_⟩
  have hq := sets_mem hP
  have e1 := allR_spec E (P, mk P) hq
  have e2 := allR_spec La (P, mk P) hq
  simp only [beq_iff_eq] at e1 e2
  have key : heldP m x.1 e.1 = true → okFits (mk P) (walkR (mk P) e.2.2.2 0 0) e.2.2.1 false = true ∧ (earlyP m x.1 P && lateP m e.1 P) = Nat.beq (walkR (mk P) e.2.2.2 0 0) (mk P) := fun hh => by
    unfold setOk at t
    rw [hh, cond_true] at t
    have t' := allR_spec (p := fun q => cond (okFits q.2 (walkR q.2 e.2.2.2 0 0) e.2.2.1 false) ((earlyP m x.1 q.1 && lateP m e.1 q.1) == Nat.beq (walkR q.2 e.2.2.2 0 0) q.2) false) t (P, mk P) hq
    cases k : okFits (mk P) (walkR (mk P) e.2.2.2 0 0) e.2.2.1 false with
    | false => simp only [k] at t'; cases t'
    | true => simp only [k, cond_true, beq_iff_eq] at t'; exact ⟨rfl, t'⟩
  have hw : walkR (mk P) e.2.2.2 0 0 = mk (walkP x.1 e.1 P) := by rw [walkP_mk, r3]
  rw [hw] at key
  refine ⟨fun h hh => ?_, fun h hh => ?_, fun hh => ?_, fun hh => ?_⟩
  · rw [check_hide _ _ (.inr hh)]; exact e1
  · rw [check_hide _ _ (.inr hh)]; exact e2
  · have k1 := okFits_spec _ _ _ _ (key hh).1
    simp only [Bool.false_eq_true, if_false] at k1
    rw [hb]
    unfold fitsP
    rw [fits_fold, List.nil_append]
    have hsub : ∀ b ∈ e.2.1, b.1 ∈ choicesN m := fun b hbm => by
      rw [← r1] at hbm
      rcases betC_mem _ _ _ _ _ hbm with h | h
      · cases h
      · exact h
    have hfil : (e.2.1.filter (fitTest P)).map (fun b => mk b.1) = [mk (walkP x.1 e.1 P)] := by
      rw [← k1, ← r2, List.filter_map, List.map_map]
      have : (fitM (mk P) ∘ fun b : List Int × List Int => (mk b.1, mk b.2)) = fitTest P := by
        funext b; exact (fit_eq P b).symm
      rw [this]; rfl
    have hdec : (e.2.1.filter (fitTest P)).map (·.1) = ((e.2.1.filter (fitTest P)).map fun b => mk b.1).map dec := by
      rw [List.map_map]
      apply List.map_congr_left
      intro b hbm
      exact (choices_in m hm b.1 (hsub b (List.mem_filter.mp hbm).1)).symm
    rw [hdec, hfil, List.map_cons, List.map_nil, dec_mk _ (walkP_in _ _ _)]
  · rw [(key hh).2]
    cases k : Nat.beq (mk (walkP x.1 e.1 P)) (mk P) with
    | true =>
      have := mk_inj (walkP_in x.1 e.1 P) hP (Nat.eq_of_beq_eq_true k)
      rw [this]; simp
    | false =>
      symm
      rw [beq_eq_false_iff_ne]
      intro h
      rw [h] at k
      simp at k

noncomputable def FS (m : Nat) : List (List Int) × List (List Int) := if m = 3 then (F3, S3) else (F2, S2)
theorem rows_near : ∀ l ∈ rows, 2 ≤ (nearP l).length ∧ ∀ m ∈ ([2, 3] : List Nat), m ≤ (nearP l).length → (nearP l).take m ∈ (FS m).1 ∧ ((((nearP l).take m).filter fun _ => true).map fun k => 7 - k).reverse ∈ (FS m).2 := by decide +kernel

theorem facts_all : ∀ l ∈ rows, ∀ r ∈ rows, PairOk (manyN l r) (firstP l r) (secondP l r) ∧ ∀ P ∈ allSets, SetOk (manyN l r) (firstP l r) (secondP l r) P := by
  intro l hl r hr
  obtain ⟨a1, a2⟩ := rows_near l hl
  obtain ⟨b1, b2⟩ := rows_near r hr
  have hm : manyN l r = 2 ∨ manyN l r = 3 := by unfold manyN; omega
  have hmem : manyN l r ∈ ([2, 3] : List Nat) := by rcases hm with h | h <;> rw [h] <;> decide
  have f1 := (a2 (manyN l r) hmem (by unfold manyN; omega)).1
  have s1 := (b2 (manyN l r) hmem (by unfold manyN; omega)).2
  have f1 : firstP l r ∈ (FS (manyN l r)).1 := f1
  have s1 : secondP l r ∈ (FS (manyN l r)).2 := s1
  rcases hm with h | h
  · rw [h] at f1 s1 ⊢
    exact facts_of 2 (by decide) F2 S2 tbl2 tbl_heads.2.2.1 tbl_heads.2.2.2 rows2 cnts2 sets2 early2 late2 _ f1 _ s1
  · rw [h] at f1 s1 ⊢
    exact facts_of 3 (by decide) F3 S3 tbl3 tbl_heads.1 tbl_heads.2.1 rows3 cnts3 sets3 early3 late3 _ f1 _ s1

theorem law_facts : LawFacts := ⟨fun l hl r hr => (facts_all l hl r hr).1, fun l hl r hr => (facts_all l hl r hr).2⟩
end Mine
end

section
open PySem PySem.W PyProof.Rows
set_option maxHeartbeats 8000000 in
theorem PySem.Challenge.cw_ph0033_01_holds : PySem.Challenge.rw_ph0033_01.Holds := by
  w_on
  o_law
  k_head
  (case hw => w_witness2)
  k_fill
  intro w s₀ s₁ mg mb G Y fa o pm cd doc dV kV ho hd hcd hD hmg hg args vals as hpre hlay hrd hwl hlo
  have V := (Ground.X G).2
  have GL := glob_more (Ground.glob G (by first | k_qdec | decide +kernel) (by first | k_qdec | decide +kernel)) V
  refine Ground.open G ?_
  intro T B D TE TW
  have TA := at_of_top T
  wrow_args hpre hlay hrd hwl hlo
  clear ho hcd hD V B D TE TW G Y
  clear hd
  refine Mine.join_law Mine.law_facts GL TA ?_ (List.mem_of_getElem? (i := 0) (by kernel_rfl)) (by decide +kernel) hmg (by assumption) (by assumption) (by assumption) (fun s' m => ?_)
  · intro i hi
    simp only [Mine.defIx, List.mem_cons, List.not_mem_nil, or_false] at hi
    rcases hi with rfl | rfl | rfl | rfl | rfl | rfl | rfl | rfl | rfl | rfl | rfl | rfl
    · exact List.mem_of_getElem? (i := 0) (by kernel_rfl)
    · exact List.mem_of_getElem? (i := 1) (by kernel_rfl)
    · exact List.mem_of_getElem? (i := 2) (by kernel_rfl)
    · exact List.mem_of_getElem? (i := 3) (by kernel_rfl)
    · exact List.mem_of_getElem? (i := 4) (by kernel_rfl)
    · exact List.mem_of_getElem? (i := 5) (by kernel_rfl)
    · exact List.mem_of_getElem? (i := 6) (by kernel_rfl)
    · exact List.mem_of_getElem? (i := 7) (by kernel_rfl)
    · exact List.mem_of_getElem? (i := 8) (by kernel_rfl)
    · exact List.mem_of_getElem? (i := 9) (by kernel_rfl)
    · exact List.mem_of_getElem? (i := 10) (by kernel_rfl)
    · exact List.mem_of_getElem? (i := 11) (by kernel_rfl)
  · refine ⟨.inl ⟨.bool true, .bool true, [], rfl, fun _ => rfl, ReadsW.bool _, ?_, fun _ => ⟨List.nodup_nil, fun _ h => nomatch h⟩⟩, .of_keep fun b o e => m.heap b o (by simp) e, m.os, m.bare (.of_eq hg)⟩
    exact postW_of (by wrow_shape) (by wtm_val) (by rfl)
end
