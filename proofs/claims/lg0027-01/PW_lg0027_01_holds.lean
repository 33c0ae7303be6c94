import PyProof.Rows.All
import Wide.All
import OpenK.AllK
import Wide.FinOn
import PySem.Challenge.RW_lg0027_01
-- HqA
open PySem PySem.W PyProof.Rows
set_option Elab.async false
namespace Hq

/-- abstract data -/
inductive D where
  | none
  | bool (b : Bool)
  | int (i : Int)
  | tup (ds : List D)
  | lst (a : Addr)
  | rng (a b : Int)
  | val (v : Value)

abbrev tupO (vs : List Value) (n : Nat) : Obj := { cls := .type "tuple", dict := none, data := .seq vs.toArray n, slots := #[] }
abbrev lstO (vs : List Value) (n : Nat) : Obj := { cls := .type "list", dict := none, data := .seq vs.toArray n, slots := #[] }

mutual
def Is (h : Heap) : D → Value → Prop
  | .none, v => v = .none
  | .bool b, v => v = .bool b
  | .int i, v => ∃ t, v = .int i t
  | .tup ds, v => ∃ a vs n, v = .ref a ∧ h.get? a = some (tupO vs n) ∧ IsAll h ds vs
  | .lst a, v => v = .ref a
  | .rng a b, v => ∃ r t u w, v = .ref r ∧ IsRange h r a b 1 t u w
  | .val u, v => v = u
def IsAll (h : Heap) : List D → List Value → Prop
  | [], vs => vs = []
  | d :: ds, vs => ∃ v r, vs = v :: r ∧ Is h d v ∧ IsAll h ds r
end

def frozen (o : Obj) : Prop := (o.cls = .type "tuple" ∧ ∃ xs n, o.data = .seq xs n) ∨ (o.cls = .type "range" ∧ ∃ vs, o.data = .fields vs)
def Le (h h' : Heap) : Prop := ∀ a o, h.get? a = some o → frozen o → h'.get? a = some o

theorem Le.refl (h : Heap) : Le h h := fun _ _ e _ => e
theorem Le.trans {h h' h'' : Heap} (x : Le h h') (y : Le h' h'') : Le h h'' := fun a o e f => y a o (x a o e f) f
theorem Le.of_keeps {h h' : Heap} (k : ∀ b o, h.get? b = some o → h'.get? b = some o) : Le h h' := fun a o e _ => k a o e
theorem Le.of_but {h h' : Heap} {a : Addr} {o : Obj} (ho : h.get? a = some o) (hf : ¬ frozen o) (hs : ∀ b x, b ≠ a → h.get? b = some x → h'.get? b = some x) : Le h h' := fun b x e f => by
  by_cases q : b = a
  · subst q; rw [ho] at e; cases e; exact absurd f hf
  · exact hs b x q e

mutual
theorem Is.mono {h h' : Heap} (l : Le h h') : ∀ {d : D} {v : Value}, Is h d v → Is h' d v
  | .none, _, x => by unfold Is at x ⊢; exact x
  | .bool _, _, x => by unfold Is at x ⊢; exact x
  | .int _, _, x => by unfold Is at x ⊢; exact x
  | .tup ds, _, x => by
    unfold Is at x ⊢
    obtain ⟨a, vs, n, e, g, r⟩ := x
    exact ⟨a, vs, n, e, l _ _ g (.inl ⟨rfl, _, _, rfl⟩), IsAll.mono l r⟩
  | .lst _, _, x => by unfold Is at x ⊢; exact x
  | .rng _ _, _, x => by
    unfold Is at x ⊢
    obtain ⟨r, t, u, w, e, g⟩ := x
    exact ⟨r, t, u, w, e, l _ _ g (.inr ⟨rfl, _, rfl⟩)⟩
  | .val _, _, x => by unfold Is at x ⊢; exact x
theorem IsAll.mono {h h' : Heap} (l : Le h h') : ∀ {ds : List D} {vs : List Value}, IsAll h ds vs → IsAll h' ds vs
  | [], _, x => by unfold IsAll at x ⊢; exact x
  | d :: ds, _, x => by
    unfold IsAll at x ⊢
    obtain ⟨v, r, e, y, z⟩ := x
    exact ⟨v, r, e, Is.mono l y, IsAll.mono l z⟩
end

section
variable {h : Heap} {v : Value} {d : D} {ds es : List D} {vs ws : List Value}
theorem is_none : Is h .none v ↔ v = .none := by unfold Is; rfl
theorem is_bool {b} : Is h (.bool b) v ↔ v = .bool b := by unfold Is; rfl
theorem is_int {i} : Is h (.int i) v ↔ ∃ t, v = .int i t := by unfold Is; rfl
theorem is_tup : Is h (.tup ds) v ↔ ∃ a vs n, v = .ref a ∧ h.get? a = some (tupO vs n) ∧ IsAll h ds vs := by conv => lhs; unfold Is
theorem is_lst {a} : Is h (.lst a) v ↔ v = .ref a := by unfold Is; rfl
theorem is_rng {a b} : Is h (.rng a b) v ↔ ∃ r t u w, v = .ref r ∧ IsRange h r a b 1 t u w := by unfold Is; rfl
theorem is_val {u} : Is h (.val u) v ↔ v = u := by unfold Is; rfl
theorem isAll_nil : IsAll h [] vs ↔ vs = [] := by unfold IsAll; rfl
theorem isAll_cons : IsAll h (d :: ds) vs ↔ ∃ v r, vs = v :: r ∧ Is h d v ∧ IsAll h ds r := by conv => lhs; unfold IsAll
theorem IsAll.nil : IsAll h [] [] := isAll_nil.mpr rfl
theorem IsAll.cons (x : Is h d v) (y : IsAll h ds vs) : IsAll h (d :: ds) (v :: vs) := isAll_cons.mpr ⟨v, vs, rfl, x, y⟩
theorem IsAll.length : ∀ {ds : List D} {vs : List Value}, IsAll h ds vs → vs.length = ds.length
  | [], _, x => by rw [isAll_nil.mp x]; rfl
  | d :: ds, _, x => by obtain ⟨v, r, rfl, _, y⟩ := isAll_cons.mp x; simp [y.length]
theorem IsAll.append : ∀ {ds : List D} {vs : List Value}, IsAll h ds vs → IsAll h es ws → IsAll h (ds ++ es) (vs ++ ws)
  | [], _, x, y => by rw [isAll_nil.mp x]; exact y
  | d :: ds, _, x, y => by obtain ⟨v, r, rfl, z, q⟩ := isAll_cons.mp x; exact IsAll.cons z (q.append y)
theorem IsAll.get : ∀ {ds : List D} {vs : List Value} {i : Nat}, IsAll h ds vs → ds[i]? = some d → ∃ v, vs[i]? = some v ∧ Is h d v
  | [], _, _, _, e => by simp at e
  | d' :: ds, _, i, x, e => by
    obtain ⟨v, r, rfl, z, q⟩ := isAll_cons.mp x
    cases i with
    | zero => simp at e; subst e; exact ⟨v, rfl, z⟩
    | succ i => simp at e; obtain ⟨u, a, b⟩ := q.get e; exact ⟨u, by simpa using a, b⟩
theorem IsAll.get' : ∀ {ds : List D} {vs : List Value} {i : Nat}, IsAll h ds vs → vs[i]? = some v → ∃ d, ds[i]? = some d ∧ Is h d v
  | [], _, _, x, e => by rw [isAll_nil.mp x] at e; simp at e
  | d' :: ds, _, i, x, e => by
    obtain ⟨v', r, rfl, z, q⟩ := isAll_cons.mp x
    cases i with
    | zero => simp at e; subst e; exact ⟨d', rfl, z⟩
    | succ i => simp at e; obtain ⟨u, a, b⟩ := q.get' e; exact ⟨u, by simpa using a, b⟩
theorem IsAll.of_get : ∀ {ds : List D} {vs : List Value}, vs.length = ds.length → (∀ (i : Nat) (d : D) (v : Value), ds[i]? = some d → vs[i]? = some v → Is h d v) → IsAll h ds vs
  | [], [], _, _ => IsAll.nil
  | [], _ :: _, e, _ => by simp at e
  | _ :: _, [], e, _ => by simp at e
  | d :: ds, v :: vs, e, k => IsAll.cons (k 0 d v rfl rfl) (IsAll.of_get (by simpa using e) fun i d v a b => k (i + 1) d v (by simpa using a) (by simpa using b))
theorem IsAll.set {i : Nat} (x : IsAll h ds vs) (y : Is h d v) : IsAll h (ds.set i d) (vs.set i v) := by
  refine IsAll.of_get (by simp [x.length]) fun j d' v' a b => ?_
  rw [List.getElem?_set] at a b
  by_cases q : i = j
  · subst q
    simp only [if_true] at a b
    split at a <;> split at b <;> simp_all
  · simp only [q, if_false] at a b
    obtain ⟨u, p, r⟩ := x.get a
    rw [p] at b; cases b; exact r
theorem IsAll.take : ∀ {ds : List D} {vs : List Value} (n : Nat), IsAll h ds vs → IsAll h (ds.take n) (vs.take n)
  | _, _, 0, _ => by simpa using IsAll.nil
  | [], _, n + 1, x => by rw [isAll_nil.mp x]; simpa using IsAll.nil
  | d :: ds, _, n + 1, x => by obtain ⟨v, r, rfl, z, q⟩ := isAll_cons.mp x; simpa using IsAll.cons z (q.take n)
theorem IsAll.drop : ∀ {ds : List D} {vs : List Value} (n : Nat), IsAll h ds vs → IsAll h (ds.drop n) (vs.drop n)
  | _, _, 0, x => by simpa using x
  | [], _, n + 1, x => by rw [isAll_nil.mp x]; simpa using IsAll.nil
  | d :: ds, _, n + 1, x => by obtain ⟨v, r, rfl, z, q⟩ := isAll_cons.mp x; simpa using q.drop n
end

/-- the lists at hand, by address -/
abbrev Sto := Addr → Option (List D)
def Sto.set (σ : Sto) (a : Addr) (ds : List D) : Sto := fun b => if b = a then some ds else σ b
theorem Sto.set_self (σ : Sto) (a : Addr) (ds : List D) : σ.set a ds a = some ds := by simp [Sto.set]
theorem Sto.set_ne (σ : Sto) {a b : Addr} (ds : List D) (h : b ≠ a) : σ.set a ds b = σ b := by simp [Sto.set, h]
theorem Sto.set_set (σ : Sto) (a : Addr) (ds es : List D) : (σ.set a ds).set a es = σ.set a es := by
  funext b; simp only [Sto.set]; split <;> rfl
theorem Sto.set_comm (σ : Sto) {a b : Addr} (ds es : List D) (h : a ≠ b) : (σ.set a ds).set b es = (σ.set b es).set a ds := by
  funext c; simp only [Sto.set]; split <;> split <;> simp_all
theorem Sto.set_same {σ : Sto} {a : Addr} {ds : List D} (h : σ a = some ds) : σ.set a ds = σ := by
  funext c; simp only [Sto.set]; split <;> simp_all
def Sub (σ τ : Sto) : Prop := ∀ a ds, σ a = some ds → τ a = some ds
theorem Sub.refl (σ : Sto) : Sub σ σ := fun _ _ e => e
theorem Sub.new {σ τ : Sto} {a : Addr} {ds : List D} (x : Sub σ τ) (h : σ a = none) : Sub σ (τ.set a ds) := fun b es e => by
  rw [Sto.set_ne]
  · exact x b es e
  · rintro rfl; rw [h] at e; cases e
theorem Sub.set {σ τ : Sto} (a : Addr) (ds : List D) (x : Sub σ τ) : Sub (σ.set a ds) (τ.set a ds) := fun b es e => by
  simp only [Sto.set] at e ⊢
  split <;> simp_all
  exact x b es e

abbrev Loc := String → Option D
def Loc.put (m : Loc) (x : String) (d : D) : Loc := fun y => if y = x then some d else m y
theorem Loc.put_apply (m : Loc) (x y : String) (d : D) : m.put x d y = if y = x then some d else m y := rfl

structure Frm where
  env : Env
  m : Loc
  fn : Bool

def FrOk (h : Heap) (f : Frm) : Prop :=
  (∃ mv, h.Ns f.env.locals mv ∧ ∀ x d, f.m x = some d →
    (f.env.kindOf (Str.ofString x) = some .local ∧ ∃ v, mv (Str.ofString x) = some v ∧ Is h d v) ∨
    (f.env.kindOf (Str.ofString x) = some .cell ∧ ∃ c v, f.env.cells.lookup (Str.ofString x) = some c ∧ h.IsCell c (some v) ∧ Is h d v)) ∧
  (∀ p ∈ f.env.cells, ∃ v, h.IsCell p.2 v)

def Apart : List Frm → Prop
  | [] => True
  | f :: fs => (∀ g ∈ fs, f.env.locals ≠ g.env.locals) ∧ (f.fn = true → (f.env.cells.Pairwise fun p q => p.2 ≠ q.2) ∧ ∀ g ∈ fs, ∀ p ∈ f.env.cells, ∀ q ∈ g.env.cells, p.2 ≠ q.2) ∧ Apart fs

abbrev Hid := Addr → Option Obj

structure Gnd where
  h₀ : Heap
  os : OsState
  mg : Str → Option Value
  mb : Str → Option Value
  base : Addr → Option (List D)
  g : h₀.Ns mainGlobals mg
  b : h₀.Ns builtinsNs mb
  bi : ∀ x : Str, x ≠ "__name__" → mb x = bootBuiltins x
  nolim : h₀.NoLimit
  bases : ∀ a ds, base a = some ds → ∃ vs n, h₀.get? a = some (lstO vs n) ∧ IsAll h₀ ds vs

structure St (G : Gnd) (H : Hid) (fs : List Frm) (σ : Sto) (s : Shared) : Prop where
  keep : ∀ b o, G.h₀.get? b = some o → s.heap.get? b = some o
  gens : s.gens = #[]
  os : s.os = G.os
  lists : ∀ a ds, σ a = some ds → G.h₀.get? a = none ∧ ∃ vs n, s.heap.get? a = some (lstO vs n) ∧ IsAll s.heap ds vs
  frames : ∀ f ∈ fs, FrOk s.heap f ∧ G.h₀.get? f.env.locals = none ∧ ∀ p ∈ f.env.cells, G.h₀.get? p.2 = none
  apart : Apart fs
  hid : ∀ a o, H a = some o → G.h₀.get? a = none ∧ s.heap.get? a = some o ∧ ¬ frozen o ∧ σ a = none ∧ ((∃ vs, o.data = .fields vs) ∨ ∃ xs n, o.data = .seq xs n)

end Hq

-- HqB
open PySem PySem.W PyProof.Rows
set_option Elab.async false
namespace Hq

variable {G : Gnd} {H : Hid} {fs : List Frm} {σ τ : Sto} {s : Shared} {h h' : Heap}

/-- a keeping but for one address that is not frozen -/
theorem FrOk.move {f : Frm} (x : FrOk h f) (hn : ∀ o, h.get? f.env.locals = some o → h'.get? f.env.locals = some o) (hc : ∀ p ∈ f.env.cells, ∀ o, h.get? p.2 = some o → h'.get? p.2 = some o) (l : Le h h') : FrOk h' f := by
  obtain ⟨⟨mv, ns, k⟩, c⟩ := x
  refine ⟨⟨mv, ns.at' hn, fun x d e => ?_⟩, fun p hp => ?_⟩
  · rcases k x d e with ⟨a, v, b, i⟩ | ⟨a, q, v, b, i, j⟩
    · exact .inl ⟨a, v, b, i.mono l⟩
    · refine .inr ⟨a, q, v, b, ?_, j.mono l⟩
      obtain ⟨o, ho, r⟩ := i
      exact ⟨o, hc (Str.ofString x, q) (mem_of_lookup b) o ho, r⟩
  · obtain ⟨v, o, ho, r⟩ := c p hp
    exact ⟨v, o, hc p hp o ho, r⟩

theorem not_frozen_list {vs : List Value} {n : Nat} : ¬ frozen (lstO vs n) := by
  rintro (⟨f, _⟩ | ⟨f, _⟩) <;> simp at f
theorem not_frozen_dict {o : Obj} {es ep} (hd : o.data = .dict es ep) : ¬ frozen o := by
  rintro (⟨_, xs, n, e⟩ | ⟨_, vs, e⟩) <;> rw [hd] at e <;> cases e
theorem not_frozen_cell {o : Obj} {v} (hd : o.data = .cell v) : ¬ frozen o := by
  rintro (⟨_, xs, n, e⟩ | ⟨_, vs, e⟩) <;> rw [hd] at e <;> cases e

theorem St.sub (x : St G H fs τ s) (k : Sub σ τ) : St G H fs σ s :=
  ⟨x.keep, x.gens, x.os, fun a ds e => x.lists a ds (k a ds e), x.frames, x.apart, fun a o e => by
    obtain ⟨p, q, r, t, u⟩ := x.hid a o e
    refine ⟨p, q, r, ?_, u⟩
    cases z : σ a with
    | none => rfl
    | some ds => rw [k a ds z] at t; cases t⟩

theorem St.grow (x : St G H fs σ s) {h' : Heap} (tk : Nat) (k : ∀ b o, s.heap.get? b = some o → h'.get? b = some o) : St G H fs σ { s with heap := h', toks := tk } := by
  have l := Le.of_keeps k
  refine ⟨fun b o e => k b o (x.keep b o e), x.gens, x.os, fun a ds e => ?_, fun f hf => ?_, x.apart, fun a o e => ?_⟩
  · obtain ⟨q, vs, n, g, i⟩ := x.lists a ds e
    exact ⟨q, vs, n, k _ _ g, i.mono l⟩
  · obtain ⟨a, b, c⟩ := x.frames f hf
    exact ⟨a.move (fun o e => k _ o e) (fun p _ o e => k _ o e) l, b, c⟩
  · obtain ⟨a, b, c⟩ := x.hid a o e
    exact ⟨a, k _ _ b, c⟩
theorem St.tok (x : St G H fs σ s) (tk : Nat) : St G H fs σ { s with toks := tk } := x.grow (h' := s.heap) tk fun _ _ e => e

theorem St.list_ne_locals (x : St G H fs σ s) {a : Addr} {ds : List D} (ha : σ a = some ds) {f : Frm} (hf : f ∈ fs) : f.env.locals ≠ a := by
  rintro rfl
  obtain ⟨_, vs, n, g, _⟩ := x.lists _ ds ha
  obtain ⟨⟨⟨mv, ⟨o, es, ep, ho, hd, _⟩, _⟩, _⟩, _⟩ := x.frames f hf
  rw [g] at ho; cases ho; cases hd
theorem St.list_ne_cell (x : St G H fs σ s) {a : Addr} {ds : List D} (ha : σ a = some ds) {f : Frm} (hf : f ∈ fs) {p : Str × Addr} (hp : p ∈ f.env.cells) : p.2 ≠ a := by
  rintro rfl
  obtain ⟨_, vs, n, g, _⟩ := x.lists _ ds ha
  obtain ⟨⟨_, c⟩, _⟩ := x.frames f hf
  obtain ⟨v, o, ho, hd⟩ := c p hp
  rw [g] at ho; cases ho; cases hd
theorem St.list_ne_hid (x : St G H fs σ s) {a : Addr} {ds : List D} (ha : σ a = some ds) {b : Addr} {o : Obj} (hb : H b = some o) : b ≠ a := by
  rintro rfl
  obtain ⟨_, _, _, e, _⟩ := x.hid _ o hb
  rw [ha] at e; cases e

theorem St.write (x : St G H fs σ s) {a : Addr} {ds ds' : List D} (ha : σ a = some ds) {h' : Heap} (tk : Nat) (hs : ∀ b o, b ≠ a → s.heap.get? b = some o → h'.get? b = some o)
    {vs' : List Value} {n' : Nat} (hg : h'.get? a = some (lstO vs' n')) (hi : IsAll s.heap ds' vs') : Le s.heap h' ∧ St G H fs (σ.set a ds') { s with heap := h', toks := tk } := by
  obtain ⟨q0, vs, n, g, i⟩ := x.lists a ds ha
  have l : Le s.heap h' := Le.of_but g not_frozen_list hs
  refine ⟨l, fun b o e => hs b o (by rintro rfl; rw [q0] at e; cases e) (x.keep b o e), x.gens, x.os, fun b es e => ?_, fun f hf => ?_, x.apart, fun b o e => ?_⟩
  · by_cases hb : b = a
    · subst hb; rw [Sto.set_self] at e; cases e; exact ⟨q0, vs', n', hg, hi.mono l⟩
    · rw [Sto.set_ne _ _ hb] at e
      obtain ⟨q, ws, k, g, i⟩ := x.lists b es e
      exact ⟨q, ws, k, hs _ _ hb g, i.mono l⟩
  · obtain ⟨u, v, c⟩ := x.frames f hf
    exact ⟨u.move (fun o e => hs _ o (x.list_ne_locals ha hf) e) (fun p hp o e => hs _ o (x.list_ne_cell ha hf hp) e) l, v, c⟩
  · obtain ⟨u, v, c, z, t⟩ := x.hid b o e
    exact ⟨u, hs _ _ (x.list_ne_hid ha e) v, c, by rw [Sto.set_ne _ _ (x.list_ne_hid ha e)]; exact z, t⟩

theorem get_none_of_size {h : Heap} {a : Addr} (ha : h.objs.size ≤ a) : h.get? a = none := by
  cases e : h.get? a with
  | none => rfl
  | some o => exact absurd (Heap.lt_size e) (Nat.not_lt.mpr ha)

theorem St.fresh (x : St G H fs σ s) {a : Addr} (ha : s.heap.get? a = none) : σ a = none ∧ G.h₀.get? a = none := by
  constructor
  · cases e : σ a with
    | none => rfl
    | some ds => obtain ⟨_, vs, n, g, _⟩ := x.lists a ds e; rw [ha] at g; cases g
  · cases e : G.h₀.get? a with
    | none => rfl
    | some o => rw [x.keep a o e] at ha; cases ha

theorem St.make (x : St G H fs σ s) {D : Addr} {ds : List Hq.D} {h' : Heap} (tk : Nat) (k : ∀ b o, s.heap.get? b = some o → h'.get? b = some o) (hD : s.heap.get? D = none)
    {vs : List Value} {n : Nat} (hg : h'.get? D = some (lstO vs n)) (hi : IsAll h' ds vs) : St G H fs (σ.set D ds) { s with heap := h', toks := tk } := by
  have y := x.grow tk k
  obtain ⟨f1, f2⟩ := x.fresh hD
  refine ⟨y.keep, y.gens, y.os, fun b es e => ?_, y.frames, y.apart, fun b o e => ?_⟩
  rotate_left
  · obtain ⟨u, v, c, z, t⟩ := y.hid b o e
    refine ⟨u, v, c, ?_, t⟩
    rw [Sto.set_ne]; exact z
    rintro rfl
    have := (x.hid _ o e).2.1
    rw [hD] at this; cases this
  by_cases hb : b = D
  · subst hb; rw [Sto.set_self] at e; cases e; exact ⟨f2, vs, n, hg, hi⟩
  · rw [Sto.set_ne _ _ hb] at e; exact y.lists b es e

theorem ofString_inj {a b : String} (h : Str.ofString a = Str.ofString b) : a = b := by
  rw [Str.ofString_eq_toList, Str.ofString_eq_toList] at h
  injection h with h
  have h2 := congrArg Array.toList h
  simp only at h2
  have inj : ∀ (l l' : List Char), l.map Char.toNat = l'.map Char.toNat → l = l' := by
    intro l
    induction l with
    | nil => intro l' e; cases l' <;> simp_all
    | cons c l ih =>
      intro l' e
      cases l' with
      | nil => simp at e
      | cons c' l' =>
        simp only [List.map_cons, List.cons.injEq] at e
        rw [ih l' e.2, Char.toNat_inj.mp e.1]
  exact String.toList_inj.mp (inj _ _ h2)

theorem St.hid_ne_ns (S : St G H fs σ s) {a L : Addr} {o : Obj} (hb : H a = some o) {mv} (hn : s.heap.Ns L mv) : a ≠ L := by
  rintro rfl
  obtain ⟨oL, es, ep, hL, hd, _⟩ := hn
  obtain ⟨_, g, _, _, ⟨ws, e⟩ | ⟨ws, n, e⟩⟩ := S.hid _ o hb <;> rw [g] at hL <;> cases hL <;> rw [e] at hd <;> cases hd
theorem St.hid_ne_cell (S : St G H fs σ s) {a c : Addr} {o : Obj} (hb : H a = some o) {v} (hn : s.heap.IsCell c v) : a ≠ c := by
  rintro rfl
  obtain ⟨oL, hL, hd⟩ := hn
  obtain ⟨_, g, _, _, ⟨ws, e⟩ | ⟨ws, n, e⟩⟩ := S.hid _ o hb <;> rw [g] at hL <;> cases hL <;> rw [e] at hd <;> cases hd
theorem ns_ne_cell {L c : Addr} {mv v} (hn : h.Ns L mv) (hc : h.IsCell c v) : c ≠ L := by
  rintro rfl
  obtain ⟨oL, es, ep, hL, hd, _⟩ := hn
  obtain ⟨o, ho, hd'⟩ := hc
  rw [ho] at hL; cases hL; rw [hd'] at hd; cases hd

theorem St.store {env : Env} {m : Loc} {fn : Bool} (x : String) {d : D} {v : Value} (S : St G H (⟨env, m, fn⟩ :: fs) σ s)
    (hl : env.kindOf (Str.ofString x) = some .local) (hi : Is s.heap d v) :
    ∃ mv, s.heap.Ns env.locals mv ∧ ∀ h' tk, h'.Ns env.locals (fun y => if y = Str.ofString x then some v else mv y) → Heap.SameBut env.locals s.heap h' →
      Le s.heap h' ∧ St G H (⟨env, m.put x d, fn⟩ :: fs) σ { s with heap := h', toks := tk } := by
  obtain ⟨⟨⟨mv, hmv, hm⟩, hc⟩, hb, hbc⟩ := S.frames _ List.mem_cons_self
  refine ⟨mv, hmv, fun h' tk hn hs => ?_⟩
  obtain ⟨oL, es, ep, hL, hd, _⟩ := id hmv
  have l : Le s.heap h' := Le.of_but hL (not_frozen_dict hd) fun b o q e => hs.extBut b o q e
  refine ⟨l, fun b o e => hs.extBut b o (by rintro rfl; rw [hb] at e; cases e) (S.keep b o e), S.gens, S.os, fun a ds e => ?_, fun f hf => ?_, ?_, fun a o e => ?_⟩
  · obtain ⟨q, vs, n, g, i⟩ := S.lists a ds e
    exact ⟨q, vs, n, hs.extBut _ _ (Ne.symm (S.list_ne_locals e List.mem_cons_self)) g, i.mono l⟩
  · rcases List.mem_cons.mp hf with rfl | hf
    · refine ⟨⟨⟨_, hn, fun y d' e => ?_⟩, fun p hp => ?_⟩, hb, hbc⟩
      · simp only [Loc.put_apply] at e
        by_cases hy : y = x
        · subst hy; simp only [if_true, Option.some.injEq] at e; subst e
          exact .inl ⟨hl, v, by simp, hi.mono l⟩
        · simp only [hy, if_false] at e
          rcases hm y d' e with ⟨a, u, b, i⟩ | ⟨a, c, u, b, i, j⟩
          · exact .inl ⟨a, u, by rw [if_neg fun q => hy (ofString_inj q)]; exact b, i.mono l⟩
          · exact .inr ⟨a, c, u, b, i.sameBut hs (ns_ne_cell hmv i), j.mono l⟩
      · obtain ⟨u, i⟩ := hc p hp
        exact ⟨u, i.sameBut hs (ns_ne_cell hmv i)⟩
    · obtain ⟨a, b, c⟩ := S.frames f (List.mem_cons_of_mem _ hf)
      refine ⟨a.move (fun o e => hs.extBut _ o (Ne.symm (S.apart.1 f hf)) e) (fun p hp o e => hs.extBut _ o ?_ e) l, b, c⟩
      obtain ⟨u, i⟩ := a.2 p hp
      exact ns_ne_cell hmv i
  · exact ⟨S.apart.1, S.apart.2.1, S.apart.2.2⟩
  · obtain ⟨a', b', c⟩ := S.hid a o e
    exact ⟨a', hs.extBut _ _ (S.hid_ne_ns e hmv) b', c⟩

theorem St.storeC {env : Env} {m : Loc} (x : String) {d : D} {v : Value} {c : Addr} (S : St G H (⟨env, m, true⟩ :: fs) σ s)
    (hl : env.kindOf (Str.ofString x) = some .cell) (hc : env.cells.lookup (Str.ofString x) = some c) (hi : Is s.heap d v) :
    ∃ v₀, s.heap.IsCell c v₀ ∧ ∀ h' tk, h'.IsCell c (some v) → Heap.SameBut c s.heap h' →
      Le s.heap h' ∧ St G H (⟨env, m.put x d, true⟩ :: fs) σ { s with heap := h', toks := tk } := by
  obtain ⟨⟨⟨mv, hmv, hm⟩, hcs⟩, hb, hbc⟩ := S.frames _ List.mem_cons_self
  have hcm := mem_of_lookup hc
  obtain ⟨v₀, hv₀⟩ := hcs _ hcm
  refine ⟨v₀, hv₀, fun h' tk hn hs => ?_⟩
  obtain ⟨oL, hL, hd⟩ := id hv₀
  have l : Le s.heap h' := Le.of_but hL (not_frozen_cell hd) fun b o q e => hs.extBut b o q e
  obtain ⟨ap1, ap2, ap3⟩ := S.apart
  obtain ⟨pw, ap2⟩ := ap2 rfl
  refine ⟨l, fun b o e => hs.extBut b o (by rintro rfl; rw [hbc _ hcm] at e; cases e) (S.keep b o e), S.gens, S.os, fun a ds e => ?_, fun f hf => ?_, ?_, fun a o e => ?_⟩
  · obtain ⟨q, vs, n, g, i⟩ := S.lists a ds e
    exact ⟨q, vs, n, hs.extBut _ _ (Ne.symm (S.list_ne_cell e List.mem_cons_self hcm)) g, i.mono l⟩
  · rcases List.mem_cons.mp hf with rfl | hf
    · refine ⟨⟨⟨_, hmv.sameBut hs (Ne.symm (ns_ne_cell hmv hv₀)), fun y d' e => ?_⟩, fun p hp => ?_⟩, hb, hbc⟩
      · simp only [Loc.put_apply] at e
        by_cases hy : y = x
        · subst hy; simp only [if_true, Option.some.injEq] at e; subst e
          exact .inr ⟨hl, c, v, hc, hn, hi.mono l⟩
        · simp only [hy, if_false] at e
          rcases hm y d' e with ⟨a, u, b, i⟩ | ⟨a, c', u, b, i, j⟩
          · exact .inl ⟨a, u, b, i.mono l⟩
          · refine .inr ⟨a, c', u, b, i.sameBut hs ?_, j.mono l⟩
            rintro rfl
            exact hy (ofString_inj (name_of_addr pw (mem_of_lookup b) hcm))
      · by_cases q : p.2 = c
        · exact ⟨_, by rw [q]; exact hn⟩
        · obtain ⟨u, i⟩ := hcs p hp
          exact ⟨u, i.sameBut hs q⟩
    · obtain ⟨a, b, c'⟩ := S.frames f (List.mem_cons_of_mem _ hf)
      refine ⟨a.move (fun o e => hs.extBut _ o ?_ e) (fun p hp o e => hs.extBut _ o (fun q => ap2 f hf _ hcm p hp q.symm) e) l, b, c'⟩
      obtain ⟨⟨mv', h1, _⟩, _⟩ := a
      exact Ne.symm (ns_ne_cell h1 hv₀)
  · exact ⟨ap1, fun _ => ⟨pw, ap2⟩, ap3⟩
  · obtain ⟨a', b', c'⟩ := S.hid a o e
    exact ⟨a', hs.extBut _ _ (S.hid_ne_cell e hv₀) b', c'⟩

/-- a frame is laid on, taken off -/
theorem St.pushF {f : Frm} {h' : Heap} (S : St G H fs σ s) (tk : Nat) (k : ∀ b o, s.heap.get? b = some o → h'.get? b = some o) (hf : FrOk h' f) (hL : s.heap.get? f.env.locals = none)
    (hc : ∀ p ∈ f.env.cells, G.h₀.get? p.2 = none) (hp : f.fn = true → (f.env.cells.Pairwise fun p q => p.2 ≠ q.2) ∧ ∀ p ∈ f.env.cells, s.heap.get? p.2 = none) : St G H (f :: fs) σ { s with heap := h', toks := tk } := by
  have y := S.grow tk k
  refine ⟨y.keep, y.gens, y.os, y.lists, fun g hg => ?_, ⟨fun g hg => ?_, fun e => ⟨(hp e).1, fun g hg p hp' q hq => ?_⟩, y.apart⟩, y.hid⟩
  · rcases List.mem_cons.mp hg with rfl | hg
    · exact ⟨hf, (S.fresh hL).2, hc⟩
    · exact y.frames g hg
  · obtain ⟨⟨⟨mv, ⟨o, _, _, ho, _⟩, _⟩, _⟩, _⟩ := S.frames g hg
    intro q; rw [q, ho] at hL; cases hL
  · obtain ⟨⟨_, c⟩, _⟩ := S.frames g hg
    obtain ⟨v, o, ho, _⟩ := c q hq
    intro z
    have := (hp e).2 p hp'
    rw [z, ho] at this; cases this
theorem St.popF {f : Frm} (S : St G H (f :: fs) σ s) : St G H fs σ s :=
  ⟨S.keep, S.gens, S.os, S.lists, fun g hg => S.frames g (List.mem_cons_of_mem _ hg), S.apart.2.2, S.hid⟩

/-- reading a list: an own one or one of the ground -/
def rd (G : Gnd) (σ : Sto) (a : Addr) : Option (List D) := (σ a).or (G.base a)
theorem rd_own {a : Addr} {ds : List D} (h : σ a = some ds) : rd G σ a = some ds := by simp [rd, h]
theorem St.read (S : St G H fs σ s) {a : Addr} {ds : List D} (h : rd G σ a = some ds) : ∃ vs n, s.heap.get? a = some (lstO vs n) ∧ IsAll s.heap ds vs := by
  unfold rd at h
  cases e : σ a with
  | some es => rw [e] at h; simp at h; subst h; exact (S.lists a es e).2
  | none =>
    rw [e] at h
    obtain ⟨vs, n, g, i⟩ := G.bases a ds (by simpa using h)
    exact ⟨vs, n, S.keep _ _ g, i.mono (Le.of_keeps S.keep)⟩
end Hq

-- HqC
open PySem PySem.W PyProof.Rows
set_option Elab.async false
set_option linter.unusedVariables false
namespace Hq

inductive Fl where
  | next | brk | cont
  | ret (d : D)
def FlIs (h : Heap) : Fl → Flow → Prop
  | .next, f => f = .next
  | .brk, f => f = .brk
  | .cont, f => f = .cont
  | .ret d, f => ∃ v, f = .ret v ∧ Is h d v

def Post (G : Gnd) (H : Hid) (fs : List Frm) (s : Shared) (P : D → Sto → Prop) (v : Value) (s' : Shared) : Prop :=
  Le s.heap s'.heap ∧ ∃ d σ', Is s'.heap d v ∧ St G H fs σ' s' ∧ P d σ'
def PostB (G : Gnd) (H : Hid) (fs : List Frm) (s : Shared) (P : Bool → Sto → Prop) (b : Bool) (s' : Shared) : Prop :=
  Le s.heap s'.heap ∧ ∃ σ', St G H fs σ' s' ∧ P b σ'
def PostL (G : Gnd) (H : Hid) (fs : List Frm) (s : Shared) (P : List D → Sto → Prop) (vs : List Value) (s' : Shared) : Prop :=
  Le s.heap s'.heap ∧ ∃ ds σ', IsAll s'.heap ds vs ∧ St G H fs σ' s' ∧ P ds σ'
def PostF (G : Gnd) (H : Hid) (env : Env) (fn : Bool) (fs : List Frm) (s : Shared) (P : Fl → Loc → Sto → Prop) (f : Flow) (s' : Shared) : Prop :=
  Le s.heap s'.heap ∧ ∃ fl m' σ', FlIs s'.heap fl f ∧ St G H (⟨env, m', fn⟩ :: fs) σ' s' ∧ P fl m' σ'
def PostM (G : Gnd) (H : Hid) (env : Env) (fn : Bool) (fs : List Frm) (s : Shared) (P : Loc → Sto → Prop) (s' : Shared) : Prop :=
  Le s.heap s'.heap ∧ ∃ m' σ', St G H (⟨env, m', fn⟩ :: fs) σ' s' ∧ P m' σ'
def NoE : Value → Shared → Prop := fun _ _ => False

section
variable {G : Gnd} {H : Hid} {fs : List Frm} {s s₁ s' : Shared}
theorem Post.le {P : D → Sto → Prop} {v : Value} (l : Le s.heap s₁.heap) (x : Post G H fs s₁ P v s') : Post G H fs s P v s' := ⟨l.trans x.1, x.2⟩
theorem PostB.le {P : Bool → Sto → Prop} {v : Bool} (l : Le s.heap s₁.heap) (x : PostB G H fs s₁ P v s') : PostB G H fs s P v s' := ⟨l.trans x.1, x.2⟩
theorem PostF.le {env : Env} {fn : Bool} {P : Fl → Loc → Sto → Prop} {v : Flow} (l : Le s.heap s₁.heap) (x : PostF G H env fn fs s₁ P v s') : PostF G H env fn fs s P v s' := ⟨l.trans x.1, x.2⟩
theorem PostM.le {env : Env} {fn : Bool} {P : Loc → Sto → Prop} (l : Le s.heap s₁.heap) (x : PostM G H env fn fs s₁ P s') : PostM G H env fn fs s P s' := ⟨l.trans x.1, x.2⟩
theorem Post.here {P : D → Sto → Prop} {v : Value} {d : D} {σ : Sto} (i : Is s.heap d v) (S : St G H fs σ s) (h : P d σ) : Post G H fs s P v s := ⟨Le.refl _, d, σ, i, S, h⟩
end

variable (prog : Program) (w : World) (A : Around) (G : Gnd)

def Wv (fs : List Frm) (σ : Sto) (t : Sem Value) (P : D → Sto → Prop) : Prop := ∀ H s, St G H fs σ s → wpAny (model prog w) A t (Post G H fs s P) NoE s
def Wb (fs : List Frm) (σ : Sto) (t : Sem Bool) (P : Bool → Sto → Prop) : Prop := ∀ H s, St G H fs σ s → wpAny (model prog w) A t (PostB G H fs s P) NoE s
def Wl (fs : List Frm) (σ : Sto) (t : Sem (List Value)) (P : List D → Sto → Prop) : Prop := ∀ H s, St G H fs σ s → wpAny (model prog w) A t (PostL G H fs s P) NoE s
def Wf (env : Env) (fn : Bool) (fs : List Frm) (m : Loc) (σ : Sto) (t : Sem Flow) (P : Fl → Loc → Sto → Prop) : Prop := ∀ H s, St G H (⟨env, m, fn⟩ :: fs) σ s → wpAny (model prog w) A t (PostF G H env fn fs s P) NoE s
/-- an expression, a test, statements -/
abbrev Ev (fs : List Frm) (env : Env) (e : Expr) (σ : Sto) (P : D → Sto → Prop) : Prop := Wv prog w A G fs σ (eval e env) P
abbrev Ts (fs : List Frm) (env : Env) (e : Expr) (σ : Sto) (P : Bool → Sto → Prop) : Prop := Wb prog w A G fs σ (isTrue e env (eval e env)) P
abbrev Ex (env : Env) (fn : Bool) (fs : List Frm) (ss : List Stmt) (m : Loc) (σ : Sto) (P : Fl → Loc → Sto → Prop) : Prop := Wf prog w A G env fn fs m σ (execs ss env) P
abbrev Ex1 (env : Env) (fn : Bool) (fs : List Frm) (st : Stmt) (m : Loc) (σ : Sto) (P : Fl → Loc → Sto → Prop) : Prop := Wf prog w A G env fn fs m σ (exec st env) P
/-- a storing of a datum into a target -/
def Sn (env : Env) (fn : Bool) (fs : List Frm) (f : Value → Sem Unit) (d : D) (m : Loc) (σ : Sto) (P : Loc → Sto → Prop) : Prop :=
  ∀ H s v, St G H (⟨env, m, fn⟩ :: fs) σ s → Is s.heap d v → wpAny (model prog w) A (f v) (fun _ => PostM G H env fn fs s P) NoE s
def V2 (fs : List Frm) (f : Value → Value → Sem Value) (d₁ d₂ : D) (σ : Sto) (P : D → Sto → Prop) : Prop :=
  ∀ H s v₁ v₂, St G H fs σ s → Is s.heap d₁ v₁ → Is s.heap d₂ v₂ → wpAny (model prog w) A (f v₁ v₂) (Post G H fs s P) NoE s
def B1 (fs : List Frm) (d : D) (σ : Sto) (P : Bool → Sto → Prop) : Prop :=
  ∀ H s v, St G H fs σ s → Is s.heap d v → wpAny (model prog w) A (truthy v) (PostB G H fs s P) NoE s
/-- a call with its arguments at hand -/
def Cl (fs : List Frm) (f : Value) (ds : List D) (σ : Sto) (P : D → Sto → Prop) : Prop :=
  ∀ H s vs, St G H fs σ s → IsAll s.heap ds vs → wpAny (model prog w) A (call f vs) (Post G H fs s P) NoE s

variable {prog : Program} {w : World} {A : Around} {G : Gnd} {fs : List Frm} {env : Env} {m : Loc} {fn : Bool} {σ : Sto} {P : D → Sto → Prop} {PB : Bool → Sto → Prop} {PF : Fl → Loc → Sto → Prop} {PM : Loc → Sto → Prop}

theorem Wv.mono {t : Sem Value} {P' : D → Sto → Prop} (h : Wv prog w A G fs σ t P) (k : ∀ d τ, P d τ → P' d τ) : Wv prog w A G fs σ t P' := fun H s S =>
  wpAny_mono (h H s S) (fun _ _ ⟨l, d, τ, i, S', p⟩ => ⟨l, d, τ, i, S', k d τ p⟩) fun _ _ x => x
theorem Wb.mono {t : Sem Bool} {P' : Bool → Sto → Prop} (h : Wb prog w A G fs σ t PB) (k : ∀ d τ, PB d τ → P' d τ) : Wb prog w A G fs σ t P' := fun H s S =>
  wpAny_mono (h H s S) (fun b _ ⟨l, τ, S', p⟩ => ⟨l, τ, S', k b τ p⟩) fun _ _ x => x
theorem Wf.mono {t : Sem Flow} {P' : Fl → Loc → Sto → Prop} (h : Wf prog w A G env fn fs m σ t PF) (k : ∀ f m τ, PF f m τ → P' f m τ) : Wf prog w A G env fn fs m σ t P' := fun H s S =>
  wpAny_mono (h H s S) (fun _ _ ⟨l, f, m', τ, i, S', p⟩ => ⟨l, f, m', τ, i, S', k f m' τ p⟩) fun _ _ x => x
theorem Wf.sub {t : Sem Flow} {τ : Sto} (k : Sub σ τ) (h : Wf prog w A G env fn fs m σ t PF) : Wf prog w A G env fn fs m τ t PF := fun H s S => h H s (S.sub k)
/- names and constants -/
theorem ev_int {i : Int} {k : Nat} {pos : Pos} (h : P (.int i) σ) : Ev prog w A G fs env (.Constant (.int i) k pos) σ P := fun _ s S =>
  wpAny_Constant_int ⟨Le.refl _, _, _, is_int.mpr ⟨_, rfl⟩, S.tok _, h⟩
theorem ev_noneC {k : Nat} {pos : Pos} (h : P .none σ) : Ev prog w A G fs env (.Constant .none k pos) σ P := fun _ s S =>
  wpAny_Constant_none ⟨Le.refl _, _, _, is_none.mpr rfl, S, h⟩
theorem ev_boolC {b : Bool} {k : Nat} {pos : Pos} (h : P (.bool b) σ) : Ev prog w A G fs env (.Constant (.bool b) k pos) σ P := fun _ s S =>
  wpAny_Constant_bool ⟨Le.refl _, _, _, is_bool.mpr rfl, S, h⟩

theorem ev_name {x : String} {d : D} {pos : Pos} (hm : m x = some d) (h : P d σ) (hk : env.scope.kind = .function := by rfl) (hd : (Str.ofString x == ("__debug__" : Str)) = false := by decide) :
    Ev prog w A G (⟨env, m, fn⟩ :: fs) env (.Name (Str.ofString x) pos) σ P := fun H s S => by
  obtain ⟨⟨⟨mv, hmv, k⟩, _⟩, _⟩ := S.frames _ List.mem_cons_self
  rcases k x d hm with ⟨a, v, b, i⟩ | ⟨a, c, v, b, i, j⟩
  · exact wpAny_Name (wpAny_loadName_local hk a hmv b (Post.here i S h)) hd
  · exact wpAny_Name (wpAny_loadName_cell hk a b i (Post.here j S h)) hd

theorem ev_global {x : Str} {v : Value} {pos : Pos} (hg : G.mg x = some v) (h : P (.val v) σ) (hk : env.scope.kind = .function := by rfl) (hx : env.kindOf x = some .globalImplicit := by rfl)
    (hE : env.globals = mainGlobals := by rfl) (hd : (x == ("__debug__" : Str)) = false := by decide) : Ev prog w A G fs env (.Name x pos) σ P := fun H s S =>
  Calls.Name_function_global hk hx (Calls.loadGlobal_global (hE ▸ G.g.keeps S.keep) hg (Post.here (is_val.mpr rfl) S h)) hd

theorem ev_builtin {x : Str} {v : Value} {pos : Pos} (hg : G.mg x = none) (hv : bootBuiltins x = some v) (hn : x ≠ "__name__") (h : P (.val v) σ) (hk : env.scope.kind = .function := by rfl)
    (hx : env.kindOf x = some .globalImplicit := by rfl) (hE : env.globals = mainGlobals := by rfl) (hB : env.builtins = builtinsNs := by rfl) (hd : (x == ("__debug__" : Str)) = false := by decide) :
    Ev prog w A G fs env (.Name x pos) σ P := fun H s S =>
  Calls.Name_function_global hk hx (Calls.loadGlobal_builtin (hE ▸ G.g.keeps S.keep) hg (hB ▸ G.b.keeps S.keep) ((G.bi x hn).trans hv) (Post.here (is_val.mpr rfl) S h)) hd

/- operators -/
theorem ev_binop {l r : Expr} {op : Operator} {pos : Pos} (h : Ev prog w A G fs env l σ fun d₁ σ₁ => Ev prog w A G fs env r σ₁ fun d₂ σ₂ => V2 prog w A G fs (binaryOp op) d₁ d₂ σ₂ P) :
    Ev prog w A G fs env (.BinOp l op r pos) σ P := fun H s S =>
  wpAny_BinOp (wpAny_mono (h H s S) (fun v₁ s₁ ⟨l₁, d₁, σ₁, i₁, S₁, k₁⟩ => wpAny_mono (k₁ H s₁ S₁) (fun v₂ s₂ ⟨l₂, d₂, σ₂, i₂, S₂, k₂⟩ =>
    wpAny_mono (k₂ H s₂ v₁ v₂ S₂ (i₁.mono l₂) i₂) (fun _ _ p => p.le (l₁.trans l₂)) fun _ _ x => x) fun _ _ x => x) fun _ _ x => x)

theorem ev_compare {l r : Expr} {op : CmpOp} {pos : Pos} (h : Ev prog w A G fs env l σ fun d₁ σ₁ => Ev prog w A G fs env r σ₁ fun d₂ σ₂ => V2 prog w A G fs (compareOp op) d₁ d₂ σ₂ P)
    (hm : behindInMarks op r = false := by with_unfolding_all rfl) : Ev prog w A G fs env (.Compare l [op] [r] pos) σ P := fun H s S =>
  wpAny_Compare1 (wpAny_mono (h H s S) (fun v₁ s₁ ⟨l₁, d₁, σ₁, i₁, S₁, k₁⟩ => wpAny_mono (k₁ H s₁ S₁) (fun v₂ s₂ ⟨l₂, d₂, σ₂, i₂, S₂, k₂⟩ =>
    wpAny_mono (k₂ H s₂ v₁ v₂ S₂ (i₁.mono l₂) i₂) (fun _ _ p => p.le (l₁.trans l₂)) fun _ _ x => x) fun _ _ x => x) fun _ _ x => x) hm

theorem ts_compare {l r : Expr} {op : CmpOp} {pos : Pos} (h : Ev prog w A G fs env l σ fun d₁ σ₁ => Ev prog w A G fs env r σ₁ fun d₂ σ₂ => V2 prog w A G fs (compareOp op) d₁ d₂ σ₂ fun d σ₃ => B1 prog w A G fs d σ₃ PB)
    (hm : behindInMarks op r = false := by with_unfolding_all rfl) : Ts prog w A G fs env (.Compare l [op] [r] pos) σ PB := fun H s S =>
  wpAny_isTrue_Compare1 (wpAny_mono (h H s S) (fun v₁ s₁ ⟨l₁, d₁, σ₁, i₁, S₁, k₁⟩ => wpAny_mono (k₁ H s₁ S₁) (fun v₂ s₂ ⟨l₂, d₂, σ₂, i₂, S₂, k₂⟩ =>
    wpAny_mono (k₂ H s₂ v₁ v₂ S₂ (i₁.mono l₂) i₂) (fun v₃ s₃ ⟨l₃, d₃, σ₃, i₃, S₃, k₃⟩ => wpAny_mono (k₃ H s₃ v₃ S₃ i₃) (fun _ _ p => p.le ((l₁.trans l₂).trans l₃)) fun _ _ x => x) fun _ _ x => x) fun _ _ x => x) fun _ _ x => x) hm

theorem b1_bool {b : Bool} (h : PB b σ) : B1 prog w A G fs (.bool b) σ PB := fun H s v S i => by
  rw [is_bool.mp i]; exact wpAny_truthy_bool ⟨Le.refl _, _, S, h⟩

section
variable {a b : Int}
theorem add_i (h : P (.int (a + b)) σ) : V2 prog w A G fs (binaryOp .Add) (.int a) (.int b) σ P := fun H s v₁ v₂ S i₁ i₂ => by
  obtain ⟨t, rfl⟩ := is_int.mp i₁; obtain ⟨u, rfl⟩ := is_int.mp i₂
  exact PyProof.Rows.add_int ⟨Le.refl _, _, _, is_int.mpr ⟨_, rfl⟩, S.tok _, h⟩
theorem sub_i (h : P (.int (a - b)) σ) : V2 prog w A G fs (binaryOp .Sub) (.int a) (.int b) σ P := fun H s v₁ v₂ S i₁ i₂ => by
  obtain ⟨t, rfl⟩ := is_int.mp i₁; obtain ⟨u, rfl⟩ := is_int.mp i₂
  exact PyProof.Rows.sub_int ⟨Le.refl _, _, _, is_int.mpr ⟨_, rfl⟩, S.tok _, h⟩
theorem mul_i (hm : IntMulOk a b) (h : P (.int (a * b)) σ) : V2 prog w A G fs (binaryOp .Mult) (.int a) (.int b) σ P := fun H s v₁ v₂ S i₁ i₂ => by
  obtain ⟨t, rfl⟩ := is_int.mp i₁; obtain ⟨u, rfl⟩ := is_int.mp i₂
  exact PyProof.Rows.mul_int ⟨Le.refl _, _, _, is_int.mpr ⟨_, rfl⟩, S.tok _, h⟩ hm
theorem fdiv_i (hb : b ≠ 0) (hs : b.natAbs < 1073741824) (h : P (.int (a.fdiv b)) σ) : V2 prog w A G fs (binaryOp .FloorDiv) (.int a) (.int b) σ P := fun H s v₁ v₂ S i₁ i₂ => by
  obtain ⟨t, rfl⟩ := is_int.mp i₁; obtain ⟨u, rfl⟩ := is_int.mp i₂
  exact PyProof.Rows.floordiv_int hb ⟨Le.refl _, _, _, is_int.mpr ⟨_, rfl⟩, S.tok _, h⟩ (.inl (PyProof.noPylong_small hs))
theorem half_i (h0 : 0 ≤ a) (h : P (.int (a / 2)) σ) : V2 prog w A G fs (binaryOp .RShift) (.int a) (.int 1) σ P := fun H s v₁ v₂ S i₁ i₂ => by
  obtain ⟨t, rfl⟩ := is_int.mp i₁; obtain ⟨u, rfl⟩ := is_int.mp i₂
  exact wpAny_rshift1_int h0 ⟨Le.refl _, _, _, is_int.mpr ⟨_, rfl⟩, S.tok _, h⟩
theorem lt_i (h : P (.bool (decide (a < b))) σ) : V2 prog w A G fs (compareOp .Lt) (.int a) (.int b) σ P := fun H s v₁ v₂ S i₁ i₂ => by
  obtain ⟨t, rfl⟩ := is_int.mp i₁; obtain ⟨u, rfl⟩ := is_int.mp i₂
  exact PyProof.Rows.lt_int (Post.here (is_bool.mpr rfl) S h)
theorem gt_i (h : P (.bool (decide (b < a))) σ) : V2 prog w A G fs (compareOp .Gt) (.int a) (.int b) σ P := fun H s v₁ v₂ S i₁ i₂ => by
  obtain ⟨t, rfl⟩ := is_int.mp i₁; obtain ⟨u, rfl⟩ := is_int.mp i₂
  exact PyProof.Rows.gt_int (Post.here (is_bool.mpr rfl) S h)
theorem eq_i (h : P (.bool (a == b)) σ) : V2 prog w A G fs (compareOp .Eq) (.int a) (.int b) σ P := fun H s v₁ v₂ S i₁ i₂ => by
  obtain ⟨t, rfl⟩ := is_int.mp i₁; obtain ⟨u, rfl⟩ := is_int.mp i₂
  exact PyProof.Rows.eq_int (Post.here (is_bool.mpr rfl) S h)
end

/-- is None: what stands for None alone -/
def isN : D → Bool
  | .none => true
  | .val v => v == .none
  | _ => false
theorem isN_of {h : Heap} {d : D} {v : Value} (i : Is h d v) : (v == .none) = isN d := by
  cases d <;> unfold Is at i
  · subst i; rfl
  · subst i; rfl
  · obtain ⟨t, rfl⟩ := i; rfl
  · obtain ⟨a, _, _, rfl, _⟩ := i; rfl
  · subst i; rfl
  · obtain ⟨a, _, _, _, rfl, _⟩ := i; rfl
  · subst i; rfl
theorem is_N {d : D} (h : P (.bool (isN d)) σ) : V2 prog w A G fs (compareOp .Is) d .none σ P := fun H s v₁ v₂ S i₁ i₂ => by
  rw [is_none.mp i₂]
  exact PySem.is_none (Post.here (is_bool.mpr (by rw [isN_of i₁])) S h)
/- tests -/
theorem ts_value {e : Expr} (h : Ev prog w A G fs env e σ fun d σ₁ => B1 prog w A G fs d σ₁ PB)
    (he : isTrue e env (eval e env) = (do let v ← eval e env; standAt e.pos; holding [v] (truthy v)) := by rfl) : Ts prog w A G fs env e σ PB := fun H s S =>
  wpAny_isTrue_value (wpAny_mono (h H s S) (fun v s₁ ⟨l₁, d₁, σ₁, i₁, S₁, k₁⟩ => wpAny_mono (k₁ H s₁ v S₁ i₁) (fun _ _ p => p.le l₁) fun _ _ x => x) fun _ _ x => x) he
theorem ts_not {e : Expr} {pos : Pos} (h : Ts prog w A G fs env e σ fun b σ₁ => PB (!b) σ₁) : Ts prog w A G fs env (.UnaryOp .Not e pos) σ PB := fun H s S =>
  wpAny_isTrue_Not (wpAny_mono (h H s S) (fun b s₁ p => p) fun _ _ x => x)
/-- and: of tests -/
def Al (prog : Program) (w : World) (A : Around) (G : Gnd) (fs : List Frm) (env : Env) (es : List Expr) (σ : Sto) (PB : Bool → Sto → Prop) : Prop := Wb prog w A G fs σ (allTrue .And es env) PB
theorem ts_and {es : List Expr} {pos : Pos} (h : Al prog w A G fs env es σ PB) : Ts prog w A G fs env (.BoolOp .And es pos) σ PB := fun H s S => wpAny_isTrue_BoolOp (h H s S)
theorem al_nil (h : PB true σ) : Al prog w A G fs env [] σ PB := fun H s S => wpAny_allTrue_And_nil ⟨Le.refl _, σ, S, h⟩
theorem al_cons {e : Expr} {es : List Expr} (h : Ts prog w A G fs env e σ fun b σ₁ => if b = true then Al prog w A G fs env es σ₁ PB else PB false σ₁) : Al prog w A G fs env (e :: es) σ PB := fun H s S => by
  refine wpAny_allTrue_And_cons (wpAny_mono (h H s S) (fun b s₁ ⟨l₁, σ₁, S₁, k₁⟩ => ?_) fun _ _ x => x)
  cases b
  · simp only [Bool.false_eq_true, if_false] at k₁ ⊢
    exact ⟨l₁, σ₁, S₁, k₁⟩
  · simp only [if_true] at k₁ ⊢
    exact wpAny_mono (k₁ H s₁ S₁) (fun _ _ p => p.le l₁) fun _ _ x => x

/- lists of expressions -/
def As (prog : Program) (w : World) (A : Around) (G : Gnd) (fs : List Frm) (env : Env) (pos : Pos) (es : List Expr) (σ : Sto) (P : List D → Sto → Prop) : Prop := Wl prog w A G fs σ (spliced (backTo pos (starEach es env))) P
theorem as_nil {pos : Pos} {PL : List D → Sto → Prop} (h : PL [] σ) : As prog w A G fs env pos [] σ PL := fun H s S => args_nil ⟨Le.refl _, [], σ, IsAll.nil, S, h⟩
theorem as_cons {pos : Pos} {e : Expr} {es : List Expr} {PL : List D → Sto → Prop} (h : Ev prog w A G fs env e σ fun d σ₁ => As prog w A G fs env pos es σ₁ fun ds σ₂ => PL (d :: ds) σ₂)
    (he : starEach (e :: es) env = (false, eval e env) :: starEach es env := by rfl) : As prog w A G fs env pos (e :: es) σ PL := fun H s S =>
  args_cons (wpAny_mono (h H s S) (fun v s₁ ⟨l₁, d₁, σ₁, i₁, S₁, k₁⟩ => wpAny_mono (k₁ H s₁ S₁) (fun vs s₂ ⟨l₂, ds, σ₂, i₂, S₂, k₂⟩ => ⟨l₁.trans l₂, _, σ₂, IsAll.cons (i₁.mono l₂) i₂, S₂, k₂⟩) fun _ _ x => x) fun _ _ x => x) he

theorem get?_push_ne' {h : Heap} {o : Obj} : ∀ b x, h.get? b = some x → (h.push o).get? b = some x := fun _ _ e => Heap.get?_push_of_some _ e

theorem ev_tuple {es : List Expr} {k : Nat} {pos : Pos} (h : As prog w A G fs env pos es σ fun ds σ₁ => ds.length ≤ 1000 ∧ P (.tup ds) σ₁) : Ev prog w A G fs env (.Tuple es k pos) σ P := fun H s S =>
  Tuple_ (wpAny_mono (h H s S) (fun vs s₁ ⟨l₁, ds, σ₁, i₁, S₁, hl, k₁⟩ => by
    have hk := get?_push_ne' (h := s₁.heap) (o := { cls := .type "tuple", data := .seq vs.toArray })
    refine wpAny_newObj_type ⟨l₁.trans (Le.of_keeps hk), .tup ds, σ₁, is_tup.mpr ⟨s₁.heap.objs.size, vs, 0, rfl, Heap.get?_push_size _ rfl, i₁.mono (Le.of_keeps hk)⟩, S₁.grow _ hk, k₁⟩ ?_
    show vs.toArray.size ≤ sizeLine
    rw [List.size_toArray, i₁.length, sizeLine_eq]; omega) fun _ _ x => x)

theorem ev_list {es : List Expr} {pos : Pos} (h : As prog w A G fs env pos es σ fun ds σ₁ => ds.length ≤ 1000 ∧ ∀ a, σ₁ a = none → G.base a = none → P (.lst a) (σ₁.set a ds)) : Ev prog w A G fs env (.List es pos) σ P := fun H s S =>
  List_ (wpAny_mono (h H s S) (fun vs s₁ ⟨l₁, ds, σ₁, i₁, S₁, hl, k₁⟩ => by
    have hk := get?_push_ne' (h := s₁.heap) (o := { cls := .type "list", data := .seq vs.toArray })
    have hf := S₁.fresh (get_none_of_size (Nat.le_refl s₁.heap.objs.size))
    refine wpAny_newObj_type ⟨l₁.trans (Le.of_keeps hk), .lst _, σ₁.set _ ds, is_lst.mpr rfl, S₁.make _ hk (get_none_of_size (Nat.le_refl _)) (Heap.get?_push_size _ rfl) (i₁.mono (Le.of_keeps hk)), k₁ _ hf.1 ?_⟩ ?_
    · cases e : G.base s₁.heap.objs.size with
      | none => rfl
      | some es => obtain ⟨vs, n, g, _⟩ := G.bases _ _ e; rw [hf.2] at g; cases g
    · show vs.toArray.size ≤ sizeLine
      rw [List.size_toArray, i₁.length, sizeLine_eq]; omega) fun _ _ x => x)

/- statements -/
theorem ex_nil (h : PF .next m σ) : Ex prog w A G env fn fs [] m σ PF := fun H s S => wpAny_execs_nil ⟨Le.refl _, .next, m, σ, rfl, S, h⟩
theorem ex_cons {st : Stmt} {rest : List Stmt} (h : Ex1 prog w A G env fn fs st m σ fun fl m₁ σ₁ => match fl with | .next => Ex prog w A G env fn fs rest m₁ σ₁ PF | fl => PF fl m₁ σ₁) :
    Ex prog w A G env fn fs (st :: rest) m σ PF := fun H s S => by
  refine wpAny_execs_cons (wpAny_mono (h H s S) (fun f s₁ ⟨l₁, fl, m₁, σ₁, i₁, S₁, k₁⟩ => ?_) fun _ _ x => x)
  cases fl with
  | next => rw [show f = Flow.next from i₁]; exact wpAny_mono (k₁ H s₁ S₁) (fun _ _ p => p.le l₁) fun _ _ x => x
  | brk => rw [show f = Flow.brk from i₁]; exact ⟨l₁, .brk, m₁, σ₁, rfl, S₁, k₁⟩
  | cont => rw [show f = Flow.cont from i₁]; exact ⟨l₁, .cont, m₁, σ₁, rfl, S₁, k₁⟩
  | ret d => obtain ⟨v, rfl, i⟩ := i₁; exact ⟨l₁, .ret d, m₁, σ₁, ⟨v, rfl, i⟩, S₁, k₁⟩
theorem ex_break {pos : Pos} (h : PF .brk m σ) : Ex1 prog w A G env fn fs (.Break pos) m σ PF := fun H s S => wpAny_Break ⟨Le.refl _, .brk, m, σ, rfl, S, h⟩
theorem ex_continue {pos : Pos} (h : PF .cont m σ) : Ex1 prog w A G env fn fs (.Continue pos) m σ PF := fun H s S => wpAny_Continue ⟨Le.refl _, .cont, m, σ, rfl, S, h⟩
theorem ex_return {e : Expr} {pos : Pos} (h : Ev prog w A G (⟨env, m, fn⟩ :: fs) env e σ fun d σ₁ => PF (.ret d) m σ₁) : Ex1 prog w A G env fn fs (.Return (some e) pos) m σ PF := fun H s S =>
  wpAny_Return_some (wpAny_mono (h H s S) (fun v s₁ ⟨l₁, d, σ₁, i₁, S₁, k₁⟩ => ⟨l₁, .ret d, m, σ₁, ⟨v, rfl, i₁⟩, S₁, k₁⟩) fun _ _ x => x)
theorem ex_if {test : Expr} {body orelse : List Stmt} {pos : Pos} (h : Ts prog w A G (⟨env, m, fn⟩ :: fs) env test σ fun b σ₁ => if b = true then Ex prog w A G env fn fs body m σ₁ PF else Ex prog w A G env fn fs orelse m σ₁ PF) :
    Ex1 prog w A G env fn fs (.If test body orelse pos) m σ PF := fun H s S => by
  refine wpAny_If (wpAny_mono (h H s S) (fun b s₁ ⟨l₁, σ₁, S₁, k₁⟩ => ?_) fun _ _ x => x)
  cases b
  · simp only [Bool.false_eq_true, if_false] at k₁ ⊢
    exact wpAny_mono (k₁ H s₁ S₁) (fun _ _ p => p.le l₁) fun _ _ x => x
  · simp only [if_true] at k₁ ⊢
    exact wpAny_mono (k₁ H s₁ S₁) (fun _ _ p => p.le l₁) fun _ _ x => x

/- stores -/
theorem sn_name {x : String} {d : D} (h : PM (m.put x d) σ) (hl : env.kindOf (Str.ofString x) = some .local ∨ (fn = true ∧ env.kindOf (Str.ofString x) = some .cell ∧ (env.cells.lookup (Str.ofString x)).isSome = true))
    (hk : env.scope.kind = .function) : Sn prog w A G env fn fs (storeName env (Str.ofString x)) d m σ PM := fun H s v S i => by
  rcases hl with hl | ⟨rfl, hl, hc⟩
  · obtain ⟨mv, hmv, k⟩ := S.store x hl i
    exact wpAny_storeName_local hl hmv (fun h' hn hs => ⟨(k h' (s.toks + 1) hn hs).1, _, _, (k h' (s.toks + 1) hn hs).2, h⟩) (by rw [hk]; rfl)
  · obtain ⟨c, hc⟩ := Option.isSome_iff_exists.mp hc
    obtain ⟨v₀, hv₀, k⟩ := S.storeC x hl hc i
    exact wpAny_storeName_cell hk hl hc hv₀ fun h' hn hs => ⟨(k h' s.toks hn hs).1, _, _, (k h' s.toks hn hs).2, h⟩

theorem ex_assign {x : String} {e : Expr} {pos' pos : Pos} (h : Ev prog w A G (⟨env, m, fn⟩ :: fs) env e σ fun d σ₁ => PF .next (m.put x d) σ₁)
    (hl : env.kindOf (Str.ofString x) = some .local ∨ (fn = true ∧ env.kindOf (Str.ofString x) = some .cell ∧ (env.cells.lookup (Str.ofString x)).isSome = true))
    (hk : env.scope.kind = .function := by rfl) (hs : swapsWith e (some (.Name (Str.ofString x) pos')) pos.line env = pure false := by rfl) :
    Ex1 prog w A G env fn fs (.Assign [.Name (Str.ofString x) pos'] e pos) m σ PF := fun H s S =>
  wpAny_Assign_Name (wpAny_mono (h H s S) (fun v s₁ ⟨l₁, d, σ₁, i₁, S₁, k₁⟩ => wpAny_mono (sn_name (PM := fun m' σ' => PF .next m' σ') k₁ hl hk H s₁ v S₁ i₁)
    (fun _ s₂ ⟨l₂, m', σ', S₂, k₂⟩ => ⟨l₁.trans l₂, .next, m', σ', rfl, S₂, k₂⟩) fun _ _ x => x) fun _ _ x => x) hs

/-- what an expression statement drops is no object -/
def isPl : D → Bool
  | .none => true
  | .bool _ => true
  | .int _ => true
  | _ => false
theorem ex_expr {e : Expr} {pos : Pos} (h : Ev prog w A G (⟨env, m, fn⟩ :: fs) env e σ fun d σ₁ => isPl d = true ∧ PF .next m σ₁)
    (hi : interactive env = false := by rfl) (hs : swapsWith e none pos.line env = pure false := by rfl) : Ex1 prog w A G env fn fs (.Expr e pos) m σ PF := fun H s S => by
  refine wpAny_Expr (wpAny_mono (h H s S) (fun v s₁ ⟨l₁, d, σ₁, i₁, S₁, hp, k₁⟩ => ?_) fun _ _ x => x) hi hs
  have q : PostF G H env fn fs s PF .next s₁ := ⟨l₁, .next, m, σ₁, rfl, S₁, k₁⟩
  cases d <;> simp only [isPl, Bool.false_eq_true] at hp <;> unfold Is at i₁
  · subst i₁; exact q
  · subst i₁; exact q
  · obtain ⟨t, rfl⟩ := i₁; exact q
end Hq

-- HqD
open PySem PySem.W PyProof.Rows
set_option Elab.async false
set_option linter.unusedVariables false
namespace Hq
variable {prog : Program} {w : World} {A : Around} {G : Gnd} {fs : List Frm} {env : Env} {m : Loc} {fn : Bool} {σ : Sto} {P : D → Sto → Prop} {PB : Bool → Sto → Prop} {PF : Fl → Loc → Sto → Prop} {PM : Loc → Sto → Prop}
variable {H : Hid} {s : Shared} {E : Value → Shared → Prop}

/- hidden objects: iterators -/
def Hid.put (H : Hid) (a : Addr) (o : Obj) : Hid := fun b => if b = a then some o else H b
theorem St.hide (S : St G H fs σ s) {a : Addr} {o : Obj} (ho : s.heap.get? a = some o) (nf : ¬ frozen o) (hd : (∃ vs, o.data = .fields vs) ∨ ∃ xs n, o.data = .seq xs n) (h0 : G.h₀.get? a = none) (hσ : σ a = none) : St G (H.put a o) fs σ s :=
  ⟨S.keep, S.gens, S.os, S.lists, S.frames, S.apart, fun b x e => by
    unfold Hid.put at e
    by_cases q : b = a
    · subst q; simp only [if_true, Option.some.injEq] at e; subst e; exact ⟨h0, ho, nf, hσ, hd⟩
    · simp only [q, if_false] at e; exact S.hid b x e⟩
theorem St.unhide {a : Addr} {o : Obj} (S : St G (H.put a o) fs σ s) (hH : H a = none) : St G H fs σ s ∧ s.heap.get? a = some o :=
  ⟨⟨S.keep, S.gens, S.os, S.lists, S.frames, S.apart, fun b x e => S.hid b x (by
    unfold Hid.put; rw [if_neg]; exact e
    rintro rfl; rw [hH] at e; cases e)⟩, (S.hid a o (by simp [Hid.put])).2.1⟩
theorem St.skip (S : St G H fs σ s) {a : Addr} {o : Obj} (ho : s.heap.get? a = some o) (nf : ¬ frozen o) {vs} (hd : o.data = .fields vs) (h0 : G.h₀.get? a = none) (hH : H a = none) {h' : Heap} (tk : Nat)
    (k : ∀ b x, b ≠ a → s.heap.get? b = some x → h'.get? b = some x) : Le s.heap h' ∧ St G H fs σ { s with heap := h', toks := tk } := by
  have l : Le s.heap h' := Le.of_but ho nf k
  refine ⟨l, fun b x e => k b x (by rintro rfl; rw [h0] at e; cases e) (S.keep b x e), S.gens, S.os, fun b ds e => ?_, fun f hf => ?_, S.apart, fun b x e => ?_⟩
  · obtain ⟨q, ws, n, g, i⟩ := S.lists b ds e
    exact ⟨q, ws, n, k _ _ (by rintro rfl; rw [ho] at g; cases g; cases hd) g, i.mono l⟩
  · obtain ⟨x, y, z⟩ := S.frames f hf
    refine ⟨x.move (fun o' e => k _ o' ?_ e) (fun p hp o' e => k _ o' ?_ e) l, y, z⟩
    · rintro q
      obtain ⟨⟨mv, ⟨oL, es, ep, hL, hd', _⟩, _⟩, _⟩ := x
      rw [q, ho] at hL; cases hL; rw [hd] at hd'; cases hd'
    · rintro q
      obtain ⟨v, oc, hc, hd'⟩ := x.2 p hp
      rw [q, ho] at hc; cases hc; rw [hd] at hd'; cases hd'
  · obtain ⟨x', y, z⟩ := S.hid b x e
    exact ⟨x', k _ _ (by rintro rfl; rw [hH] at e; cases e) y, z⟩

def rngL (x y : Int) : List D := (List.range (y - x).toNat).map fun (i : Nat) => D.int (x + (i : Int))
def IterOk (h : Heap) (It : Addr) (d : D) (i : Nat) : Prop :=
  ∃ o vs, h.get? It = some o ∧ ¬ frozen o ∧ o.data = .fields vs ∧ match d with
    | .lst a => o.cls = .type "list_iterator" ∧ o.data = .fields #[.ref a, .int i 0]
    | .rng x y => o = { cls := .type "range_iterator", dict := none, data := .fields #[rawInt (x + i * 1), rawInt (((y - x).toNat : Int) - i), rawInt 1], slots := #[] }
    | _ => False
def Src (G : Gnd) (σ : Sto) (ds : List D) : D → Prop
  | .lst a => rd G σ a = some ds
  | .rng x y => ds = rngL x y ∧ -(2 ^ 60) ≤ x ∧ x < 2 ^ 60 ∧ -(2 ^ 60) ≤ y ∧ y < 2 ^ 60
  | _ => False

theorem nf_iter {o : Obj} {T : String} (h : o.cls = .type T) (h1 : T ≠ "tuple") (h2 : T ≠ "range") : ¬ frozen o := by
  rintro (⟨f, _⟩ | ⟨f, _⟩) <;> rw [h] at f <;> injection f with f <;> contradiction

theorem iter_make {d : D} {ds : List D} {v : Value} {Q : Value → Shared → Prop} (S : St G H fs σ s) (i : Is s.heap d v) (hs : Src G σ ds d)
    (h : ∀ It h', (∀ b o, s.heap.get? b = some o → h'.get? b = some o) → s.heap.get? It = none → IterOk h' It d 0 → Q (.ref It) { s with heap := h' }) : wpAny (model prog w) A (pyIter v) Q E s := by
  cases d <;> simp only [Src] at hs
  case lst a =>
    obtain ⟨vs, n, g, _⟩ := S.read hs
    rw [is_lst.mp i]
    refine wpAny_pyIter_list ⟨_, g, rfl, n, rfl⟩ (h _ _ get?_push_ne' (get_none_of_size (Nat.le_refl _)) ⟨_, _, Heap.get?_push_size _ rfl, nf_iter rfl (by decide) (by decide), rfl, rfl, rfl⟩)
  case rng x y =>
    obtain ⟨r, t, u, ww, rfl, g⟩ := is_rng.mp i
    obtain ⟨rfl, h1, h2, h3, h4⟩ := hs
    refine wpAny_pyIter_range g (small_one (by omega) (by omega) (by omega) (by omega)) (h _ _ get?_push_ne' (get_none_of_size (Nat.le_refl _)) ⟨_, _, Heap.get?_push_size _ rfl, nf_iter rfl (by decide) (by decide), rfl, ?_⟩)
    have e : (if x < y then y - x else 0) = (((y - x).toNat : Int) - ((0 : Nat) : Int)) := by split <;> simp <;> omega
    have e2 : x = x + ((0 : Nat) : Int) * 1 := by simp
    show ({ cls := .type "range_iterator", dict := none, data := .fields #[rawInt x, rawInt (Builtin.Range.rangeSize x y 1), rawInt 1], slots := #[] } : Obj) = { cls := .type "range_iterator", dict := none, data := .fields #[rawInt (x + ((0 : Nat) : Int) * 1), rawInt (((y - x).toNat : Int) - ((0 : Nat) : Int)), rawInt 1], slots := #[] }
    rw [rangeSize_one, e, ← e2]

theorem iter_next {d : D} {ds : List D} {x : D} {i : Nat} {It : Addr} {Q : Option Value → Shared → Prop} (hh : A.handled = none) (S : St G H fs σ s) (hs : Src G σ ds d) (ho : IterOk s.heap It d i) (hx : ds[i]? = some x)
    (h : ∀ v h' tk, Is s.heap x v → IterOk h' It d (i + 1) → (∀ b o, b ≠ It → s.heap.get? b = some o → h'.get? b = some o) → Q (some v) { s with heap := h', toks := tk }) : wpAny (model prog w) A (pyNext (.ref It)) Q E s := by
  obtain ⟨o, vs, g, nf, hd, k⟩ := ho
  cases d <;> simp only [Src] at hs
  case lst a =>
    obtain ⟨k1, k2⟩ := k
    obtain ⟨us, n, g', i'⟩ := S.read hs
    obtain ⟨v, hv, iv⟩ := i'.get hx
    refine wpAny_pyNext_list_item ⟨o, g, k1, k2⟩ ⟨_, g', rfl, n, rfl⟩ (x := v) (by simpa using hv) fun h' hit' hs' => ?_
    refine h v h' s.toks iv ?_ fun b o hb e => hs'.extBut b o hb e
    obtain ⟨o', g1, g2, g3⟩ := hit'
    exact ⟨o', _, g1, nf_iter g2 (by decide) (by decide), g3, g2, g3⟩
  case rng x' y =>
    obtain ⟨rfl, h1, h2, h3, h4⟩ := hs
    subst k
    have hlt : i < (y - x').toNat := by
      have := (List.getElem?_eq_some_iff.mp hx).1
      simpa [rngL] using this
    refine (Walks.range hh It x' 1 (y - x').toNat).item i s Q E hlt g fun v h' tk hv hst hk => ?_
    obtain ⟨t, rfl⟩ := hv
    refine h _ h' tk ?_ ⟨_, _, hst, nf_iter rfl (by decide) (by decide), rfl, ?_⟩ fun b o hb e => hk b o (by simpa using hb) e
    · have e : x = .int (x' + i) := by
        simp [rngL, hlt] at hx; exact hx.symm
      rw [e, is_int]; exact ⟨t, by simp⟩
    · rfl

theorem iter_end {d : D} {ds : List D} {It : Addr} {Q : Option Value → Shared → Prop} (hh : A.handled = none) (S : St G H fs σ s) (hs : Src G σ ds d) (ho : IterOk s.heap It d ds.length)
    (h : ∀ h' tk, (∀ b o, b ≠ It → s.heap.get? b = some o → h'.get? b = some o) → Q none { s with heap := h', toks := tk }) : wpAny (model prog w) A (pyNext (.ref It)) Q E s := by
  obtain ⟨o, vs, g, nf, hd, k⟩ := ho
  cases d <;> simp only [Src] at hs
  case lst a =>
    obtain ⟨k1, k2⟩ := k
    obtain ⟨us, n, g', i'⟩ := S.read hs
    exact wpAny_pyNext_list_end hh ⟨o, g, k1, k2⟩ ⟨_, g', rfl, n, rfl⟩ (by simp [i'.length]) fun h' he' => h h' s.toks fun b o hb e => he' b o hb e
  case rng x' y =>
    obtain ⟨rfl, h1, h2, h3, h4⟩ := hs
    subst k
    have hl : (rngL x' y).length = (y - x').toNat := by simp [rngL]
    refine (Walks.range hh It x' 1 (y - x').toNat).done s Q E (hl ▸ g) fun h' tk hk => h h' tk fun b o hb e => hk b o (by simpa using hb) e

/-- letting go of a tuple that an iterator owns: not so for a list's -/
theorem let_go {d : D} {i : Nat} {It : Addr} {v : Value} {target : Expr} {Q : Unit → Shared → Prop} (ho : IterOk s.heap It d i) (hv : (∃ a, d = .lst a) ∨ ∀ u, letOwnedTupleGo target (.ref It) u = pure ())
    (ht : (∃ elts x1 pos, target = .Tuple elts x1 pos ∧ ∃ T, v = .ref T) ∨ ∀ u, letOwnedTupleGo target (.ref It) u = pure ()) (h : Q () s) : wpAny (model prog w) A (letOwnedTupleGo target (.ref It) v) Q E s := by
  rcases ht with ⟨elts, x1, pos, rfl, T, rfl⟩ | ht
  · rcases hv with ⟨a, rfl⟩ | hv
    · obtain ⟨o, vs, g, nf, hd, k1, k2⟩ := ho
      exact wpAny_letOwnedTupleGo_listiter ⟨o, g, k1, k2⟩ h
    · rw [hv]; exact wpAny_pure h
  · rw [ht]; exact wpAny_pure h

theorem noE_elim {α : Type} {M : Model} {t : Sem α} {Q Q' : α → Shared → Prop} {E' : Value → Shared → Prop} (h : wpAny M A t Q NoE s) (k : ∀ a s', Q a s' → Q' a s') : wpAny M A t Q' E' s := wpAny_mono h k fun _ _ x => x.elim

theorem ex_while {test : Expr} {body : List Stmt} {pos : Pos} (I : Nat → Loc → Sto → Prop) (n : Nat) (h0 : I n m σ)
    (turn : ∀ k m σ, I k m σ → Ts prog w A G (⟨env, m, fn⟩ :: fs) env test σ fun b σ₁ => if b = true then Ex prog w A G env fn fs body m σ₁ (fun fl m₂ σ₂ => match fl with
        | .next => ∃ j, j < k ∧ I j m₂ σ₂ | .cont => ∃ j, j < k ∧ I j m₂ σ₂ | .brk => PF .next m₂ σ₂ | .ret d => PF (.ret d) m₂ σ₂) else PF .next m σ₁) :
    Ex1 prog w A G env fn fs (.While test body [] pos) m σ PF := fun H s S => by
  refine wpAny_While (codeAny_whileLoop (fun k s' => Le s.heap s'.heap ∧ ∃ m σ, St G H (⟨env, m, fn⟩ :: fs) σ s' ∧ I k m σ) (fun k s' ⟨l, m', σ', S', hI⟩ => ?_) n ⟨Le.refl _, m, σ, S, h0⟩)
  refine noE_elim (turn k m' σ' hI H s' S') fun b s₂ ⟨l₂, σ₂, S₂, k₂⟩ => ?_
  cases b with
  | false =>
    simp only [Bool.false_eq_true, if_false] at k₂ ⊢
    exact wpAny_execs_nil ⟨l.trans l₂, .next, m', σ₂, rfl, S₂, k₂⟩
  | true =>
    simp only [if_true] at k₂ ⊢
    refine noE_elim (k₂ H s₂ S₂) fun f s₃ ⟨l₃, fl, m₃, σ₃, i₃, S₃, k₃⟩ => ?_
    cases fl with
    | next => obtain ⟨j, hj, hI'⟩ := k₃; rw [show f = Flow.next from i₃]; exact ⟨j, hj, (l.trans l₂).trans l₃, m₃, σ₃, S₃, hI'⟩
    | cont => obtain ⟨j, hj, hI'⟩ := k₃; rw [show f = Flow.cont from i₃]; exact ⟨j, hj, (l.trans l₂).trans l₃, m₃, σ₃, S₃, hI'⟩
    | brk => rw [show f = Flow.brk from i₃]; exact ⟨(l.trans l₂).trans l₃, .next, m₃, σ₃, rfl, S₃, k₃⟩
    | ret d => obtain ⟨v, rfl, i⟩ := i₃; exact ⟨(l.trans l₂).trans l₃, .ret d, m₃, σ₃, ⟨v, rfl, i⟩, S₃, k₃⟩

/-- which targets a loop over d may have -/
def TgtOk (target : Expr) (d : D) : Prop := (∃ x p, target = .Name x p) ∨ ((∃ elts x1 pos, target = .Tuple elts x1 pos) ∧ ∃ a, d = .lst a)

theorem is_ref_of_tup {h : Heap} {ds : List D} {v : Value} (i : Is h (.tup ds) v) : ∃ T, v = .ref T := by obtain ⟨a, _, _, rfl, _⟩ := is_tup.mp i; exact ⟨a, rfl⟩

theorem ex_for {target iter : Expr} {body : List Stmt} {pos : Pos} (hh : A.handled = none)
    (h : Ev prog w A G (⟨env, m, fn⟩ :: fs) env iter σ fun d σ₁ => ∃ (ds : List D) (I : Nat → Loc → Sto → Prop), TgtOk target d ∧ ((∃ elts x1 pos, target = .Tuple elts x1 pos) → ∀ e ∈ ds, ∃ es, e = .tup es) ∧ I 0 m σ₁ ∧ (∀ i m σ, I i m σ → Src G σ ds d) ∧
      (∀ i e m σ, ds[i]? = some e → I i m σ → Sn prog w A G env fn fs (assign target env) e m σ fun m₁ σ₁ => Ex prog w A G env fn fs body m₁ σ₁ fun fl m₂ σ₂ => match fl with
        | .next => I (i + 1) m₂ σ₂ | .cont => I (i + 1) m₂ σ₂ | .brk => PF .next m₂ σ₂ | .ret d => PF (.ret d) m₂ σ₂) ∧
      (∀ m σ, I ds.length m σ → PF .next m σ))
    (hs : ∀ x, foldedSetIterable iter env x = pure x := by intro _; rfl) : Ex1 prog w A G env fn fs (.For target iter body [] pos) m σ PF := fun H s S => by
  refine wpAny_For (wpAny_mono (h H s S) (fun v s₁ ⟨l₁, d, σ₁, i₁, S₁, ds, I, hT, hTs, h0, hsrc, turn, fin⟩ => ?_) fun _ _ x => x) hs
  refine iter_make S₁ i₁ (hsrc 0 m σ₁ h0) fun It h' kp hIt hok => ?_
  have hH : H It = none := by
    cases e : H It with
    | none => rfl
    | some o => have := (S₁.hid It o e).2.1; rw [hIt] at this; cases this
  have hB : G.h₀.get? It = none := (S₁.fresh hIt).2
  have S₂ := S₁.grow (h' := h') s₁.toks kp
  have l₂ : Le s.heap h' := l₁.trans (Le.of_keeps kp)
  refine codeAny_forLoop_any (fun k s' => ∃ i m σ, k = ds.length + 1 - i ∧ i ≤ ds.length ∧ Le s.heap s'.heap ∧ St G H (⟨env, m, fn⟩ :: fs) σ s' ∧ I i m σ ∧ IterOk s'.heap It d i) ?_ (ds.length + 1) ⟨0, m, σ₁, rfl, Nat.zero_le _, l₂, S₂, h0, hok⟩
  rintro k s' ⟨i, m', σ', rfl, hi, l, S', hI, hok'⟩
  by_cases hlt : i < ds.length
  · obtain ⟨e, he⟩ : ∃ e, ds[i]? = some e := ⟨ds[i], by simp [hlt]⟩
    refine iter_next hh S' (hsrc i m' σ' hI) hok' he fun v h₃ tk iv hok₃ kp₃ => ?_
    obtain ⟨o, vs, g, nf, hd, _⟩ := id hok'
    obtain ⟨l₃, S₃⟩ := S'.skip g nf hd hB hH tk kp₃
    have iv₃ : Is h₃ e v := iv.mono l₃
    have go : ∀ {Q : Unit → Shared → Prop} {E'}, Q () { s' with heap := h₃, toks := tk } → wpAny (model prog w) A (letOwnedTupleGo target (.ref It) v) Q E' { s' with heap := h₃, toks := tk } := fun hq => by
      rcases hT with ⟨x, p, rfl⟩ | ⟨hx, a, rfl⟩
      · exact let_go hok₃ (.inr fun _ => rfl) (.inr fun _ => rfl) hq
      · obtain ⟨elts, x1, pos', rfl⟩ := hx
        obtain ⟨es, rfl⟩ := hTs ⟨elts, x1, pos', rfl⟩ e (List.mem_of_getElem? he)
        exact let_go hok₃ (.inl ⟨a, rfl⟩) (.inl ⟨elts, x1, pos', rfl, is_ref_of_tup iv₃⟩) hq
    refine go ?_
    obtain ⟨o₃, vs₃, g₃, nf₃, hd₃, k₃⟩ := id hok₃
    have hσ : σ' It = none := by
      cases z : σ' It with
      | none => rfl
      | some es => obtain ⟨_, us, nn, gg, _⟩ := S'.lists It es z; rw [g] at gg; cases gg; cases hd
    have S₄ := S₃.hide g₃ nf₃ (.inl ⟨_, hd₃⟩) hB hσ
    refine noE_elim (turn i e m' σ' he hI _ _ v S₄ iv₃) fun _ s₅ ⟨l₅, m₅, σ₅, S₅, ex⟩ => ?_
    refine noE_elim (ex _ _ S₅) fun f s₆ ⟨l₆, fl, m₆, σ₆, i₆, S₆, k₆⟩ => ?_
    obtain ⟨S₇, g₇⟩ := S₆.unhide hH
    have lall : Le s.heap s₆.heap := ((l.trans l₃).trans l₅).trans l₆
    have hok₇ : IterOk s₆.heap It d (i + 1) := ⟨o₃, vs₃, g₇, nf₃, hd₃, k₃⟩
    cases fl with
    | next => rw [show f = Flow.next from i₆]; exact ⟨ds.length + 1 - (i + 1), by omega, i + 1, m₆, σ₆, rfl, hlt, lall, S₇, k₆, hok₇⟩
    | cont => rw [show f = Flow.cont from i₆]; exact ⟨ds.length + 1 - (i + 1), by omega, i + 1, m₆, σ₆, rfl, hlt, lall, S₇, k₆, hok₇⟩
    | brk => rw [show f = Flow.brk from i₆]; exact ⟨lall, .next, m₆, σ₆, rfl, S₇, k₆⟩
    | ret d => obtain ⟨v, rfl, i⟩ := i₆; exact ⟨lall, .ret d, m₆, σ₆, ⟨v, rfl, i⟩, S₇, k₆⟩
  · have hi' : i = ds.length := by omega
    subst hi'
    refine iter_end hh S' (hsrc _ m' σ' hI) hok' fun h₃ tk kp₃ => ?_
    obtain ⟨o, vs, g, nf, hd, _⟩ := id hok'
    obtain ⟨l₃, S₃⟩ := S'.skip g nf hd hB hH tk kp₃
    exact wpAny_execs_nil ⟨l.trans l₃, .next, m', σ', rfl, S₃, fin m' σ' hI⟩

/- assigning -/
theorem sn_target {x : String} {d : D} {p : Pos} (h : PM (m.put x d) σ) (hl : env.kindOf (Str.ofString x) = some .local ∨ (fn = true ∧ env.kindOf (Str.ofString x) = some .cell ∧ (env.cells.lookup (Str.ofString x)).isSome = true))
    (hk : env.scope.kind = .function := by rfl) : Sn prog w A G env fn fs (assign (.Name (Str.ofString x) p) env) d m σ PM := fun H s v S i => wpAny_assign_Name (sn_name h hl hk H s v S i)
end Hq

-- HqE
open PySem PySem.W PyProof.Rows
set_option Elab.async false
set_option linter.unusedVariables false
namespace Hq
variable {prog : Program} {w : World} {A : Around} {G : Gnd} {fs : List Frm} {env : Env} {m : Loc} {fn : Bool} {σ : Sto} {P : D → Sto → Prop} {PB : Bool → Sto → Prop} {PF : Fl → Loc → Sto → Prop} {PM : Loc → Sto → Prop}
variable {H : Hid} {s : Shared} {E : Value → Shared → Prop}

def Callable (G : Gnd) (v : Value) : Prop := (∃ id, v = .builtin id) ∨ (∃ T, v = .type T) ∨ ∃ a o fd, v = .ref a ∧ G.h₀.get? a = some o ∧ o.data = .func fd

theorem cw_any {v : Value} {pos : Pos} {e : Expr} {es : List Expr} (hc : Callable G v) (h : As prog w A G fs env pos (e :: es) σ fun ds σ₁ => Cl prog w A G fs v ds σ₁ P)
    (he : starEach (e :: es) env = (false, eval e env) :: starEach es env) (hplain : (backTo pos (starEach es env)).any (·.1) = false) (S : St G H fs σ s) :
    wpAny (model prog w) A (callWith pos v [] (backTo pos (starEach (e :: es) env)) []) (Post G H fs s P) NoE s := by
  have h1 : wpAny (model prog w) A (spliced (backTo pos (starEach (e :: es) env))) (fun vs s₁ => (∀ b o, G.h₀.get? b = some o → s₁.heap.get? b = some o) ∧ wpAny (model prog w) A (call v vs) (Post G H fs s P) NoE s₁) NoE s :=
    wpAny_mono (h H s S) (fun vs s₁ ⟨l₁, ds, σ₁, i₁, S₁, k₁⟩ => ⟨S₁.keep, wpAny_mono (k₁ H s₁ vs S₁ i₁) (fun _ _ p => p.le l₁) fun _ _ x => x⟩) fun _ _ x => x
  rw [he] at h1 ⊢
  have hp : (backTo pos ((false, eval e env) :: starEach es env)).any (·.1) = false := by show (false || (backTo pos (starEach es env)).any (·.1)) = false; rw [hplain]; rfl
  rcases hc with ⟨id, rfl⟩ | ⟨T, rfl⟩ | ⟨a, o, fd, rfl, ho, hd⟩
  · exact Calls.callWith_builtin hp (Calls.evalArgs_plain (wpAny_mono h1 (fun vs s₁ x => x.2) fun _ _ x => x))
  · exact PyProof.Rows.callWith_type hp (Calls.evalArgs_plain (wpAny_mono h1 (fun vs s₁ x => x.2) fun _ _ x => x))
  · exact Calls.callWith_function (Calls.evalArgs_plain (wpAny_mono h1 (fun vs s₁ x => ⟨⟨x.1 _ _ ho, hd⟩, x.2⟩) fun _ _ x => x))

theorem ev_call {x : Str} {p pos : Pos} {e : Expr} {es : List Expr} (h : Ev prog w A G fs env (.Name x p) σ fun d σ₁ => ∃ v, d = .val v ∧ Callable G v ∧ As prog w A G fs env pos (e :: es) σ₁ fun ds σ₂ => Cl prog w A G fs v ds σ₂ P)
    (he : starEach (e :: es) env = (false, eval e env) :: starEach es env := by rfl) (hplain : (backTo pos (starEach es env)).any (·.1) = false := by rfl) :
    Ev prog w A G fs env (.Call (.Name x p) (e :: es) [] pos) σ P := fun H s S =>
  Call_Name rfl (wpAny_mono (h H s S) (fun v s₁ ⟨l₁, d, σ₁, i₁, S₁, u, hd, hc, k₁⟩ => by
    subst hd
    rw [is_val.mp i₁]
    exact wpAny_mono (cw_any hc k₁ he hplain S₁) (fun _ _ p => p.le l₁) fun _ _ x => x) fun _ _ x => x)

/- methods of a list -/
theorem ev_method1 {o e : Expr} {es : List Expr} {name : Str} {id : String} {apos pos : Pos} (slot : Slot "list" name id) (hty : typeOf (.builtin id) = pure (.type "method_descriptor"))
    (h : Ev prog w A G fs env o σ fun d σ₁ => ∃ a, d = .lst a ∧ (∃ ds, rd G σ₁ a = some ds) ∧ As prog w A G fs env pos (e :: es) σ₁ fun ds σ₂ => Cl prog w A G fs (.builtin id) (.lst a :: ds) σ₂ P)
    (hbase : attributeBase o name env (eval o env) = eval o env := by rfl)
    (hfew : ((backTo pos (starEach (e :: es) env)).all (fun x => !x.1) && (backToKw pos (keywordEach [] env)).all (fun x => x.1.isSome) && decide ((e :: es).length + ([] : List Keyword).length + (if ([] : List Keyword).isEmpty then 0 else 1) < 30)) = true := by rfl)
    (hline : (apos.endLine == pos.line) = true := by rfl) (he : starEach (e :: es) env = (false, eval e env) :: starEach es env := by rfl) (hplain : (backTo pos (starEach es env)).any (·.1) = false := by rfl) :
    Ev prog w A G fs env (.Call (.Attribute o name apos) (e :: es) [] pos) σ P := fun H s S => by
  refine wpAny_Call_method hbase hfew hline F.plainAttrs_list slot hty (wpAny_mono (h H s S) (fun v s₁ ⟨l₁, d, σ₁, i₁, S₁, a, hd, ⟨ds, hr⟩, k₁⟩ => ?_) fun _ _ x => x)
  subst hd
  rw [is_lst.mp i₁]
  obtain ⟨vs, n, g, _⟩ := S₁.read hr
  refine ⟨⟨_, g, rfl⟩, fun b e => by cases e; exact ⟨_, g, rfl⟩, ?_⟩
  have h1 : wpAny (model prog w) A (spliced (backTo pos (starEach (e :: es) env))) (fun vs s₂ => wpAny (model prog w) A (call (.builtin id) (.ref a :: vs)) (Post G H fs s P) NoE s₂) NoE s₁ :=
    wpAny_mono (k₁ H s₁ S₁) (fun vs s₂ ⟨l₂, ds, σ₂, i₂, S₂, k₂⟩ => wpAny_mono (k₂ H s₂ _ S₂ (IsAll.cons (is_lst.mpr rfl) i₂)) (fun _ _ p => p.le (l₁.trans l₂)) fun _ _ x => x) fun _ _ x => x
  rw [he] at h1 ⊢
  have hp : (backTo pos ((false, eval e env) :: starEach es env)).any (·.1) = false := by show (false || (backTo pos (starEach es env)).any (·.1)) = false; rw [hplain]; rfl
  exact Calls.callWith_builtin hp (Calls.evalArgs_plain h1)
theorem ev_method0 {o : Expr} {name : Str} {id : String} {apos pos : Pos} (slot : Slot "list" name id) (hty : typeOf (.builtin id) = pure (.type "method_descriptor"))
    (h : Ev prog w A G fs env o σ fun d σ₁ => ∃ a, d = .lst a ∧ (∃ ds, rd G σ₁ a = some ds) ∧ Cl prog w A G fs (.builtin id) [.lst a] σ₁ P)
    (hbase : attributeBase o name env (eval o env) = eval o env := by rfl) (hline : (apos.endLine == pos.line) = true := by rfl) :
    Ev prog w A G fs env (.Call (.Attribute o name apos) [] [] pos) σ P := fun H s S => by
  refine wpAny_Call_method hbase rfl hline F.plainAttrs_list slot hty (wpAny_mono (h H s S) (fun v s₁ ⟨l₁, d, σ₁, i₁, S₁, a, hd, ⟨ds, hr⟩, k₁⟩ => ?_) fun _ _ x => x)
  subst hd
  rw [is_lst.mp i₁]
  obtain ⟨vs, n, g, _⟩ := S₁.read hr
  refine ⟨⟨_, g, rfl⟩, fun b e => by cases e; exact ⟨_, g, rfl⟩, ?_⟩
  exact Calls.callWith_builtin rfl (evalArgs_nil3 (wpAny_mono (k₁ H s₁ _ S₁ (IsAll.cons (is_lst.mpr rfl) IsAll.nil)) (fun _ _ p => p.le l₁) fun _ _ x => x))

/- the list's own methods -/
theorem isAll_one {h : Heap} {d : D} {vs : List Value} (x : IsAll h [d] vs) : ∃ v, vs = [v] ∧ Is h d v := by
  obtain ⟨v, r, rfl, i, j⟩ := isAll_cons.mp x; rw [isAll_nil.mp j]; exact ⟨v, rfl, i⟩
theorem isAll_two {h : Heap} {d e : D} {vs : List Value} (x : IsAll h [d, e] vs) : ∃ v u, vs = [v, u] ∧ Is h d v ∧ Is h e u := by
  obtain ⟨v, r, rfl, i, j⟩ := isAll_cons.mp x; obtain ⟨u, rfl, k⟩ := isAll_one j; exact ⟨v, u, rfl, i, k⟩
theorem isAll_three {h : Heap} {d e f : D} {vs : List Value} (x : IsAll h [d, e, f] vs) : ∃ v u t, vs = [v, u, t] ∧ Is h d v ∧ Is h e u ∧ Is h f t := by
  obtain ⟨v, r, rfl, i, j⟩ := isAll_cons.mp x; obtain ⟨u, t, rfl, k⟩ := isAll_two j; exact ⟨v, u, t, rfl, i, k⟩

theorem update_lst {h : Heap} {a : Addr} {vs vs' : List Value} {n : Nat} (g : h.get? a = some (lstO vs n)) (f : Array Value → Array Value) (e : f vs.toArray = vs'.toArray) : ∃ n', (h.update a (Obj.mapSeq f)).get? a = some (lstO vs' n') :=
  ⟨_, by rw [Heap.get?_update_self _ g rfl]; show some ({ cls := .type "list", dict := none, data := .seq (f vs.toArray) _, slots := #[] } : Obj) = _; rw [e]⟩
theorem update_but {h : Heap} {a : Addr} {f : Obj → Obj} : ∀ b o, b ≠ a → h.get? b = some o → (h.update a f).get? b = some o := fun b o hb e => by rw [Heap.get?_update_other _ _ (Ne.symm hb)]; exact e

theorem cl_append {a : Addr} {d : D} {ds : List D} (ha : σ a = some ds) (hl : ds.length ≤ 1000) (h : P .none (σ.set a (ds ++ [d]))) : Cl prog w A G fs (.builtin "list.append") [.lst a, d] σ P := fun H s vs S I => by
  obtain ⟨v, u, rfl, i, j⟩ := isAll_two I
  rw [is_lst.mp i]
  obtain ⟨_, ws, n, g, k⟩ := S.lists a ds ha
  obtain ⟨n', g'⟩ := update_lst (vs' := ws ++ [u]) g (fun xs => xs.push u) (by simp)
  obtain ⟨l, S'⟩ := S.write ha s.toks update_but g' (k.append (IsAll.cons j IsAll.nil))
  refine call_meets F.slot_list_append ⟨_, g, rfl⟩ F.entry_list_append (F.args_list_append_2 _ _) (list_append a ws.toArray n u ?_) ⟨g, l, .none, _, is_none.mpr rfl, S', h⟩
  rw [List.size_toArray, k.length, sizeLine_eq]; omega

theorem cl_insert {a : Addr} {d : D} {ds : List D} {i : Int} (ha : σ a = some ds) (hl : ds.length ≤ 1000) (h0 : 0 ≤ i) (h1 : i ≤ ds.length) (h : P .none (σ.set a (ds.take i.toNat ++ d :: ds.drop i.toNat))) :
    Cl prog w A G fs (.builtin "list.insert") [.lst a, .int i, d] σ P := fun H s vs S I => by
  obtain ⟨v, u, t, rfl, x, y, z⟩ := isAll_three I
  rw [is_lst.mp x]
  obtain ⟨tk, rfl⟩ := is_int.mp y
  obtain ⟨_, ws, n, g, k⟩ := S.lists a ds ha
  have hlen := k.length
  have hki : (if i < 0 then (i + ((ws.toArray.size : Nat) : Int)).toNat else min i.toNat ws.toArray.size) = i.toNat := by
    rw [if_neg (by omega), List.size_toArray, hlen]; omega
  obtain ⟨n', g'⟩ := update_lst (vs' := ws.take i.toNat ++ t :: ws.drop i.toNat) g (fun xs => have k := if i < 0 then (i + ((xs.size : Nat) : Int)).toNat else min i.toNat xs.size; (xs.extract 0 k).push t ++ xs.extract k) (by
    show (ws.toArray.extract 0 (if i < 0 then (i + ((ws.toArray.size : Nat) : Int)).toNat else min i.toNat ws.toArray.size)).push t ++ ws.toArray.extract (if i < 0 then (i + ((ws.toArray.size : Nat) : Int)).toNat else min i.toNat ws.toArray.size) = _
    rw [hki]
    apply Array.toList_inj.mp
    simp
    exact List.take_of_length_le (by simp))
  obtain ⟨l, S'⟩ := S.write ha s.toks update_but g' ((k.take i.toNat).append (IsAll.cons z (k.drop i.toNat)))
  refine call_meets F.slot_list_insert ⟨_, g, rfl⟩ F.entry_list_insert (F.args_list_insert_3 _ _ _) (AutoListH.list_insert_list_int_val_1 a ws.toArray n i tk t ?_ ?_) ⟨g, l, .none, _, is_none.mpr rfl, S', h⟩
  · rw [fitsIndex_of h0 (by omega)]; simp
  · rw [List.size_toArray, hlen, sizeLine_eq]; omega

theorem cl_pop {a : Addr} {d : D} {ds : List D} (ha : σ a = some (ds ++ [d])) (hl : ds.length ≤ 1000) (h : P d (σ.set a ds)) : Cl prog w A G fs (.builtin "list.pop") [.lst a] σ P := fun H s vs S I => by
  obtain ⟨v, rfl, i⟩ := isAll_one I
  rw [is_lst.mp i]
  obtain ⟨_, ws, n, g, k⟩ := S.lists a _ ha
  have hlen := k.length
  simp at hlen
  obtain ⟨u, hu, ju⟩ := k.get (i := ds.length) (d := d) (by simp)
  obtain ⟨n', g'⟩ := update_lst (vs' := ws.take ds.length) g (fun xs => xs.eraseIdxIfInBounds (ws.toArray.size - 1)) (by
    apply Array.toList_inj.mp
    simp [Array.eraseIdxIfInBounds, hlen, List.eraseIdx_eq_take_drop_succ])
  have kt := k.take ds.length
  rw [List.take_left'  rfl] at kt
  obtain ⟨l, S'⟩ := S.write ha s.toks update_but g' kt
  refine call_meets F.slot_list_pop ⟨_, g, rfl⟩ F.entry_list_pop (F.args_list_pop_1 _) (MeetsSeq.list_pop_last a ws.toArray n u (by simpa [hlen] using hu) ?_) ⟨g, l, d, _, ju.mono l, S', h⟩
  rw [List.size_toArray, hlen, sizeLine_eq]; omega

theorem cl_popAt {a : Addr} {d : D} {ds : List D} {i : Int} (ha : σ a = some ds) (hl : ds.length ≤ 1000) (h0 : 0 ≤ i) (hd : ds[i.toNat]? = some d) (h : P d (σ.set a (ds.eraseIdx i.toNat))) :
    Cl prog w A G fs (.builtin "list.pop") [.lst a, .int i] σ P := fun H s vs S I => by
  obtain ⟨v, u, rfl, x, y⟩ := isAll_two I
  rw [is_lst.mp x]
  obtain ⟨tk, rfl⟩ := is_int.mp y
  obtain ⟨_, ws, n, g, k⟩ := S.lists a _ ha
  have hlen := k.length
  have hi : i.toNat < ds.length := (List.getElem?_eq_some_iff.mp hd).1
  obtain ⟨u, hu, ju⟩ := k.get hd
  obtain ⟨n', g'⟩ := update_lst (vs' := ws.eraseIdx i.toNat) g (fun xs => xs.eraseIdxIfInBounds i.toNat) (by
    apply Array.toList_inj.mp
    simp [Array.eraseIdxIfInBounds, hlen, hi])
  have ke : IsAll s.heap (ds.eraseIdx i.toNat) (ws.eraseIdx i.toNat) := by
    rw [List.eraseIdx_eq_take_drop_succ, List.eraseIdx_eq_take_drop_succ]
    exact (k.take _).append (k.drop _)
  obtain ⟨l, S'⟩ := S.write ha s.toks update_but g' ke
  refine call_meets F.slot_list_pop ⟨_, g, rfl⟩ F.entry_list_pop (F.args_list_pop_2 _ _) (MeetsSeq.list_pop_at a ws.toArray n i tk i.toNat u (fitsIndex_of h0 (by omega)) (seqIndex_of h0 (by simp [hlen]; omega)) (by simpa using hu) ?_) ⟨g, l, d, _, ju.mono l, S', h⟩
  rw [List.size_toArray, hlen, sizeLine_eq]; omega

/- len, range -/
theorem cl_len {a : Addr} {ds : List D} (ha : rd G σ a = some ds) (hl : ds.length ≤ 1000) (h : P (.int ds.length) σ) : Cl prog w A G fs (.builtin "len") [.lst a] σ P := fun H s vs S I => by
  obtain ⟨v, rfl, i⟩ := isAll_one I
  rw [is_lst.mp i]
  obtain ⟨ws, n, g, k⟩ := S.read ha
  refine Calls.call_len_list ⟨_, g, rfl, n, rfl⟩ (by rw [List.size_toArray, k.length]; omega) ⟨Le.refl _, _, _, is_int.mpr ⟨_, rfl⟩, S.tok _, ?_⟩
  rw [List.size_toArray, k.length]; exact h
theorem cl_range1 {b : Int} (h : P (.rng 0 b) σ) : Cl prog w A G fs (.type "range") [.int b] σ P := fun H s vs S I => by
  obtain ⟨v, rfl, i⟩ := isAll_one I
  obtain ⟨t, rfl⟩ := is_int.mp i
  exact call_range_1 ⟨Le.of_keeps get?_push_ne', .rng 0 b, σ, is_rng.mpr ⟨_, _, _, _, rfl, IsRange.new ..⟩, S.grow _ get?_push_ne', h⟩
theorem cl_range2 {a b : Int} (h : P (.rng a b) σ) : Cl prog w A G fs (.type "range") [.int a, .int b] σ P := fun H s vs S I => by
  obtain ⟨v, u, rfl, i, j⟩ := isAll_two I
  obtain ⟨t, rfl⟩ := is_int.mp i
  obtain ⟨t', rfl⟩ := is_int.mp j
  exact call_range_2 ⟨Le.of_keeps get?_push_ne', .rng a b, σ, is_rng.mpr ⟨_, _, _, _, rfl, IsRange.new ..⟩, S.grow _ get?_push_ne', h⟩
theorem b1_list {a : Addr} {ds : List D} (ha : rd G σ a = some ds) (hl : ds.length ≤ 1000) (h : PB (!ds.isEmpty) σ) : B1 prog w A G fs (.lst a) σ PB := fun H s v S i => by
  rw [is_lst.mp i]
  obtain ⟨ws, n, g, k⟩ := S.read ha
  refine wpAny_truthy_list ⟨_, g, rfl, n, rfl⟩ (by rw [List.size_toArray, k.length]; omega) ⟨Le.refl _, _, S.tok _, ?_⟩
  have e : ws.toArray.isEmpty = ds.isEmpty := by
    have := k.length
    cases ws <;> cases ds <;> simp_all
  rw [e]; exact h

/- items -/
theorem ev_sub {value slice : Expr} {pos : Pos} (h : Ev prog w A G fs env value σ fun d₁ σ₁ => Ev prog w A G fs env slice σ₁ fun d₂ σ₂ => V2 prog w A G fs (subscriptTail value slice) d₁ d₂ σ₂ P) :
    Ev prog w A G fs env (.Subscript value slice pos) σ P := fun H s S =>
  Subscript_ (wpAny_mono (h H s S) (fun v₁ s₁ ⟨l₁, d₁, σ₁, i₁, S₁, k₁⟩ => wpAny_mono (k₁ H s₁ S₁) (fun v₂ s₂ ⟨l₂, d₂, σ₂, i₂, S₂, k₂⟩ =>
    wpAny_mono (k₂ H s₂ v₁ v₂ S₂ (i₁.mono l₂) i₂) (fun _ _ p => p.le (l₁.trans l₂)) fun _ _ x => x) fun _ _ x => x) fun _ _ x => x)
theorem su_item {value slice : Expr} {a : Addr} {ds : List D} {k : Int} {d : D} (ha : rd G σ a = some ds) (h0 : 0 ≤ k) (h1 : k < 2 ^ 62) (hd : ds[k.toNat]? = some d) (h : P d σ)
    (hs : ∀ u : Tok, subscripted slice false (.ref a) (.int k u) = operate [.ref a, .int k u] (getItem (.ref a) (.int k u)) := by intro u; with_unfolding_all rfl) :
    V2 prog w A G fs (subscriptTail value slice) (.lst a) (.int k) σ P := fun H s v₁ v₂ S i₁ i₂ => by
  rw [is_lst.mp i₁]
  obtain ⟨t, rfl⟩ := is_int.mp i₂
  obtain ⟨ws, n, g, q⟩ := S.read ha
  obtain ⟨v, hv, iv⟩ := q.get hd
  have hL : s.heap.IsList a ws.toArray := ⟨_, g, rfl, n, rfl⟩
  exact tail_any hL.typeIs slot_list_getitem.lookup (wpAny_getItem_list hL h0 (by omega) (by simpa using hv) (Post.here iv S h)) (hs t)
theorem su_last {value slice : Expr} {a : Addr} {ds : List D} {d : D} (ha : rd G σ a = some (ds ++ [d])) (h : P d σ)
    (hs : ∀ u : Tok, subscripted slice false (.ref a) (.int (-1) u) = operate [.ref a, .int (-1) u] (getItem (.ref a) (.int (-1) u)) := by intro u; with_unfolding_all rfl) :
    V2 prog w A G fs (subscriptTail value slice) (.lst a) (.int (-1)) σ P := fun H s v₁ v₂ S i₁ i₂ => by
  rw [is_lst.mp i₁]
  obtain ⟨t, rfl⟩ := is_int.mp i₂
  obtain ⟨ws, n, g, q⟩ := S.read ha
  have hlen := q.length
  simp at hlen
  obtain ⟨v, hv, iv⟩ := q.get (i := ds.length) (d := d) (by simp)
  have hL : s.heap.IsList a ws.toArray := ⟨_, g, rfl, n, rfl⟩
  refine tail_any hL.typeIs slot_list_getitem.lookup (wpAny_getItem_list_neg hL (by omega) (by simp [hlen]; omega) (by omega) ?_ (Post.here iv S h)) (hs t)
  have : (-1 + (ws.toArray.size : Int)).toNat = ds.length := by simp [hlen]; omega
  rw [this]; simpa using hv

/-- heap[i] = v -/
theorem ex_setitem {o i value : Expr} {pos' pos : Pos} (h : Ev prog w A G (⟨env, m, fn⟩ :: fs) env value σ fun d σ₁ => Ev prog w A G (⟨env, m, fn⟩ :: fs) env o σ₁ fun d₂ σ₂ => Ev prog w A G (⟨env, m, fn⟩ :: fs) env i σ₂ fun d₃ σ₃ =>
      ∃ a ds k, d₂ = .lst a ∧ d₃ = .int k ∧ σ₃ a = some ds ∧ ds.length ≤ 1000 ∧ 0 ≤ k ∧ k < ds.length ∧ PF .next m (σ₃.set a (ds.set k.toNat d)))
    (hs : swapsWith value (some (.Subscript o i pos')) pos.line env = pure false := by rfl) : Ex1 prog w A G env fn fs (.Assign [.Subscript o i pos'] value pos) m σ PF := fun H s S => by
  refine wpAny_Assign_Subscript (wpAny_mono (h H s S) (fun v s₁ ⟨l₁, d, σ₁, i₁, S₁, k₁⟩ => wpAny_mono (k₁ H s₁ S₁) (fun v₂ s₂ ⟨l₂, d₂, σ₂, i₂, S₂, k₂⟩ => wpAny_mono (k₂ H s₂ S₂) (fun v₃ s₃ ⟨l₃, d₃, σ₃, i₃, S₃, k₃⟩ => ?_) fun _ _ x => x) fun _ _ x => x) fun _ _ x => x) hs
  obtain ⟨a, ds, k, rfl, rfl, ha, hl, h0, h1, hP⟩ := k₃
  rw [is_lst.mp i₂]
  obtain ⟨t, rfl⟩ := is_int.mp i₃
  obtain ⟨_, ws, n, g, q⟩ := S₃.lists a ds ha
  have hlen := q.length
  obtain ⟨n', g'⟩ := update_lst (vs' := ws.set k.toNat v) g (fun xs => xs.setIfInBounds k.toNat v) (by
    apply Array.toList_inj.mp
    simp)
  obtain ⟨l, S'⟩ := S₃.write ha s₃.toks update_but g' (q.set (i := k.toNat) (i₁.mono (l₂.trans l₃)))
  exact ki_setAt (items := ws.toArray) g h0 (by omega) (by rw [List.size_toArray, hlen]; exact h1) ⟨(l₁.trans (l₂.trans l₃)).trans l, .next, m, _, rfl, S', hP⟩
end Hq

-- HqF
open PySem PySem.W PyProof.Rows
set_option Elab.async false
set_option linter.unusedVariables false
namespace Hq
variable {prog : Program} {w : World} {A : Around} {G : Gnd} {fs : List Frm} {env : Env} {m : Loc} {fn : Bool} {σ : Sto} {P : D → Sto → Prop} {PB : Bool → Sto → Prop} {PF : Fl → Loc → Sto → Prop} {PM : Loc → Sto → Prop}
variable {H : Hid} {s : Shared} {E : Value → Shared → Prop}

theorem base_none (S : St G H fs σ s) {a : Addr} (ha : s.heap.get? a = none) : G.base a = none := by
  cases e : G.base a with
  | none => rfl
  | some es => obtain ⟨vs, n, g, _⟩ := G.bases _ _ e; rw [(S.fresh ha).2] at g; cases g

/- slices -/
theorem pick_upto (ws : List Value) (k : Int) (h0 : 0 ≤ k) : slicePick ws.toArray none (some k) none = (ws.take k.toNat).toArray := by
  obtain ⟨n, rfl⟩ := Int.eq_ofNat_of_zero_le h0
  by_cases h : n ≤ ws.length
  · simpa using slicePick_upto ws.toArray n (by simpa using h)
  · have e : sliceBounds none (some (n : Int)) none ws.toArray.size = (((0 : Nat) : Int), (ws.toArray.size : Int), 1) := by
      simp only [sliceBounds, Option.getD_none]
      have h2 : ¬ ((n : Int) < 0) := by omega
      simp only [h2, if_false, show (1 : Int) > 0 by decide, if_true]
      congr 1
      congr 1
      simp; omega
    unfold slicePick
    rw [e]
    simp only [sliceRange_one, pick_run]
    simp
    rw [List.take_of_length_le (by omega)]

theorem ev_slice_upto {value upper : Expr} {p pos : Pos} (h : Ev prog w A G fs env value σ fun d₁ σ₁ => Ev prog w A G fs env upper σ₁ fun d₂ σ₂ => ∃ a ds k, d₁ = .lst a ∧ d₂ = .int k ∧ rd G σ₂ a = some ds ∧ ds.length ≤ 1000 ∧ 0 ≤ k ∧
      ∀ b, σ₂ b = none → G.base b = none → P (.lst b) (σ₂.set b (ds.take k.toNat)))
    (ht : ∀ o r, letTemporaryGo value o r = pure () := by intro _ _; rfl) : Ev prog w A G fs env (.Subscript value (.Slice none (some upper) none p) pos) σ P := fun H s S => by
  refine wpAny_Subscript_list_slice (wpAny_mono (h H s S) (fun v₁ s₁ ⟨l₁, d₁, σ₁, i₁, S₁, k₁⟩ => wpAny_evalPart_none (wpAny_evalPart_some (wpAny_mono (k₁ H s₁ S₁) (fun v₂ s₂ ⟨l₂, d₂, σ₂, i₂, S₂, k₂⟩ => ?_) fun _ _ x => x))) fun _ _ x => x) ht
  obtain ⟨a, ds, k, rfl, rfl, hr, hl, h0, hP⟩ := k₂
  obtain ⟨t, rfl⟩ := is_int.mp i₂
  obtain ⟨ws, n, g, q⟩ := S₂.read hr
  refine ⟨a, ws.toArray, none, some k, is_lst.mp i₁, ⟨_, g, rfl, n, rfl⟩, by rw [List.size_toArray, q.length, sizeLine_eq]; omega, .none, .int _ _, ?_⟩
  rw [pick_upto ws k h0]
  have hk : ∀ b o, s₂.heap.get? b = some o → ((s₂.heap.push { cls := .type "slice", data := .fields #[.none, .int k t, .none] }).push { cls := .type "list", data := .seq (ws.take k.toNat).toArray }).get? b = some o :=
    fun b o e => get?_push_ne' b o (get?_push_ne' b o e)
  have hn : s₂.heap.get? (s₂.heap.objs.size + 1) = none := get_none_of_size (Nat.le_succ _)
  have hg : ((s₂.heap.push { cls := .type "slice", data := .fields #[.none, .int k t, .none] }).push { cls := .type "list", data := .seq (ws.take k.toNat).toArray }).get? (s₂.heap.objs.size + 1) = some (lstO (ws.take k.toNat) 0) := by
    rw [← Heap.size_push s₂.heap { cls := .type "slice", data := .fields #[.none, .int k t, .none] }]; exact Heap.get?_push_size _ rfl
  exact ⟨(l₁.trans l₂).trans (Le.of_keeps hk), .lst _, _, is_lst.mpr rfl, S₂.make s₂.toks hk hn hg ((q.take _).mono (Le.of_keeps hk)), hP _ (S₂.fresh hn).1 (base_none S₂ hn)⟩

theorem ev_slice_run {value lower upper : Expr} {p pos : Pos} (h : Ev prog w A G fs env value σ fun d₁ σ₁ => Ev prog w A G fs env lower σ₁ fun d₀ σ₀ => Ev prog w A G fs env upper σ₀ fun d₂ σ₂ => ∃ a ds i k, d₁ = .lst a ∧ d₀ = .int i ∧ d₂ = .int k ∧ rd G σ₂ a = some ds ∧ ds.length ≤ 1000 ∧
      0 ≤ i ∧ i ≤ k ∧ k ≤ ds.length ∧ ∀ b, σ₂ b = none → G.base b = none → P (.lst b) (σ₂.set b ((ds.drop i.toNat).take (k - i).toNat)))
    (ht : ∀ o r, letTemporaryGo value o r = pure () := by intro _ _; rfl) : Ev prog w A G fs env (.Subscript value (.Slice (some lower) (some upper) none p) pos) σ P := fun H s S => by
  refine wpAny_Subscript_list_slice (wpAny_mono (h H s S) (fun v₁ s₁ ⟨l₁, d₁, σ₁, i₁, S₁, k₁⟩ => wpAny_evalPart_some (wpAny_mono (k₁ H s₁ S₁) (fun v₀ s₀ ⟨l₀, d₀, σ₀, i₀, S₀, k₀⟩ =>
    wpAny_evalPart_some (wpAny_mono (k₀ H s₀ S₀) (fun v₂ s₂ ⟨l₂, d₂, σ₂, i₂, S₂, k₂⟩ => ?_) fun _ _ x => x)) fun _ _ x => x)) fun _ _ x => x) ht
  obtain ⟨a, ds, i, k, rfl, rfl, rfl, hr, hl, h0, h1, h2, hP⟩ := k₂
  obtain ⟨t, rfl⟩ := is_int.mp i₂
  obtain ⟨u, rfl⟩ := is_int.mp i₀
  obtain ⟨ws, n, g, q⟩ := S₂.read hr
  have hlen := q.length
  refine ⟨a, ws.toArray, some i, some k, is_lst.mp i₁, ⟨_, g, rfl, n, rfl⟩, by rw [List.size_toArray, q.length, sizeLine_eq]; omega, .int _ _, .int _ _, ?_⟩
  have hp : slicePick ws.toArray (some i) (some k) none = ((ws.drop i.toNat).take (k - i).toNat).toArray := by
    obtain ⟨i, rfl⟩ := Int.eq_ofNat_of_zero_le h0
    obtain ⟨k, rfl⟩ := Int.eq_ofNat_of_zero_le (Int.le_trans h0 h1)
    rw [slicePick_run ws.toArray i k (by simp; omega) (by omega)]
    congr 2
    omega
  rw [hp]
  have hk : ∀ b o, s₂.heap.get? b = some o → ((s₂.heap.push { cls := .type "slice", data := .fields #[.int i u, .int k t, .none] }).push { cls := .type "list", data := .seq ((ws.drop i.toNat).take (k - i).toNat).toArray }).get? b = some o :=
    fun b o e => get?_push_ne' b o (get?_push_ne' b o e)
  have hn : s₂.heap.get? (s₂.heap.objs.size + 1) = none := get_none_of_size (Nat.le_succ _)
  have hg : ((s₂.heap.push { cls := .type "slice", data := .fields #[.int i u, .int k t, .none] }).push { cls := .type "list", data := .seq ((ws.drop i.toNat).take (k - i).toNat).toArray }).get? (s₂.heap.objs.size + 1) = some (lstO ((ws.drop i.toNat).take (k - i).toNat) 0) := by
    rw [← Heap.size_push s₂.heap { cls := .type "slice", data := .fields #[.int i u, .int k t, .none] }]; exact Heap.get?_push_size _ rfl
  exact ⟨(l₁.trans (l₀.trans l₂)).trans (Le.of_keeps hk), .lst _, _, is_lst.mpr rfl, S₂.make s₂.toks hk hn hg (((q.drop _).take _).mono (Le.of_keeps hk)), hP _ (S₂.fresh hn).1 (base_none S₂ hn)⟩

/- lists joined -/
theorem add_l {a b : Addr} {ds es : List D} (ha : rd G σ a = some ds) (hb : rd G σ b = some es) (hl : ds.length + es.length ≤ 1000) (h : ∀ c, σ c = none → G.base c = none → P (.lst c) (σ.set c (ds ++ es))) :
    V2 prog w A G fs (binaryOp .Add) (.lst a) (.lst b) σ P := fun H s v₁ v₂ S i₁ i₂ => by
  rw [is_lst.mp i₁, is_lst.mp i₂]
  obtain ⟨ws, n, g, q⟩ := S.read ha
  obtain ⟨us, n', g', q'⟩ := S.read hb
  have e : ws.toArray ++ us.toArray = (ws ++ us).toArray := by simp
  have hk := get?_push_ne' (h := s.heap) (o := { cls := .type "list", data := .seq (ws.toArray ++ us.toArray) })
  have hn : s.heap.get? s.heap.objs.size = none := get_none_of_size (Nat.le_refl _)
  refine PySem.P.add_list (items := ws.toArray) (items2 := us.toArray) g g' ⟨Le.of_keeps hk, .lst _, _, is_lst.mpr rfl, S.make s.toks hk hn (vs := ws ++ us) (n := 0) ?_ ((q.append q').mono (Le.of_keeps hk)), h _ (S.fresh hn).1 (base_none S hn)⟩ ?_
  · rw [e]; exact Heap.get?_push_size _ rfl
  · rw [List.size_toArray, List.size_toArray, q.length, q'.length, sizeLine_eq]; omega

/- the shapes of our data; == and != -/
inductive Sh : D → Prop
  | none : Sh .none
  | int (i : Int) : Sh (.int i)
  | nm (a b : Int) : Sh (.tup [.int a, .int b])
  | car (a b c : Int) : Sh (.tup [.tup [.int a, .int b], .int c])
mutual
def pd : D → PyData
  | .none => .none
  | .int i => .int i
  | .tup ds => .tuple (pds ds)
  | _ => .none
def pds : List D → List PyData
  | [] => []
  | d :: ds => pd d :: pds ds
end
mutual
def deq : D → D → Bool
  | .none, .none => true
  | .int i, .int j => i == j
  | .tup xs, .tup ys => deqs xs ys
  | _, _ => false
def deqs : List D → List D → Bool
  | [], [] => true
  | x :: xs, y :: ys => deq x y && deqs xs ys
  | _, _ => false
end
theorem deq_iff {d e : D} (hd : Sh d) (he : Sh e) : deq d e = true ↔ d = e := by
  cases hd <;> cases he <;> simp [deq, deqs]
theorem eqv_pd {d e : D} (hd : Sh d) (he : Sh e) : PyData.eqv (pd d) (pd e) = deq d e := by
  cases hd <;> cases he <;> simp [deq, deqs, pd, pds, PyData.eqv, PyData.eqvAll]
theorem deqs_iff : ∀ {ds es : List D}, (∀ d ∈ ds, Sh d) → (∀ d ∈ es, Sh d) → (deqs ds es = true ↔ ds = es)
  | [], [], _, _ => by simp [deqs]
  | [], _ :: _, _, _ => by simp [deqs]
  | _ :: _, [], _, _ => by simp [deqs]
  | d :: ds, e :: es, h1, h2 => by
    have := deqs_iff (ds := ds) (es := es) (fun x hx => h1 x (.tail _ hx)) fun x hx => h2 x (.tail _ hx)
    simp [deqs, deq_iff (h1 d (.head _)) (h2 e (.head _)), this]
theorem eqvs_pds : ∀ {ds es : List D}, (∀ d ∈ ds, Sh d) → (∀ d ∈ es, Sh d) → PyData.eqvAll (pds ds) (pds es) = deqs ds es
  | [], [], _, _ => by simp [deqs, pds, PyData.eqvAll]
  | [], _ :: _, _, _ => by simp [deqs, pds, PyData.eqvAll]
  | _ :: _, [], _, _ => by simp [deqs, pds, PyData.eqvAll]
  | d :: ds, e :: es, h1, h2 => by
    have := eqvs_pds (ds := ds) (es := es) (fun x hx => h1 x (.tail _ hx)) fun x hx => h2 x (.tail _ hx)
    simp [deqs, pds, PyData.eqvAll, eqv_pd (h1 d (.head _)) (h2 e (.head _)), this]
theorem reads_pd {h : Heap} {d : D} {v : Value} (hd : Sh d) (i : Is h d v) : ∃ as, Reads h v (pd d) as := by
  cases hd with
  | none => rw [is_none.mp i]; exact ⟨_, by simpa [pd] using Reads.none⟩
  | int k => obtain ⟨t, rfl⟩ := is_int.mp i; exact ⟨_, by simpa [pd] using Reads.int k t⟩
  | nm a b =>
    obtain ⟨x, vs, n, rfl, g, r⟩ := is_tup.mp i
    obtain ⟨p, q, rfl, i1, i2⟩ := isAll_two r
    obtain ⟨t, rfl⟩ := is_int.mp i1; obtain ⟨u, rfl⟩ := is_int.mp i2
    exact ⟨_, by simpa [pd, pds] using Reads.tuple g rfl rfl (.cons (.int a t) (.cons (.int b u) .nil))⟩
  | car a b c =>
    obtain ⟨x, vs, n, rfl, g, r⟩ := is_tup.mp i
    obtain ⟨p, q, rfl, i1, i2⟩ := isAll_two r
    obtain ⟨x', vs', n', rfl, g', r'⟩ := is_tup.mp i1
    obtain ⟨p', q', rfl, j1, j2⟩ := isAll_two r'
    obtain ⟨t, rfl⟩ := is_int.mp j1; obtain ⟨u, rfl⟩ := is_int.mp j2; obtain ⟨t', rfl⟩ := is_int.mp i2
    exact ⟨_, by simpa [pd, pds] using Reads.tuple g rfl rfl (.cons (.tuple g' rfl rfl (.cons (.int a t) (.cons (.int b u) .nil))) (.cons (.int c t') .nil))⟩
theorem reads_pds {h : Heap} : ∀ {ds : List D} {vs : List Value}, (∀ d ∈ ds, Sh d) → IsAll h ds vs → ∃ as, ReadsAll h vs (pds ds) as
  | [], _, _, i => by rw [isAll_nil.mp i]; exact ⟨_, by simpa [pds] using ReadsAll.nil⟩
  | d :: ds, _, hd, i => by
    obtain ⟨v, r, rfl, i1, i2⟩ := isAll_cons.mp i
    obtain ⟨as, ra⟩ := reads_pd (hd d (.head _)) i1
    obtain ⟨bs, rb⟩ := reads_pds (fun x hx => hd x (.tail _ hx)) i2
    exact ⟨_, by simpa [pds] using ReadsAll.cons ra rb⟩
theorem lay_pd {d : D} (hd : Sh d) : (pd d).canLay0 = true ∧ (pd d).depth ≤ 2 := by
  cases hd <;> simp [pd, pds, PyData.canLay0, PyData.canLayAll0, PyData.depth, PyData.depthAll]
theorem lay_pds : ∀ {ds : List D}, (∀ d ∈ ds, Sh d) → PyData.canLayAll0 (pds ds) = true ∧ PyData.depthAll (pds ds) ≤ 2
  | [], _ => by simp [pds, PyData.canLayAll0, PyData.depthAll]
  | d :: ds, h => by
    have h1 := lay_pd (h d (.head _))
    have h2 := lay_pds (ds := ds) fun x hx => h x (.tail _ hx)
    simp [pds, PyData.canLayAll0, PyData.depthAll, h1.1, h2.1]
    omega
theorem shaped_list {ds : List D} (h : ∀ d ∈ ds, Sh d) : PySem.SeqAt.shaped (.list (pds ds)) = true := by
  have := lay_pds h
  unfold PySem.SeqAt.shaped
  simp [PyData.canLay0, PyData.depth, this.1]
  omega
theorem shaped_pd {d : D} (h : Sh d) : PySem.SeqAt.shaped (pd d) = true := by
  have := lay_pd h
  unfold PySem.SeqAt.shaped
  simp [this.1]
  omega

theorem eq_l {a b : Addr} {ds es : List D} (hu : A.units + 64 < cLine) (ha : rd G σ a = some ds) (hb : rd G σ b = some es) (h1 : ∀ d ∈ ds, Sh d) (h2 : ∀ d ∈ es, Sh d) (h : P (.bool (deqs ds es)) σ) :
    V2 prog w A G fs (compareOp .Eq) (.lst a) (.lst b) σ P := fun H s v₁ v₂ S i₁ i₂ => by
  rw [is_lst.mp i₁, is_lst.mp i₂]
  obtain ⟨ws, n, g, q⟩ := S.read ha
  obtain ⟨us, n', g', q'⟩ := S.read hb
  obtain ⟨as, ra⟩ := reads_pds h1 q
  obtain ⟨bs, rb⟩ := reads_pds h2 q'
  refine eq_dataH (Reads.list g rfl rfl (by simpa using ra)) (Reads.list g' rfl rfl (by simpa using rb)) (shaped_list h1) (shaped_list h2) hu (Post.here (is_bool.mpr ?_) S h)
  rw [← eqvs_pds h1 h2]; simp [PyData.eqv]
theorem ne_l {a b : Addr} {ds es : List D} (hu : A.units + 64 < cLine) (ha : rd G σ a = some ds) (hb : rd G σ b = some es) (h1 : ∀ d ∈ ds, Sh d) (h2 : ∀ d ∈ es, Sh d) (h : P (.bool (!deqs ds es)) σ) :
    V2 prog w A G fs (compareOp .NotEq) (.lst a) (.lst b) σ P := fun H s v₁ v₂ S i₁ i₂ => by
  rw [is_lst.mp i₁, is_lst.mp i₂]
  obtain ⟨ws, n, g, q⟩ := S.read ha
  obtain ⟨us, n', g', q'⟩ := S.read hb
  obtain ⟨as, ra⟩ := reads_pds h1 q
  obtain ⟨bs, rb⟩ := reads_pds h2 q'
  refine ne_dataH (Reads.list g rfl rfl (by simpa using ra)) (Reads.list g' rfl rfl (by simpa using rb)) (shaped_list h1) (shaped_list h2) hu (Post.here (is_bool.mpr ?_) S h)
  rw [← eqvs_pds h1 h2]; simp [PyData.eqv]
theorem ne_d {d e : D} (hu : A.units + 64 < cLine) (h1 : Sh d) (h2 : Sh e) (h : P (.bool (!deq d e)) σ) : V2 prog w A G fs (compareOp .NotEq) d e σ P := fun H s v₁ v₂ S i₁ i₂ => by
  obtain ⟨as, ra⟩ := reads_pd h1 i₁
  obtain ⟨bs, rb⟩ := reads_pd h2 i₂
  exact ne_dataH ra rb (shaped_pd h1) (shaped_pd h2) hu (Post.here (is_bool.mpr (by rw [eqv_pd h1 h2])) S h)

/- tuples of two ints: less -/
def pltb (a b c d : Int) : Bool := if a == c then decide (b < d) else decide (a < c)
theorem tup_lt (l b : Addr) (a1 a2 b1 b2 : Int) (t1 t2 u1 u2 : Tok) (n n2 : Nat) :
    Meets (Builtin.«tuple.__lt__» ⟨[.ref l, .ref b], []⟩)
      (fun A R s => s.heap.get? l = some (tupO [.int a1 t1, .int a2 t2] n) ∧ s.heap.get? b = some (tupO [.int b1 u1, .int b2 u2] n2) ∧ R (.ok (.ret (.bool (pltb a1 a2 b1 b2)))) s) :=
  .of_wp fun prog w A R s h => by
    obtain ⟨hp, g, d, tk, os⟩ := s; obtain ⟨hl, hb, h⟩ := h
    have f2 := AutoSeq1.sub_tuple_tuple
    wp_walk using AutoSeq1.wpAny_loadPart' hl, AutoSeq1.wpAny_loadPart' hb, wpAny_forIn_list _ (fun rest b s' => b.1 = none ∧ s' = ⟨hp, g, d, tk, os⟩ ∧
      (rest = [(.int a1 t1, .int b1 u1), (.int a2 t2, .int b2 u2)] ∨ (a1 = b1 ∧ rest = [(.int a2 t2, .int b2 u2)]) ∨ (a1 = b1 ∧ a2 = b2 ∧ rest = []))) _
    case turn =>
      rintro ⟨y, x⟩ rest b s' ⟨hb', rfl, hz⟩
      obtain ⟨p, q, t, u, rfl, rfl, he, hn⟩ : ∃ (p q : Int) (t u : Tok), y = .int p t ∧ x = .int q u ∧
          (p = q → (rest = [(.int a1 t1, .int b1 u1), (.int a2 t2, .int b2 u2)] ∨ (a1 = b1 ∧ rest = [(.int a2 t2, .int b2 u2)]) ∨ (a1 = b1 ∧ a2 = b2 ∧ rest = []))) ∧
          (p ≠ q → pltb a1 a2 b1 b2 = decide (p < q)) := by
        rcases hz with hz | ⟨e1, hz⟩ | ⟨_, _, hz⟩
        · injection hz with h1 h2; injection h1 with h3 h4
          exact ⟨a1, b1, t1, u1, h3, h4, (fun e => .inr (.inl ⟨e, h2⟩)), fun e => by simp [pltb, e]⟩
        · injection hz with h1 h2; injection h1 with h3 h4
          exact ⟨a2, b2, t2, u2, h3, h4, (fun e => .inr (.inr ⟨e1, e, h2⟩)), fun e => by simp [pltb, e1]⟩
        · cases hz
      refine wpAny_bind (PySem.SeqAt.EqAt.int_int p t q u prog w _ _ ?_)
      by_cases e : p = q
      · subst e
        simp only [beq_self_eq_true]
        wp_walk
        exact ⟨rfl, rfl, he rfl⟩
      · have e' : (p == q) = false := by simpa using e
        rw [e']
        simp only [Bool.not_false, if_true]
        refine wpAny_bind (wpAny_rule ?_)
        refine wpAny_bind (show wpAny _ _ (compareOp .Lt (.int p t) (.int q u)) _ _ _ from PyProof.Rows.lt_int ?_)
        rw [← hn e]
        wp_walk
        exact ⟨_, rfl, h⟩
    case fin =>
      rintro ⟨b1', b2'⟩ s' ⟨hb', rfl, hz⟩
      simp only at hb'
      subst hb'
      rcases hz with hz | ⟨_, hz⟩ | ⟨e1, e2, _⟩
      · cases hz
      · cases hz
      subst e1 e2
      wp_walk
      refine ⟨_, rfl, ?_⟩
      simpa [Builtin.Tuple.tupleCompareSizes, pltb] using h
    case h => exact ⟨rfl, rfl, .inl rfl⟩

theorem lt_n {a b c d : Int} (hu : A.units < cLine) (h : P (.bool (pltb a b c d)) σ) : V2 prog w A G fs (compareOp .Lt) (.tup [.int a, .int b]) (.tup [.int c, .int d]) σ P := fun H s v₁ v₂ S i₁ i₂ => by
  obtain ⟨x, vs, n, rfl, g, r⟩ := is_tup.mp i₁
  obtain ⟨p, q, rfl, j1, j2⟩ := isAll_two r
  obtain ⟨t, rfl⟩ := is_int.mp j1; obtain ⟨u, rfl⟩ := is_int.mp j2
  obtain ⟨x', vs', n', rfl, g', r'⟩ := is_tup.mp i₂
  obtain ⟨p', q', rfl, k1, k2⟩ := isAll_two r'
  obtain ⟨t', rfl⟩ := is_int.mp k1; obtain ⟨u', rfl⟩ := is_int.mp k2
  show wpAny _ _ (richCompare .Lt _ _) _ _ _
  exact richCompare_meets_room (op := .Lt) ⟨_, g, rfl⟩ ⟨_, g', rfl⟩ F.slot_tuple_lt F.entry_tuple_lt (F.args_tuple_lt_2 _ _) (tup_lt x x' a b c d t u t' u' n n')
    ⟨g, g', show Value.bool (pltb a b c d) ≠ Value.notImplemented ∧ Post G H fs s P (.bool (pltb a b c d)) s from ⟨(fun x => nomatch x), Post.here (is_bool.mpr rfl) S h⟩⟩ hu
end Hq

-- HqG
open PySem PySem.W PyProof.Rows
set_option Elab.async false
set_option linter.unusedVariables false
namespace Hq
variable {prog : Program} {w : World} {A : Around} {G : Gnd} {fs : List Frm} {env : Env} {m : Loc} {fn : Bool} {σ : Sto} {P : D → Sto → Prop} {PB : Bool → Sto → Prop} {PF : Fl → Loc → Sto → Prop} {PM : Loc → Sto → Prop}
variable {H : Hid} {s : Shared} {E : Value → Shared → Prop}

/- a def of the text's top -/
structure FnAt (G : Gnd) (x : String) (a : Addr) (scope : Scope) (body : List Stmt) (ps : List String) (dv : List Value) : Prop where
  glob : G.mg (Str.ofString x) = some (.ref a)
  fn : ∃ name qual params dV kV doc pm an cdv ct o, G.h₀.get? a = some o ∧ o.data = .func (fnX name qual params body scope [] dV kV doc pm an cdv ct) ∧ G.h₀.CodeRec cdv qual ∧
    ∀ (s : Shared) vs, (∀ b o, G.h₀.get? b = some o → s.heap.get? b = some o) → vs.length + dv.length = ps.length → BindsTo s (fnX name qual params body scope [] dV kV doc pm an cdv ct) ⟨vs, []⟩ ((ps.map Str.ofString).zip (vs ++ dv))
theorem FnAt.callable {x : String} {a : Addr} {scope : Scope} {body : List Stmt} {ps : List String} {dv : List Value} (F : FnAt G x a scope body ps dv) : Callable G (.ref a) := by
  obtain ⟨name, qual, params, dV, kV, doc, pm, an, cdv, ct, o, g, d, _⟩ := F.fn
  exact .inr (.inr ⟨a, o, _, rfl, g, d⟩)

def locOf (l : List (String × D)) : Loc := fun x => l.lookup x

theorem bindL_other {k : Str → Option NameKind} {n : Str} : ∀ (bs : List (Str × Value)) (m : Str → Option Value), n ∉ bs.map (·.1) → bindL k bs m n = m n
  | [], _, _ => rfl
  | (x, v) :: r, m, h => by
    unfold bindL
    rw [bindL_other r _ (fun q => h (List.mem_cons_of_mem _ q))]
    split
    · exact if_neg (by rintro rfl; exact h List.mem_cons_self)
    · rfl
theorem bindC_other {k : Str → Option NameKind} {n : Str} : ∀ (bs : List (Str × Value)) (m : Str → Option Value), n ∉ bs.map (·.1) → bindC k bs m n = m n
  | [], _, _ => rfl
  | (x, v) :: r, m, h => by
    unfold bindC
    rw [bindC_other r _ (fun q => h (List.mem_cons_of_mem _ q))]
    split
    · rfl
    · exact if_neg (by rintro rfl; exact h List.mem_cons_self)
theorem bindL_get {k : Str → Option NameKind} {n : Str} {v : Value} (hk : k n = some .local) : ∀ (bs : List (Str × Value)) (m : Str → Option Value), (bs.map (·.1)).Nodup → (n, v) ∈ bs → bindL k bs m n = some v
  | (x, u) :: r, m, hn, h => by
    unfold bindL
    simp only [List.map_cons, List.nodup_cons] at hn
    rcases List.mem_cons.mp h with e | h
    · cases e; rw [bindL_other r _ hn.1, if_pos hk]; simp
    · exact bindL_get hk r _ hn.2 h
theorem bindC_get {k : Str → Option NameKind} {n : Str} {v : Value} (hk : ¬ k n = some .local) : ∀ (bs : List (Str × Value)) (m : Str → Option Value), (bs.map (·.1)).Nodup → (n, v) ∈ bs → bindC k bs m n = some v
  | (x, u) :: r, m, hn, h => by
    unfold bindC
    simp only [List.map_cons, List.nodup_cons] at hn
    rcases List.mem_cons.mp h with e | h
    · cases e; rw [bindC_other r _ hn.1, if_neg hk]; simp
    · exact bindC_get hk r _ hn.2 h

theorem zip_get {h : Heap} : ∀ {ps : List String} {ds : List D} {vs : List Value}, IsAll h ds vs → ∀ {x : String} {d : D}, (ps.zip ds).lookup x = some d → ∃ v, (Str.ofString x, v) ∈ (ps.map Str.ofString).zip vs ∧ Is h d v ∧ x ∈ ps
  | [], _, _, _, _, _, e => by simp at e
  | p :: ps, [], _, _, _, _, e => by simp at e
  | p :: ps, d' :: ds, _, i, x, d, e => by
    obtain ⟨v, r, rfl, i1, i2⟩ := isAll_cons.mp i
    simp only [List.zip_cons_cons, List.lookup_cons] at e
    by_cases hx : x = p
    · subst hx; simp at e; subst e; exact ⟨v, by simp, i1, by simp⟩
    · have hb : (x == p) = false := by simpa using hx
      rw [hb] at e
      obtain ⟨u, a, b, c⟩ := zip_get i2 e
      exact ⟨u, by simp [a], b, by simp [c]⟩

theorem nodup_map_of {ps : List String} (h : ps.Nodup) : (ps.map Str.ofString).Nodup := by
  induction ps with
  | nil => simp
  | cons p ps ih =>
    simp only [List.nodup_cons, List.map_cons, List.mem_map, not_exists, not_and] at h ⊢
    exact ⟨fun x hx e => h.1 (ofString_inj e ▸ hx), ih h.2⟩

theorem cl_fn {x : String} {a : Addr} {scope : Scope} {body : List Stmt} {ps : List String} {dv : List Value} {dd ds : List D} (F : FnAt G x a scope body ps dv) (hroom : A.depth < recursionLimit)
    (hlen : ds.length + dv.length = ps.length) (hdd : ∀ h, IsAll h dd dv) (hnd : ps.Nodup) (hkind : ∀ p ∈ ps, scope.names.lookup (Str.ofString p) = some .local ∨ scope.names.lookup (Str.ofString p) = some .cell)
    (hcn : ((cellsFrom 0 scope.names []).map (·.1)).Nodup) (hco : scope.isCoroutine = false) (hgen : scope.isGenerator = false) (hk : scope.kind = .function)
    {l : List (String × D)} (hz : ps.zip (ds ++ dd) = l)
    (h : ∀ qual L cdv, Ex prog w (A.deeper (envOfC qual scope L a cdv)) G (envOfC qual scope L a cdv) true fs body (locOf l) σ fun fl m' σ' => ∃ d σ'', (fl = .ret d ∨ (fl = .next ∧ d = .none)) ∧ Sub σ'' σ' ∧ P d σ'') :
    Cl prog w A G fs (.ref a) ds σ P := fun H s vs S I => by
  subst hz
  obtain ⟨name, qual, params, dV, kV, doc, pm, an, cdv, ct, o, g, d, hcd, hb⟩ := F.fn
  have hvl := I.length
  have hbs := hb s vs S.keep (by omega)
  have hm1 : ((ps.map Str.ofString).zip (vs ++ dv)).map (·.1) = ps.map Str.ofString := by
    rw [List.map_fst_zip]; simp; omega
  have hkb : ∀ y ∈ (ps.map Str.ofString).zip (vs ++ dv), scope.names.lookup y.1 = some .local ∨ (scope.names.lookup y.1 = some .cell ∧ ((cellsFrom (s.heap.objs.size + 1) scope.names []).lookup y.1).isSome = true) := fun y hy => by
    have : y.1 ∈ ps.map Str.ofString := by rw [← hm1]; exact List.mem_map_of_mem hy
    obtain ⟨p, hp, e⟩ := List.mem_map.mp this
    rw [← e]
    rcases hkind p hp with q | q
    · exact .inl q
    · exact .inr ⟨q, cellsFrom_some _ _ _ (.inl q)⟩
  refine wpAny_call (codeAny_call_function hroom (S.keep _ _ g) d hco hgen rfl (hcd.keeps S.keep) (hbs _ _ _ _ ?_))
  refine wpAny_newFunctionEnv_cells hk hkb fun env' he s₁ xx => ?_
  subst he
  refine ⟨(G.nolim.keeps S.keep).keeps xx.toInCall.keep, codeAny_func ?_⟩
  obtain ⟨h₁, tk, rfl, kp⟩ := xx.done
  have Iall : IsAll h₁ (ds ++ dd) (vs ++ dv) := (I.mono (Le.of_keeps kp)).append (hdd _)
  have fr : FrOk h₁ ⟨envOfC qual scope s.heap.objs.size a cdv, locOf (ps.zip (ds ++ dd)), true⟩ := by
    refine ⟨⟨_, xx.toInCall.ns, fun z dz e => ?_⟩, fun p hp => ?_⟩
    · obtain ⟨v, hv, iv, hz⟩ := zip_get Iall e
      have hnd' : (((ps.map Str.ofString).zip (vs ++ dv)).map (·.1)).Nodup := by rw [hm1]; exact nodup_map_of hnd
      rcases hkind z hz with q | q
      · exact .inl ⟨q, v, bindL_get q _ _ hnd' hv, iv⟩
      · refine .inr ⟨q, ?_⟩
        obtain ⟨c, hc⟩ := Option.isSome_iff_exists.mp (cellsFrom_some (x := Str.ofString z) scope.names (s.heap.objs.size + 1) [] (.inl q))
        refine ⟨c, v, hc, ?_, iv⟩
        have := xx.cell _ c hc
        rwa [bindC_get (k := Env.kindOf _) (by show ¬ scope.names.lookup _ = _; rw [q]; decide) _ _ hnd' hv] at this
    · obtain ⟨n, c⟩ := p
      exact ⟨_, xx.cell n c (lookup_of_mem_nodup (cellsFrom_names scope.names 0 (s.heap.objs.size + 1) [] [] rfl ▸ hcn) hp)⟩
  have hcells : ∀ p ∈ (envOfC qual scope s.heap.objs.size a cdv).cells, s.heap.get? p.2 = none := fun p hp => get_none_of_size (Nat.le_of_lt (xx.above p.1 p.2 hp))
  have S₁ : St G H (⟨envOfC qual scope s.heap.objs.size a cdv, locOf (ps.zip (ds ++ dd)), true⟩ :: fs) σ { s with heap := h₁, toks := tk } :=
    S.pushF tk kp fr (get_none_of_size (Nat.le_refl _)) (fun p hp => (S.fresh (hcells p hp)).2) fun _ => ⟨xx.apart, hcells⟩
  refine wpAny_mono (h qual s.heap.objs.size cdv H _ S₁) (fun f s₂ ⟨l₂, fl, m', σ', i₂, S₂, d', σ'', hfl, hsub, hP⟩ => ?_) fun _ _ x => x.elim
  have l : Le s.heap s₂.heap := (Le.of_keeps kp).trans l₂
  have S₃ := S₂.popF.sub hsub
  rcases hfl with rfl | ⟨rfl, rfl⟩
  · obtain ⟨v, rfl, iv⟩ := i₂
    exact ⟨l, d', σ'', iv, S₃, hP⟩
  · rw [show f = Flow.next from i₂]
    exact ⟨l, .none, σ'', is_none.mpr rfl, S₃, hP⟩

/- unpacking -/
def Sns (prog : Program) (w : World) (A : Around) (G : Gnd) (env : Env) (fn : Bool) (fs : List Frm) : List (Value → Sem Unit) → List D → Loc → Sto → (Loc → Sto → Prop) → Prop
  | t :: ts, d :: ds, m, σ, PM => Sn prog w A G env fn fs t d m σ fun m' σ' => Sns prog w A G env fn fs ts ds m' σ' PM
  | _, _, m, σ, PM => PM m σ
theorem sns_run : ∀ (ts : List (Value → Sem Unit)) (ds : List D) (vs : List Value) (m : Loc) (σ : Sto) (s : Shared), ts.length = ds.length → Sns prog w A G env fn fs ts ds m σ PM → St G H (⟨env, m, fn⟩ :: fs) σ s → IsAll s.heap ds vs →
    wpAny (model prog w) A (assignInOrder ts vs) (fun _ => PostM G H env fn fs s PM) NoE s
  | [], [], vs, m, σ, s, _, h, S, i => by rw [isAll_nil.mp i]; exact wpAny_pure ⟨Le.refl _, m, σ, S, h⟩
  | [], _ :: _, _, _, _, _, e, _, _, _ => by simp at e
  | _ :: _, [], _, _, _, _, e, _, _, _ => by simp at e
  | t :: ts, d :: ds, vs, m, σ, s, e, h, S, i => by
    obtain ⟨v, r, rfl, i1, i2⟩ := isAll_cons.mp i
    rw [assignInOrder]
    refine wpAny_bind (wpAny_holding (wpAny_mono (h H s v S i1) (fun _ s₁ ⟨l₁, m₁, σ₁, S₁, k₁⟩ => ?_) fun _ _ x => x))
    exact wpAny_mono (sns_run ts ds r m₁ σ₁ s₁ (by simpa using e) k₁ S₁ (i2.mono l₁)) (fun _ _ p => p.le l₁) fun _ _ x => x
theorem sn_tuple {elts : List Expr} {k : Nat} {pos : Pos} {ds : List D} (hh : A.handled = none) (h : Sns prog w A G env fn fs ((assignEach elts env).map (·.2)) ds m σ PM)
    (hn : (assignEach elts env).length = ds.length := by rfl) (hstar : (assignEach elts env).findIdx? (·.1) = none := by rfl) : Sn prog w A G env fn fs (assign (.Tuple elts k pos) env) (.tup ds) m σ PM := fun H s v S i => by
  obtain ⟨t, vs, n, rfl, g, r⟩ := is_tup.mp i
  refine assign_Tuple_tuple hh (items := vs.toArray) ⟨_, g, rfl, n, rfl⟩ (by rw [hn, List.size_toArray, r.length]) hstar fun h' he => ?_
  have kp : ∀ b o, s.heap.get? b = some o → h'.get? b = some o := fun b o e => he b o (Nat.ne_of_lt (Heap.lt_size e)) e
  have l := Le.of_keeps kp
  refine wpAny_mono (sns_run (H := H) _ ds vs m σ _ (by simpa using hn) h (S.grow s.toks kp) (r.mono l)) (fun _ _ p => p.le l) fun _ _ x => x
theorem ex_unpack {elts : List Expr} {k : Nat} {e : Expr} {tpos pos : Pos} (h : Ev prog w A G (⟨env, m, fn⟩ :: fs) env e σ fun d σ₁ => Sn prog w A G env fn fs (assign (.Tuple elts k tpos) env) d m σ₁ fun m' σ' => PF .next m' σ')
    (hs : swapsWithSole [.Tuple elts k tpos] e pos.line env = pure false := by rfl) (hw : swappedStores [.Tuple elts k tpos] e env = pure none := by rfl) :
    Ex1 prog w A G env fn fs (.Assign [.Tuple elts k tpos] e pos) m σ PF := fun H s S =>
  Assign_Tuple (wpAny_mono (h H s S) (fun v s₁ ⟨l₁, d, σ₁, i₁, S₁, k₁⟩ => wpAny_mono (k₁ H s₁ v S₁ i₁) (fun _ s₂ ⟨l₂, m', σ', S₂, k₂⟩ => ⟨l₁.trans l₂, .next, m', σ', rfl, S₂, k₂⟩) fun _ _ x => x) fun _ _ x => x) hs hw
end Hq

-- HqH
open PySem PySem.W PyProof.Rows
set_option Elab.async false
set_option linter.unusedVariables false
namespace Hq
variable {prog : Program} {w : World} {A : Around} {G : Gnd} {fs : List Frm} {env : Env} {m : Loc} {fn : Bool} {σ : Sto} {P : D → Sto → Prop} {PB : Bool → Sto → Prop} {PF : Fl → Loc → Sto → Prop} {PM : Loc → Sto → Prop}
variable {H : Hid} {s : Shared}

def fnBody (p : Program) (i : Nat) : List Stmt := match p.main.body[i]? with | some (.FunctionDef _ _ b _ _ _ _ _ _ _) => b | _ => []
def fnScope (p : Program) (i : Nat) : Scope := match p.main.body[i]? with | some (.FunctionDef _ _ _ _ _ _ sc _ _ _) => sc | _ => default

abbrev nm (p : Int × Int) : D := .tup [.int p.1, .int p.2]
def Rm (k : Nat) (A : Around) : Prop := A.handled = none ∧ A.depth ≤ 301 + k ∧ A.units ≤ 4 + 20 * k
theorem Rm.deeper {k : Nat} {A : Around} (h : Rm k A) (env : Env) : Rm (k + 1) (A.deeper env) := ⟨h.1, by have := h.2.1; show A.depth + 1 ≤ _; omega, by have := h.2.2; show A.units + 3 ≤ _; omega⟩
theorem Rm.room {k : Nat} {A : Around} (h : Rm k A) (hk : k ≤ 20) : A.depth < recursionLimit := by have := h.2.1; show A.depth < 1000; omega
theorem Rm.units {k : Nat} {A : Around} (h : Rm k A) (hk : k ≤ 20) : A.units + 64 < cLine := by have := h.2.2; show A.units + 64 < 9900; omega
theorem Rm.units0 {k : Nat} {A : Around} (h : Rm k A) (hk : k ≤ 20) : A.units < cLine := by have := h.units hk; omega

/- locals as a written list -/
theorem lk_hit {x : String} {d : D} {l : List (String × D)} : locOf ((x, d) :: l) x = some d := by simp [locOf]
theorem lk_miss {x y : String} {d e : D} {l : List (String × D)} (h : (y == x) = false) (k : locOf l y = some e) : locOf ((x, d) :: l) y = some e := by
  unfold locOf at k ⊢; rw [List.lookup_cons, h]; exact k
theorem put_loc {l : List (String × D)} {x : String} {d : D} : (locOf l).put x d = locOf ((x, d) :: l) := by
  funext y
  by_cases h : y = x
  · subst h; simp [locOf, Loc.put]
  · have : (y == x) = false := by simpa using h
    simp [locOf, Loc.put, h, List.lookup_cons, this]
def SubM (m m' : Loc) : Prop := ∀ x d, m x = some d → m' x = some d
theorem St.subM {m' : Loc} (S : St G H (⟨env, m', fn⟩ :: fs) σ s) (k : SubM m m') : St G H (⟨env, m, fn⟩ :: fs) σ s :=
  ⟨S.keep, S.gens, S.os, S.lists, fun f hf => by
    rcases List.mem_cons.mp hf with rfl | hf
    · obtain ⟨⟨⟨mv, ns, q⟩, c⟩, r⟩ := S.frames _ List.mem_cons_self
      exact ⟨⟨⟨mv, ns, fun x d e => q x d (k x d e)⟩, c⟩, r⟩
    · exact S.frames f (List.mem_cons_of_mem _ hf), ⟨S.apart.1, S.apart.2.1, S.apart.2.2⟩, S.hid⟩
theorem Wf.subM {t : Sem Flow} {m' : Loc} (k : SubM m m') (h : Wf prog w A G env fn fs m σ t PF) : Wf prog w A G env fn fs m' σ t PF := fun H s S => h H s (S.subM k)
theorem Sn.subM {f : Value → Sem Unit} {d : D} {m' : Loc} (k : SubM m m') (h : Sn prog w A G env fn fs f d m σ PM) : Sn prog w A G env fn fs f d m' σ PM := fun H s v S i => h H s v (S.subM k) i
/-- what is known of the locals -/
def Kn (m : Loc) : List (String × D) → Prop
  | [] => True
  | (x, d) :: l => m x = some d ∧ Kn m l
theorem Kn.sub {m : Loc} : ∀ {l : List (String × D)}, Kn m l → SubM (locOf l) m
  | [], _, x, d, e => by simp [locOf] at e
  | (y, e') :: l, h, x, d, e => by
    by_cases q : x = y
    · subst q; rw [lk_hit] at e; cases e; exact h.1
    · have hb : (x == y) = false := by simpa using q
      unfold locOf at e
      rw [List.lookup_cons, hb] at e
      exact h.2.sub x d e

/- a name that the builtins alone bind -/
structure Bn (G : Gnd) (x : String) (v : Value) : Prop where
  no : G.mg (Str.ofString x) = none
  yes : bootBuiltins (Str.ofString x) = some v
  ne : Str.ofString x ≠ "__name__"
theorem ev_bn {x : String} {v : Value} {pos : Pos} (b : Bn G x v) (h : P (.val v) σ) (hk : env.scope.kind = .function := by rfl)
    (hx : env.kindOf (Str.ofString x) = some .globalImplicit := by rfl) (hE : env.globals = mainGlobals := by rfl) (hB : env.builtins = builtinsNs := by rfl) (hd : (Str.ofString x == ("__debug__" : Str)) = false := by decide) :
    Ev prog w A G fs env (.Name (Str.ofString x) pos) σ P := ev_builtin b.no b.yes b.ne h hk hx hE hB hd
theorem ev_fn {x : String} {a : Addr} {scope : Scope} {body : List Stmt} {ps : List String} {dv : List Value} {pos : Pos} (F : FnAt G x a scope body ps dv) (h : P (.val (.ref a)) σ) (hk : env.scope.kind = .function := by rfl)
    (hx : env.kindOf (Str.ofString x) = some .globalImplicit := by rfl) (hE : env.globals = mainGlobals := by rfl) (hd : (Str.ofString x == ("__debug__" : Str)) = false := by decide) :
    Ev prog w A G fs env (.Name (Str.ofString x) pos) σ P := ev_global F.glob h hk hx hE hd
/-- a def's call, its arguments to be walked -/
theorem ev_callF {x : String} {a : Addr} {scope : Scope} {body : List Stmt} {ps : List String} {dv : List Value} {p pos : Pos} {e : Expr} {es : List Expr} (F : FnAt G x a scope body ps dv)
    (h : As prog w A G fs env pos (e :: es) σ fun ds σ₂ => Cl prog w A G fs (.ref a) ds σ₂ P) (hk : env.scope.kind = .function := by rfl) (hx : env.kindOf (Str.ofString x) = some .globalImplicit := by rfl)
    (hE : env.globals = mainGlobals := by rfl) (hd : (Str.ofString x == ("__debug__" : Str)) = false := by decide)
    (he : starEach (e :: es) env = (false, eval e env) :: starEach es env := by rfl) (hplain : (backTo pos (starEach es env)).any (·.1) = false := by rfl) :
    Ev prog w A G fs env (.Call (.Name (Str.ofString x) p) (e :: es) [] pos) σ P := ev_call (ev_fn F ⟨_, rfl, F.callable, h⟩ hk hx hE hd) he hplain
theorem ev_callB {x : String} {v : Value} {p pos : Pos} {e : Expr} {es : List Expr} (b : Bn G x v) (hc : Callable G v)
    (h : As prog w A G fs env pos (e :: es) σ fun ds σ₂ => Cl prog w A G fs v ds σ₂ P) (hk : env.scope.kind = .function := by rfl) (hx : env.kindOf (Str.ofString x) = some .globalImplicit := by rfl)
    (hE : env.globals = mainGlobals := by rfl) (hB : env.builtins = builtinsNs := by rfl) (hd : (Str.ofString x == ("__debug__" : Str)) = false := by decide)
    (he : starEach (e :: es) env = (false, eval e env) :: starEach es env := by rfl) (hplain : (backTo pos (starEach es env)).any (·.1) = false := by rfl) :
    Ev prog w A G fs env (.Call (.Name (Str.ofString x) p) (e :: es) [] pos) σ P := ev_call (ev_bn b ⟨_, rfl, hc, h⟩ hk hx hE hB hd) he hplain
theorem callB {id : String} : Callable G (.builtin id) := .inl ⟨id, rfl⟩
theorem callT {T : String} : Callable G (.type T) := .inr (.inl ⟨T, rfl⟩)

theorem ex_let {x : String} {e : Expr} {pos' pos : Pos} {l : List (String × D)} (h : Ev prog w A G (⟨env, locOf l, fn⟩ :: fs) env e σ fun d σ₁ => PF .next (locOf ((x, d) :: l)) σ₁)
    (hl : env.kindOf (Str.ofString x) = some .local ∨ (fn = true ∧ env.kindOf (Str.ofString x) = some .cell ∧ (env.cells.lookup (Str.ofString x)).isSome = true) := by first | exact .inl rfl | exact .inr ⟨rfl, rfl, rfl⟩)
    (hk : env.scope.kind = .function := by rfl) (hs : swapsWith e (some (.Name (Str.ofString x) pos')) pos.line env = pure false := by rfl) :
    Ex1 prog w A G env fn fs (.Assign [.Name (Str.ofString x) pos'] e pos) (locOf l) σ PF :=
  ex_assign (Wv.mono h fun d τ q => by rw [put_loc]; exact q) hl hk hs
theorem sn_let {x : String} {d : D} {p : Pos} {l : List (String × D)} (h : PM (locOf ((x, d) :: l)) σ)
    (hl : env.kindOf (Str.ofString x) = some .local ∨ (fn = true ∧ env.kindOf (Str.ofString x) = some .cell ∧ (env.cells.lookup (Str.ofString x)).isSome = true) := by first | exact .inl rfl | exact .inr ⟨rfl, rfl, rfl⟩)
    (hk : env.scope.kind = .function := by rfl) : Sn prog w A G env fn fs (assign (.Name (Str.ofString x) p) env) d (locOf l) σ PM := sn_target (by rw [put_loc]; exact h) hl hk
/-- forgetting behind -/
theorem Wf.down {t : Sem Flow} (h : Wf prog w A G env fn fs m σ t fun fl m₁ σ₁ => ∃ m' σ', SubM m' m₁ ∧ Sub σ' σ₁ ∧ PF fl m' σ') : Wf prog w A G env fn fs m σ t PF := fun H s S =>
  wpAny_mono (h H s S) (fun f s₁ ⟨l, fl, m₁, σ₁, i, S₁, m', σ', a, b, p⟩ => ⟨l, fl, m', σ', i, (S₁.subM a).sub b, p⟩) fun _ _ x => x
theorem SubM.refl (m : Loc) : SubM m m := fun _ _ e => e
/-- a cut behind a statement -/
theorem ex_mid {st : Stmt} {rest : List Stmt} (Mid : List (String × D) → Sto → Prop) (h : Ex1 prog w A G env fn fs st m σ fun fl m₁ σ₁ => fl = .next ∧ ∃ l σ', Kn m₁ l ∧ Sub σ' σ₁ ∧ Mid l σ')
    (k : ∀ l σ', Mid l σ' → Ex prog w A G env fn fs rest (locOf l) σ' PF) : Ex prog w A G env fn fs (st :: rest) m σ PF :=
  ex_cons (Wf.mono h fun fl m₁ σ₁ ⟨e, l, σ', a, b, c⟩ => by subst e; exact Wf.subM a.sub (Wf.sub b (k l σ' c)))
/-- a while by an invariant that tells the locals -/
theorem ex_whileK {test : Expr} {body : List Stmt} {pos : Pos} (I : Nat → List (String × D) → Sto → Prop) (n : Nat) (h0 : ∃ l, Kn m l ∧ I n l σ)
    (turn : ∀ k l σ, I k l σ → Ts prog w A G (⟨env, locOf l, fn⟩ :: fs) env test σ fun b σ₁ => if b = true then Ex prog w A G env fn fs body (locOf l) σ₁ (fun fl m₂ σ₂ => match fl with
        | .next => ∃ j, j < k ∧ ∃ l' σ', Kn m₂ l' ∧ Sub σ' σ₂ ∧ I j l' σ' | .cont => ∃ j, j < k ∧ ∃ l' σ', Kn m₂ l' ∧ Sub σ' σ₂ ∧ I j l' σ' | .brk => PF .next m₂ σ₂ | .ret d => PF (.ret d) m₂ σ₂) else PF .next (locOf l) σ₁) :
    Ex1 prog w A G env fn fs (.While test body [] pos) m σ PF := by
  obtain ⟨l, hl, hI⟩ := h0
  refine Wf.subM hl.sub (ex_while (fun k m σ => ∃ l, m = locOf l ∧ I k l σ) n ⟨l, rfl, hI⟩ ?_)
  rintro k _ σ ⟨l, rfl, hI⟩
  refine Wb.mono (turn k l σ hI) fun b σ₁ h => ?_
  cases b with
  | false => simpa using h
  | true =>
    simp only [if_true] at h ⊢
    refine Wf.down (Wf.mono h fun fl m₂ σ₂ q => ?_)
    cases fl with
    | next => obtain ⟨j, hj, l', σ', a, b, c⟩ := q; exact ⟨_, _, a.sub, b, j, hj, l', rfl, c⟩
    | cont => obtain ⟨j, hj, l', σ', a, b, c⟩ := q; exact ⟨_, _, a.sub, b, j, hj, l', rfl, c⟩
    | brk => exact ⟨_, _, SubM.refl _, Sub.refl _, q⟩
    | ret d => exact ⟨_, _, SubM.refl _, Sub.refl _, q⟩
theorem ex_forK {target iter : Expr} {body : List Stmt} {pos : Pos} (hh : A.handled = none)
    (h : Ev prog w A G (⟨env, m, fn⟩ :: fs) env iter σ fun d σ₁ => ∃ (ds : List D) (I : Nat → List (String × D) → Sto → Prop), TgtOk target d ∧ ((∃ elts x1 pos, target = .Tuple elts x1 pos) → ∀ e ∈ ds, ∃ es, e = .tup es) ∧
      (∃ l σ', Kn m l ∧ Sub σ' σ₁ ∧ I 0 l σ') ∧ (∀ i l σ, I i l σ → Src G σ ds d) ∧
      (∀ i e l σ, ds[i]? = some e → I i l σ → Sn prog w A G env fn fs (assign target env) e (locOf l) σ fun m₁ σ₁ => Ex prog w A G env fn fs body m₁ σ₁ fun fl m₂ σ₂ => match fl with
        | .next => ∃ l' σ', Kn m₂ l' ∧ Sub σ' σ₂ ∧ I (i + 1) l' σ' | .cont => ∃ l' σ', Kn m₂ l' ∧ Sub σ' σ₂ ∧ I (i + 1) l' σ' | .brk => PF .next m₂ σ₂ | .ret d => PF (.ret d) m₂ σ₂) ∧
      (∀ l σ, I ds.length l σ → PF .next (locOf l) σ))
    (hs : ∀ x, foldedSetIterable iter env x = pure x := by intro _; rfl) : Ex1 prog w A G env fn fs (.For target iter body [] pos) m σ PF := by
  refine Wf.down (ex_for hh ?_ hs)
  intro H s S
  refine wpAny_mono (h H s S) (fun v s₁ ⟨l₁, d, σ₁, i₁, S₁, ds, I, hT, hTs, ⟨l, σ', hl, hσ, h0⟩, hsrc, turn, fin⟩ => ?_) fun _ _ x => x
  refine ⟨l₁, d, σ', i₁, S₁.sub hσ, ds, fun i m σ => ∃ l, Kn m l ∧ I i l σ, hT, hTs, ⟨l, hl, h0⟩, fun i m σ ⟨l, _, q⟩ => hsrc i l σ q, ?_, ?_⟩
  · rintro i e m σ he ⟨l, hl, hI⟩
    refine Sn.subM hl.sub ?_
    intro H s v S iv
    refine wpAny_mono (turn i e l σ he hI H s v S iv) (fun _ s₂ ⟨l₂, m₂, σ₂, S₂, q⟩ => ⟨l₂, m₂, σ₂, S₂, ?_⟩) fun _ _ x => x
    refine Wf.down (Wf.mono q fun fl m₂ σ₂ q => ?_)
    cases fl with
    | next => obtain ⟨l', σ', a, b, c⟩ := q; exact ⟨m₂, _, SubM.refl _, b, l', a, c⟩
    | cont => obtain ⟨l', σ', a, b, c⟩ := q; exact ⟨m₂, _, SubM.refl _, b, l', a, c⟩
    | brk => exact ⟨_, _, SubM.refl _, Sub.refl _, _, _, SubM.refl _, Sub.refl _, q⟩
    | ret d => exact ⟨_, _, SubM.refl _, Sub.refl _, _, _, SubM.refl _, Sub.refl _, q⟩
  · rintro m σ ⟨l, hl, hI⟩
    exact ⟨_, _, hl.sub, Sub.refl _, fin l σ hI⟩
end Hq

-- HqP
set_option Elab.async false
set_option linter.unusedVariables false
namespace Hq
/- the plain law of heaps: lists of pairs of ints in the order of tuples -/
abbrev plt (p q : Int × Int) : Prop := p.1 < q.1 ∨ (p.1 = q.1 ∧ p.2 < q.2)
def ple (p q : Int × Int) : Prop := ¬ plt q p
theorem ple_refl (p : Int × Int) : ple p p := by unfold ple plt; omega
theorem ple_trans {p q r : Int × Int} (a : ple p q) (b : ple q r) : ple p r := by unfold ple plt at *; omega
theorem ple_of_plt {p q : Int × Int} (a : plt p q) : ple p q := by unfold ple plt at *; omega
theorem plt_of_ple_of_ne {p q : Int × Int} (a : ple p q) (b : p ≠ q) : plt p q := by
  unfold ple plt at *
  have : ¬ (p.1 = q.1 ∧ p.2 = q.2) := fun h => b (Prod.ext h.1 h.2)
  omega
theorem plt_irrefl (p : Int × Int) : ¬ plt p p := by unfold plt; omega
theorem plt_trans {p q r : Int × Int} (a : plt p q) (b : plt q r) : plt p r := by unfold plt at *; omega
abbrev NL := List (Int × Int)
def nth (l : NL) (i : Nat) : Int × Int := l.getD i (0, 0)
def par (i : Nat) : Nat := (i - 1) / 2
theorem nth_set {l : NL} {i j : Nat} {x : Int × Int} (h : i < l.length) : nth (l.set i x) j = if i = j then x else nth l j := by
  unfold nth
  simp only [List.getD_eq_getElem?_getD, List.getElem?_set]
  split
  · rename_i e; subst e; simp [h]
  · rfl
theorem nth_get {l : NL} {i : Nat} (h : i < l.length) : nth l i = l[i] := by simp [nth, h]
theorem nth_mem {l : NL} {i : Nat} (h : i < l.length) : nth l i ∈ l := by rw [nth_get h]; exact List.getElem_mem h
def Hp (l : NL) : Prop := ∀ i, 0 < i → i < l.length → ple (nth l (par i)) (nth l i)
theorem Hp.root {l : NL} (h : Hp l) : ∀ i, i < l.length → ple (nth l 0) (nth l i) := by
  intro i
  induction i using Nat.strongRecOn with
  | ind i ih =>
    intro hi
    by_cases h0 : i = 0
    · subst h0; exact ple_refl _
    · exact ple_trans (ih (par i) (by unfold par; omega) (by unfold par; omega)) (h i (by omega) hi)
theorem Hp.min {l : NL} (h : Hp l) {q : Int × Int} (hq : q ∈ l) : ple (nth l 0) q := by
  obtain ⟨i, hi, rfl⟩ := List.getElem_of_mem hq
  rw [← nth_get hi]; exact h.root i hi

/-- the hole at pos, x in hand, going towards the root -/
structure Dn (l : NL) (pos : Nat) (x : Int × Int) : Prop where
  lt : pos < l.length
  one : ∀ i, 0 < i → i < l.length → i ≠ pos → ple (nth (l.set pos x) (par i)) (nth (l.set pos x) i)
  two : ∀ c, 0 < c → c < l.length → par c = pos → 0 < pos → ple (nth (l.set pos x) (par pos)) (nth (l.set pos x) c)

theorem set_move_perm {l : NL} {pos c : Nat} {x : Int × Int} (hp : pos < l.length) (hc : c < l.length) (hne : pos ≠ c) : ((l.set pos (nth l c)).set c x).Perm (l.set pos x) := by
  have hp' : pos < (l.set pos x).length := by simpa using hp
  have hc' : c < (l.set pos x).length := by simpa using hc
  have e : (l.set pos (nth l c)).set c x = ((l.set pos x).set pos ((l.set pos x)[c]'hc')).set c ((l.set pos x)[pos]'hp') := by
    simp only [List.getElem_set_self, List.set_set]
    rw [List.getElem_set_ne hne, ← nth_get hc]
  rw [e]
  exact List.set_set_perm hp' hc'
theorem Dn.step {l : NL} {pos : Nat} {x : Int × Int} (h : Dn l pos x) (h0 : 0 < pos) (hx : plt x (nth l (par pos))) :
    Dn (l.set pos (nth l (par pos))) (par pos) x ∧ ((l.set pos (nth l (par pos))).set (par pos) x).Perm (l.set pos x) := by
  have hp := h.lt
  have hpp : par pos < pos := by unfold par; omega
  have hpl : par pos < l.length := by omega
  have F : ∀ i, nth (l.set pos x) i = if pos = i then x else nth l i := fun i => nth_set hp
  have F' : ∀ i, nth ((l.set pos (nth l (par pos))).set (par pos) x) i = if par pos = i then x else if pos = i then nth l (par pos) else nth l i := fun i => by
    rw [nth_set (by simpa using hpl), nth_set hp]
  have one := h.one
  have two := h.two
  simp only [F] at one two
  refine ⟨⟨by simpa using hpl, fun i hi hl hne => ?_, fun c hc hl hpc h0' => ?_⟩, ?_⟩
  · rw [F', F']
    simp only [List.length_set] at hl
    by_cases e1 : pos = i
    · subst e1
      simp only [if_neg (Nat.ne_of_lt hpp), if_true]
      exact ple_of_plt hx
    · by_cases e2 : par i = pos
      · have := two i hi hl e2 h0
        simp only [e1, if_false, if_neg (Nat.ne_of_gt hpp)] at this
        simp only [e2, if_neg (Nat.ne_of_lt hpp), if_true, e1, if_false, if_neg (Ne.symm hne)]
        exact this
      · by_cases e3 : par i = par pos
        · have := one i hi hl (Ne.symm e1)
          simp only [if_neg (Ne.symm e2), e1, if_false] at this
          simp only [e3, if_true, if_neg (Ne.symm hne), e1, if_false]
          rw [e3] at this
          exact ple_trans (ple_of_plt hx) this
        · have := one i hi hl (Ne.symm e1)
          simp only [if_neg (Ne.symm e2), e1, if_false] at this
          simp only [if_neg (Ne.symm e3), if_neg (Ne.symm e2), if_neg (Ne.symm hne), e1, if_false]
          exact this
  · rw [F', F']
    simp only [List.length_set] at hl
    have hq : par (par pos) < par pos := by unfold par at *; omega
    have key : ple (nth l (par (par pos))) (nth l (par pos)) := by
      have := one (par pos) h0' hpl (Nat.ne_of_lt hpp)
      simp only [if_neg (show ¬ pos = par (par pos) by omega), if_neg (show ¬ pos = par pos by omega)] at this
      exact this
    have hcp : c ≠ par pos := by intro e; unfold par at *; omega
    simp only [if_neg (Nat.ne_of_gt hq), if_neg (show ¬ pos = par (par pos) by omega), if_neg (Ne.symm hcp)]
    by_cases e1 : pos = c
    · simp only [e1, if_true]; rw [e1] at key; exact key
    · simp only [e1, if_false]
      refine ple_trans key ?_
      have := one c hc hl (Ne.symm e1)
      simp only [hpc, if_neg (show ¬ pos = par pos by omega), e1, if_false] at this
      exact this
  · exact set_move_perm hp hpl (by omega)

theorem Dn.done {l : NL} {pos : Nat} {x : Int × Int} (h : Dn l pos x) (h0 : pos = 0 ∨ ¬ plt x (nth l (par pos))) : Hp (l.set pos x) := by
  intro i hi hl
  simp only [List.length_set] at hl
  by_cases e : i = pos
  · subst e
    rcases h0 with h0 | h0
    · omega
    · rw [nth_set h.lt, nth_set h.lt, if_neg (by unfold par; omega), if_pos rfl]; exact h0
  · exact h.one i hi hl e
theorem Dn.push {l : NL} (h : Hp l) (x : Int × Int) : Dn (l ++ [x]) l.length x := by
  have e : (l ++ [x]).set l.length x = l ++ [x] := by simp
  have g : ∀ i, i < l.length → nth (l ++ [x]) i = nth l i := fun i hi => by simp [nth, List.getElem?_append_left hi]
  refine ⟨by simp, fun i hi hl hne => ?_, fun c hc hl hp _ => ?_⟩
  · rw [e]
    simp at hl
    rw [g i (by omega), g (par i) (by unfold par; omega)]
    exact h i hi (by omega)
  · simp at hl; unfold par at hp; omega

/-- the hole at pos going towards the leaves -/
structure Up (l : NL) (pos : Nat) : Prop where
  lt : pos < l.length
  one : ∀ i, 0 < i → i < l.length → i ≠ pos → par i ≠ pos → ple (nth l (par i)) (nth l i)
  two : ∀ c, 0 < c → c < l.length → par c = pos → 0 < pos → ple (nth l (par pos)) (nth l c)
theorem Up.start {l : NL} (h : Hp l) (hl : 0 < l.length) (x : Int × Int) : Up (l.set 0 x) 0 := by
  refine ⟨by simpa using hl, fun i hi hl' h0 hp => ?_, fun c _ _ _ h0 => by omega⟩
  rw [nth_set hl, nth_set hl, if_neg (Ne.symm h0), if_neg (Ne.symm hp)]
  exact h i hi (by simpa using hl')
theorem Up.step {l : NL} {pos c : Nat} (h : Up l pos) (hc : c < l.length) (hp : par c = pos) (h0 : 0 < c) (hmin : ∀ d, 0 < d → d < l.length → par d = pos → ple (nth l c) (nth l d)) : Up (l.set pos (nth l c)) c := by
  have hpc : pos < c := by unfold par at hp; omega
  have F : ∀ i, nth (l.set pos (nth l c)) i = if pos = i then nth l c else nth l i := fun i => nth_set h.lt
  refine ⟨by simpa using hc, fun i hi hl hne hpar => ?_, fun d hd hl hpd _ => ?_⟩
  · simp only [List.length_set] at hl
    rw [F, F]
    by_cases e1 : pos = i
    · subst e1
      rw [if_neg (by unfold par; omega), if_pos rfl]
      exact h.two c h0 hc hp hi
    · by_cases e2 : pos = par i
      · rw [if_pos e2, if_neg e1]; exact hmin i hi hl e2.symm
      · rw [if_neg e2, if_neg e1]; exact h.one i hi hl (Ne.symm e1) (Ne.symm e2)
  · simp only [List.length_set] at hl
    rw [F, F, hp, if_pos rfl, if_neg (by unfold par at hpd; omega)]
    have hd' : d ≠ pos := by unfold par at hpd; omega
    have := h.one d hd hl hd' (by rw [hpd]; omega)
    rw [hpd] at this; exact this
theorem Up.leaf {l : NL} {pos : Nat} (h : Up l pos) (hl : l.length ≤ 2 * pos + 1) (x : Int × Int) : Dn (l.set pos x) pos x := by
  have e : (l.set pos x).set pos x = l.set pos x := by simp
  refine ⟨by simpa using h.lt, fun i hi hl' hne => ?_, fun c hc hl' hp _ => ?_⟩
  · simp only [List.length_set] at hl'
    have hpi : par i ≠ pos := by unfold par; omega
    rw [e, nth_set h.lt, nth_set h.lt, if_neg (Ne.symm hpi), if_neg (Ne.symm hne)]
    exact h.one i hi hl' hne hpi
  · simp only [List.length_set] at hl'
    unfold par at hp; omega
theorem Hp.prefix {l : NL} {x : Int × Int} (h : Hp (l ++ [x])) : Hp l := by
  have g : ∀ i, i < l.length → nth (l ++ [x]) i = nth l i := fun i hi => by simp [nth, List.getElem?_append_left hi]
  intro i hi hl
  have := h i hi (by simp; omega)
  rwa [g i hl, g (par i) (by unfold par; omega)] at this
theorem Hp.nil : Hp [] := fun i _ h => by simp at h
end Hq

-- HqI
open PySem PySem.W PyProof.Rows
set_option Elab.async false
set_option linter.unusedVariables false
set_option maxHeartbeats 1000000
namespace Hq
variable {prog : Program} {w : World} {A : Around} {G : Gnd} {fs : List Frm} {env : Env} {m : Loc} {fn : Bool} {σ : Sto} {P : D → Sto → Prop} {PB : Bool → Sto → Prop} {PF : Fl → Loc → Sto → Prop} {PM : Loc → Sto → Prop}
variable {H : Hid} {s : Shared} {E : Value → Shared → Prop}

/- a frame taken off and its names let go -/
theorem St.dropF {f : Frm} (S : St G H (f :: fs) σ s) {h' : Heap} (tk : Nat) (hs : Heap.SameBut f.env.locals s.heap h') : Le s.heap h' ∧ St G H fs σ { s with heap := h', toks := tk } := by
  obtain ⟨⟨⟨mv, hmv, _⟩, _⟩, hb, _⟩ := S.frames _ List.mem_cons_self
  obtain ⟨oL, es, ep, hL, hd, _⟩ := id hmv
  have l : Le s.heap h' := Le.of_but hL (not_frozen_dict hd) fun b o q e => hs.extBut b o q e
  refine ⟨l, fun b o e => hs.extBut b o (by rintro rfl; rw [hb] at e; cases e) (S.keep b o e), S.gens, S.os, fun a ds e => ?_, fun g hg => ?_, S.apart.2.2, fun a o e => ?_⟩
  · obtain ⟨q, vs, n, g, i⟩ := S.lists a ds e
    exact ⟨q, vs, n, hs.extBut _ _ (Ne.symm (S.list_ne_locals e List.mem_cons_self)) g, i.mono l⟩
  · obtain ⟨a, b, c⟩ := S.frames g (List.mem_cons_of_mem _ hg)
    refine ⟨a.move (fun o e => hs.extBut _ o (Ne.symm (S.apart.1 g hg)) e) (fun p hp o e => hs.extBut _ o ?_ e) l, b, c⟩
    obtain ⟨u, i⟩ := a.2 p hp
    exact ns_ne_cell hmv i
  · obtain ⟨a', b', c⟩ := S.hid a o e
    exact ⟨a', hs.extBut _ _ (S.hid_ne_ns e hmv) b', c⟩

/- a list hidden, shown -/
theorem St.hideL {a : Addr} {ds : List D} (S : St G H fs (σ.set a ds) s) (hσ : σ a = none) : ∃ vs n, s.heap.get? a = some (lstO vs n) ∧ St G (H.put a (lstO vs n)) fs σ s := by
  obtain ⟨h0, vs, n, g, i⟩ := S.lists a ds (Sto.set_self ..)
  refine ⟨vs, n, g, (S.sub ?_).hide g not_frozen_list (.inr ⟨_, _, rfl⟩) h0 hσ⟩
  intro b es e
  rw [Sto.set_ne]; exact e
  rintro rfl; rw [hσ] at e; cases e
theorem St.showL {a : Addr} {ds : List D} {vs : List Value} {n : Nat} (S : St G (H.put a (lstO vs n)) fs σ s) (hH : H a = none) (hi : IsAll s.heap ds vs) : St G H fs (σ.set a ds) s := by
  obtain ⟨h0, g, nf, hσ, _⟩ := S.hid a (lstO vs n) (by simp [Hid.put])
  obtain ⟨S', _⟩ := S.unhide hH
  refine ⟨S'.keep, S'.gens, S'.os, fun b es e => ?_, S'.frames, S'.apart, fun b o e => ?_⟩
  · by_cases q : b = a
    · subst q; rw [Sto.set_self] at e; cases e; exact ⟨h0, vs, n, g, hi⟩
    · rw [Sto.set_ne _ _ q] at e; exact S'.lists b es e
  · obtain ⟨x, y, z, t, u⟩ := S'.hid b o e
    refine ⟨x, y, z, ?_, u⟩
    rw [Sto.set_ne]; exact t
    rintro rfl; rw [hH] at e; cases e

/-- the names that a comprehension takes from around it -/
def Imp (env cenv : Env) (m : Loc) : List (String × D) → Prop
  | [] => True
  | (x, d) :: r => (m x = some d ∧ cenv.kindOf (Str.ofString x) = some .cell ∧ env.kindOf (Str.ofString x) = some .cell ∧ cenv.cells.lookup (Str.ofString x) = env.cells.lookup (Str.ofString x)) ∧ Imp env cenv m r
theorem Imp.get {env cenv : Env} {m : Loc} : ∀ {il : List (String × D)}, Imp env cenv m il → ∀ {x d}, locOf il x = some d → m x = some d ∧ cenv.kindOf (Str.ofString x) = some .cell ∧ env.kindOf (Str.ofString x) = some .cell ∧ cenv.cells.lookup (Str.ofString x) = env.cells.lookup (Str.ofString x)
  | [], _, x, d, e => by simp [locOf] at e
  | (y, e') :: l, h, x, d, e => by
    by_cases q : x = y
    · subst q; rw [lk_hit] at e; cases e; exact h.1
    · have hb : (x == y) = false := by simpa using q
      unfold locOf at e
      rw [List.lookup_cons, hb] at e
      exact h.2.get e
def ClOk (env : Env) : List (Str × Addr) → Prop
  | [] => True
  | p :: r => env.cells.lookup p.1 = some p.2 ∧ ClOk env r
theorem ClOk.mem {env : Env} : ∀ {cl : List (Str × Addr)}, ClOk env cl → ∀ p ∈ cl, p ∈ env.cells
  | q :: r, h, p, hp => by
    rcases List.mem_cons.mp hp with rfl | hp
    · exact mem_of_lookup h.1
    · exact h.2.mem p hp

theorem St.reimp {cenv : Env} {cm : Loc} {il : List (String × D)} (S : St G H (⟨cenv, cm, false⟩ :: ⟨env, m, fn⟩ :: fs) σ s) (hi : Imp env cenv m il) : St G H (⟨cenv, locOf il, false⟩ :: ⟨env, m, fn⟩ :: fs) σ s := by
  refine ⟨S.keep, S.gens, S.os, S.lists, fun f hf => ?_, ⟨S.apart.1, (fun e => by cases e), S.apart.2.2⟩, S.hid⟩
  rcases List.mem_cons.mp hf with rfl | hf
  · obtain ⟨⟨⟨mv, ns, q⟩, c⟩, r⟩ := S.frames _ List.mem_cons_self
    refine ⟨⟨⟨mv, ns, fun x d e => ?_⟩, c⟩, r⟩
    obtain ⟨e1, e2, e3, e4⟩ := hi.get e
    obtain ⟨⟨⟨mv', ns', q'⟩, _⟩, _⟩ := S.frames _ (List.mem_cons_of_mem _ List.mem_cons_self)
    rcases q' x d e1 with ⟨k, _⟩ | ⟨_, c', v, k1, k2, k3⟩
    · have k' : env.kindOf (Str.ofString x) = some .local := k
      rw [e3] at k'; cases k'
    · exact .inr ⟨e2, c', v, e4.trans k1, k2, k3⟩
  · exact S.frames f (List.mem_cons_of_mem _ hf)
theorem Src.set {ds : List D} {d : D} {b : Addr} {ys : List D} (h : Src G σ ds d) (hσ : σ b = none) (hb : G.base b = none) : Src G (σ.set b ys) ds d := by
  cases d <;> simp only [Src] at h ⊢
  case lst a =>
    unfold rd at h ⊢
    by_cases q : a = b
    · subst q; rw [hσ, hb] at h; cases h
    · rw [Sto.set_ne _ _ q]; exact h
  case rng => exact h

/-- the tests of a comprehension -/
def Ct (prog : Program) (w : World) (A : Around) (G : Gnd) (fs : List Frm) (env : Env) (ifs : List Expr) (σ : Sto) (PB : Bool → Sto → Prop) : Prop :=
  Wb prog w A G fs σ (forIn ifs true fun c r => if r = true then do let ok ← isTrue c env (eval c env); pure (ForInStep.yield ok) else pure (ForInStep.yield r)) PB
theorem ct_nil (h : PB true σ) : Ct prog w A G fs env [] σ PB := fun H s S => wpAny_tests_nil ⟨Le.refl _, σ, S, h⟩
theorem ct_one {c : Expr} (h : Ts prog w A G fs env c σ PB) : Ct prog w A G fs env [c] σ PB := fun H s S => wpAny_tests_one (h H s S)

theorem comp_loop_any {elt target iter : Expr} {ifs : List Expr} {scope : Scope} {pos : Pos} {it acc : Value} {env : Env} {R : Result → Shared → Prop} (I : Nat → Shared → Prop)
    (turn : ∀ n s, I n s → wpAny (model prog w) A (pyNext it) (fun r s₁ => match r with
      | none => R (.ok .next) s₁
      | some v => wpAny (model prog w) A (letOwnedTupleGo target it v) (fun _ s₁' => wpAny (model prog w) A (assign target env v) (fun _ s₂ =>
          wpAny (model prog w) A (forIn ifs true fun c r => if r = true then do let ok ← isTrue c env (eval c env); pure (ForInStep.yield ok) else pure (ForInStep.yield r)) (fun ok s₃ =>
            if ok = true then wpAny (model prog w) A (eval elt env) (fun x s₄ =>
              wpAny (model prog w) A (call (.builtin "list.append") [acc, x]) (fun _ s₅ => ∃ m, m < n ∧ I m s₅) NoE s₄) NoE s₃
            else ∃ m, m < n ∧ I m s₃) NoE s₂) NoE s₁') NoE s₁) NoE s)
    (n : Nat) (h : I n s) : codeAny (model prog w) A (.compLoop (.ListComp elt [⟨target, iter, ifs, 0⟩] scope pos) 0 it acc env) R s := by
  refine codeAny_loop rfl I (fun n s hI => ?_) n h
  show wpAny _ A ((compTurn (.ListComp elt [⟨target, iter, ifs, 0⟩] scope pos) 0 it acc env).onRaise (fun x => do noteFrame x env; theTreesLotGoes x)) _ _ s
  refine wpAny_noted ?_
  rw [compTurn_list]
  refine wpAny_bind (wpAny_standAt (wpAny_bind (noE_elim (turn n s hI) fun r s₁ h₁ => ?_)))
  cases r with
  | none => exact wpAny_pure h₁
  | some v =>
    refine wpAny_bind (noE_elim h₁ fun _ s₁' h₁' => ?_)
    refine wpAny_bind (noE_elim h₁' fun _ s₂ h₂ => wpAny_bind (noE_elim h₂ fun ok s₃ h₃ => ?_))
    cases ok with
    | false => exact wpAny_pure ⟨rfl, h₃⟩
    | true => exact wpAny_bind (wpAny_bind (noE_elim h₃ fun x s₄ h₄ => wpAny_bind (noE_elim h₄ fun _ s₅ h₅ => wpAny_pure (wpAny_pure ⟨rfl, h₅⟩))))

theorem iter_self {d : D} {i : Nat} {It : Addr} {Q : Value → Shared → Prop} (ho : IterOk s.heap It d i) (h : Q (.ref It) s) : wpAny (model prog w) A (pyIter (.ref It)) Q E s := by
  obtain ⟨o, vs, g, nf, hd, k⟩ := ho
  cases d <;> simp only at k
  case lst a => exact wpAny_pyIter_listiter ⟨o, g, k.1, k.2⟩ h
  case rng x y => subst k; exact wpAny_pyIter_rangeiter g h

/-- what is asked of each item: it is kept as f tells, and the lists are as they were -/
def EltOk (prog : Program) (w : World) (A : Around) (G : Gnd) (fs : List Frm) (cenv : Env) (target elt : Expr) (ifs : List Expr) (il : List (String × D)) (σ : Sto) (e : D) (r : Option D) : Prop :=
  Sn prog w A G cenv false fs (assign target cenv) e (locOf il) σ fun m₁ σ₁ => Ct prog w A G (⟨cenv, m₁, false⟩ :: fs) cenv ifs σ₁ fun b σ₂ =>
    if b = true then Ev prog w A G (⟨cenv, m₁, false⟩ :: fs) cenv elt σ₂ fun d σ₃ => Sub σ σ₃ ∧ r = some d else Sub σ σ₂ ∧ r = none

theorem comp_core {elt target iter : Expr} {ifs : List Expr} {scope : Scope} {pos pos' : Pos} {cl : List (Str × Addr)} {use : Option (Value → Sem Unit)} {Q : Value → Shared → Prop} {Fin : Addr → Sto → Prop} (hh : A.handled = none)
    (hclos : closureFor scope env = pure cl) (hcell : ∀ y ∈ scope.names, y.2 ≠ .cell) (hkind : scope.kind = .function) (hnames : ∀ y ∈ scope.names, y.2 = .local → scope.names.lookup y.1 = some .local) (hcl : ClOk env cl)
    (S : St G H (⟨env, m, fn⟩ :: fs) σ s)
    (h : Ev prog w A G (⟨env, m, fn⟩ :: fs) env iter σ fun d σ₁ => ∃ (ds : List D) (f : D → Option D) (il : List (String × D)), TgtOk target d ∧ ((∃ elts x1 pos, target = .Tuple elts x1 pos) → ∀ e ∈ ds, ∃ es, e = .tup es) ∧ Src G σ₁ ds d ∧ ds.length ≤ 900 ∧
      (∀ C, Imp env (compEnvC scope cl C env) m il) ∧ (∀ C, ∀ e ∈ ds, EltOk prog w A G (⟨env, m, fn⟩ :: fs) (compEnvC scope cl C env) target elt ifs il σ₁ e (f e)) ∧
      (∀ b, σ₁ b = none → G.base b = none → Fin b (σ₁.set b (ds.filterMap f))))
    (hfin : ∀ b τ C cm s', Fin b τ → Le s.heap s'.heap → St G H (⟨compEnvC scope cl C env, cm, false⟩ :: ⟨env, m, fn⟩ :: fs) τ s' → compPost (model prog w) A NoE use Q (.ref b) C (.ok .next) s')
    (hs : ∀ x, foldedSetIterable iter env x = pure x) :
    wpAny (model prog w) A (comprehension (.ListComp elt [⟨target, iter, ifs, 0⟩] scope pos) scope env pos' (newList []) false (eval iter env) use) Q NoE s := by
  refine wpAny_comprehension_free rfl hs hclos hkind hnames (wpAny_mono (h H s S) (fun v s₁ ⟨l₁, d, σ₁, i₁, S₁, ds, f, il, hT, hTs, hsrc, hlen, himp, helt, hF⟩ => ?_) fun _ _ x => x)
  refine iter_make S₁ i₁ hsrc fun It h' kp hIt hok => ?_
  have hH : H It = none := by
    cases e : H It with
    | none => rfl
    | some o => have := (S₁.hid It o e).2.1; rw [hIt] at this; cases this
  have hB : G.h₀.get? It = none := (S₁.fresh hIt).2
  have hσI : σ₁ It = none := (S₁.fresh hIt).1
  have S₂ := S₁.grow (h' := h') s₁.toks kp
  have l₂ : Le s.heap h' := l₁.trans (Le.of_keeps kp)
  generalize hs₂ : ({ s₁ with heap := h' } : Shared) = s₂
  have S₂' : St G H (⟨env, m, fn⟩ :: fs) σ₁ s₂ := by rw [← hs₂]; exact S₂
  have l₂' : Le s.heap s₂.heap := by rw [← hs₂]; exact l₂
  have hok' : IterOk s₂.heap It d 0 := by rw [← hs₂]; exact hok
  clear S₂ l₂ hok hs₂
  -- the new list
  refine wpAny_newObj_type ?_ (by simp [sizeOk])
  have kp₃ := get?_push_ne' (h := s₂.heap) (o := { cls := .type "list", dict := none, data := .seq ([] : List Value).toArray })
  have hD : s₂.heap.get? s₂.heap.objs.size = none := get_none_of_size (Nat.le_refl _)
  have S₃ := S₂'.make (D := s₂.heap.objs.size) (ds := []) s₂.toks kp₃ hD (vs := []) (n := 0) (Heap.get?_push_size _ rfl) IsAll.nil
  have hσD := (S₂'.fresh hD).1
  have hbD := base_none S₂' hD
  have hHD : H s₂.heap.objs.size = none := by
    cases e : H s₂.heap.objs.size with
    | none => rfl
    | some o => have := (S₂'.hid _ o e).2.1; rw [hD] at this; cases this
  have hID : It ≠ s₂.heap.objs.size := by
    rintro q; obtain ⟨o, vs, g, _⟩ := hok'; rw [q, hD] at g; cases g
  have hok₃ : IterOk (s₂.heap.push { cls := .type "list", dict := none, data := .seq ([] : List Value).toArray }) It d 0 := by
    obtain ⟨o, vs, g, r⟩ := hok'; exact ⟨o, vs, kp₃ _ _ g, r⟩
  have l₃ : Le s.heap (s₂.heap.push { cls := .type "list", dict := none, data := .seq ([] : List Value).toArray }) := l₂'.trans (Le.of_keeps kp₃)
  generalize hs₃ : ({ s₂ with heap := s₂.heap.push { cls := .type "list", dict := none, data := .seq ([] : List Value).toArray } } : Shared) = s₃
  replace S₃ : St G H (⟨env, m, fn⟩ :: fs) (σ₁.set s₂.heap.objs.size []) s₃ := by rw [← hs₃]; exact S₃
  replace hok₃ : IterOk s₃.heap It d 0 := by rw [← hs₃]; exact hok₃
  replace l₃ : Le s.heap s₃.heap := by rw [← hs₃]; exact l₃
  clear hs₃ kp₃
  generalize s₂.heap.objs.size = Dd at *
  -- the frame
  refine wpAny_newFunctionEnv hcell (by intro y hy; simp at hy) (fun h₁ hns hsb => ?_) hkind
  have kp₄ : ∀ b o, s₃.heap.get? b = some o → h₁.get? b = some o := fun b o e => hsb.extBut b o (Nat.ne_of_lt (Heap.lt_size e)) (get?_push_ne' b o e)
  have fr := S₃.frames _ List.mem_cons_self
  have S₄ : St G H (⟨compEnvC scope cl s₃.heap.objs.size env, fun _ => none, false⟩ :: ⟨env, m, fn⟩ :: fs) (σ₁.set Dd []) { s₃ with heap := h₁, toks := s₃.toks + ([] : List (Str × Value)).length } := by
    refine S₃.pushF _ kp₄ ⟨⟨_, hns, fun x d e => by cases e⟩, fun p hp => ?_⟩ (get_none_of_size (Nat.le_refl _)) (fun p hp => fr.2.2 p (hcl.mem p hp)) fun e => by cases e
    obtain ⟨v, i⟩ := fr.1.2 p (hcl.mem p hp)
    exact ⟨v, i.keeps kp₄⟩
  have hok₄ : IterOk ({ s₃ with heap := h₁, toks := s₃.toks + ([] : List (Str × Value)).length } : Shared).heap It d 0 := by obtain ⟨o, vs, g, r⟩ := hok₃; exact ⟨o, vs, kp₄ _ _ g, r⟩
  have l₄ : Le s.heap ({ s₃ with heap := h₁, toks := s₃.toks + ([] : List (Str × Value)).length } : Shared).heap := l₃.trans (Le.of_keeps kp₄)
  generalize s₃.heap.objs.size = C at *
  generalize ({ s₃ with heap := h₁, toks := s₃.toks + ([] : List (Str × Value)).length } : Shared) = s₄ at *
  have loop : codeAny (model prog w) A (.compLoop (.ListComp elt [⟨target, iter, ifs, 0⟩] scope pos) 0 (.ref It) (.ref Dd) (compEnvC scope cl C env)) (compPost (model prog w) A NoE use Q (.ref Dd) C) s₄ := by
    refine comp_loop_any (fun k s' => ∃ i cm, k = ds.length + 1 - i ∧ i ≤ ds.length ∧ Le s.heap s'.heap ∧ St G H (⟨compEnvC scope cl C env, cm, false⟩ :: ⟨env, m, fn⟩ :: fs) (σ₁.set Dd ((ds.take i).filterMap f)) s' ∧ IterOk s'.heap It d i) ?_ (ds.length + 1)
      ⟨0, _, rfl, Nat.zero_le _, l₄, by simpa using S₄, hok₄⟩
    rintro k s' ⟨i, cm, rfl, hi, l, S', hok'⟩
    by_cases hlt : i < ds.length
    · obtain ⟨e, he⟩ : ∃ e, ds[i]? = some e := ⟨ds[i], by simp [hlt]⟩
      have hem : e ∈ ds := List.mem_of_getElem? he
      refine iter_next hh S' (hsrc.set hσD hbD) hok' he fun v h₃ tk iv hok₃ kp₃ => ?_
      obtain ⟨o, vs, g, nf, hd, _⟩ := id hok'
      obtain ⟨l₃, S₃⟩ := S'.skip g nf hd hB hH tk kp₃
      have iv₃ : Is h₃ e v := iv.mono l₃
      have go : ∀ {Q : Unit → Shared → Prop} {E'}, Q () { s' with heap := h₃, toks := tk } → wpAny (model prog w) A (letOwnedTupleGo target (.ref It) v) Q E' { s' with heap := h₃, toks := tk } := fun hq => by
        rcases hT with ⟨x, p, rfl⟩ | ⟨hx, a, rfl⟩
        · exact let_go hok₃ (.inr fun _ => rfl) (.inr fun _ => rfl) hq
        · obtain ⟨elts, x1, pos', rfl⟩ := hx
          obtain ⟨es, rfl⟩ := hTs ⟨elts, x1, pos', rfl⟩ e hem
          exact let_go hok₃ (.inl ⟨a, rfl⟩) (.inl ⟨elts, x1, pos', rfl, is_ref_of_tup iv₃⟩) hq
      refine go ?_
      obtain ⟨o₃, vs₃, g₃, nf₃, hd₃, k₃⟩ := id hok₃
      obtain ⟨ws, nw, gw, S₅⟩ := (S₃.reimp (himp C)).hideL hσD
      have iw : IsAll h₃ ((ds.take i).filterMap f) ws := by
        obtain ⟨_, ws', nw', gw', iw'⟩ := S₃.lists Dd _ (Sto.set_self ..)
        have gw2 : h₃.get? Dd = some (lstO ws nw) := gw
        have gw3 : h₃.get? Dd = some (lstO ws' nw') := gw'
        rw [gw2] at gw3
        have := congrArg Obj.data (Option.some.inj gw3)
        simp only [Data.seq.injEq] at this
        have hww : ws = ws' := by simpa using this.1
        subst hww; exact iw'
      have hHD' : H.put Dd (lstO ws nw) It = none := by unfold Hid.put; rw [if_neg hID]; exact hH
      have S₆ := S₅.hide g₃ nf₃ (.inl ⟨_, hd₃⟩) hB hσI
      refine wpAny_mono (helt C e hem _ _ v S₆ iv₃) (fun _ s₅ ⟨l₅, m₅, σ₅, S₇, ex⟩ => ?_) fun _ _ x => x
      refine wpAny_mono (ex _ _ S₇) (fun b s₆ ⟨l₆, σ₆, S₈, ex⟩ => ?_) fun _ _ x => x
      have htake : ds.take (i + 1) = ds.take i ++ [e] := by rw [List.take_add_one, he]; rfl
      cases b with
      | false =>
        simp only [Bool.false_eq_true, if_false] at ex ⊢
        obtain ⟨sb, hf⟩ := ex
        obtain ⟨S₉, g₉⟩ := (S₈.sub sb).unhide hHD'
        have S₁₀ := S₉.showL hHD (iw.mono (l₅.trans l₆))
        refine ⟨ds.length + 1 - (i + 1), by omega, i + 1, m₅, rfl, hlt, ((l.trans l₃).trans l₅).trans l₆, ?_, ⟨o₃, vs₃, g₉, nf₃, hd₃, k₃⟩⟩
        rw [htake, List.filterMap_append]
        simpa [hf] using S₁₀
      | true =>
        simp only [if_true] at ex ⊢
        refine wpAny_mono (ex _ _ S₈) (fun y s₇ ⟨l₇, dy, σ₇, iy, S₉, sb, hf⟩ => ?_) fun _ _ x => x
        obtain ⟨S₁₀, g₁₀⟩ := (S₉.sub sb).unhide hHD'
        have S₁₁ := S₁₀.showL hHD (iw.mono ((l₅.trans l₆).trans l₇))
        have hl2 : ((ds.take i).filterMap f).length ≤ 1000 := by
          have h1 := List.length_filterMap_le f (ds.take i)
          have h2 : (ds.take i).length ≤ ds.length := by simp; omega
          omega
        have hne : It ≠ Dd := hID
        -- the iterator stays through the append
        have hσI' : (σ₁.set Dd ((ds.take i).filterMap f)) It = none := by rw [Sto.set_ne _ _ hID]; exact hσI
        have S₁₂ := S₁₁.hide g₁₀ nf₃ (.inl ⟨_, hd₃⟩) hB hσI'
        refine wpAny_mono (cl_append (d := dy) (P := fun d τ => τ = σ₁.set Dd ((ds.take i).filterMap f ++ [dy])) (Sto.set_self ..) hl2 (by rw [Sto.set_set]) _ _ _ S₁₂ (IsAll.cons (is_lst.mpr rfl) (IsAll.cons iy IsAll.nil))) (fun _ s₈ ⟨l₈, _, τ, _, S₁₃, hτ⟩ => ?_) fun _ _ x => x
        subst hτ
        obtain ⟨S₁₄, g₁₄⟩ := S₁₃.unhide hH
        refine ⟨ds.length + 1 - (i + 1), by omega, i + 1, m₅, rfl, hlt, ((((l.trans l₃).trans l₅).trans l₆).trans l₇).trans l₈, ?_, ⟨o₃, vs₃, g₁₄, nf₃, hd₃, k₃⟩⟩
        rw [htake, List.filterMap_append]
        simpa [hf] using S₁₄
    · have hi' : i = ds.length := by omega
      subst hi'
      refine iter_end hh S' (hsrc.set hσD hbD) hok' fun h₃ tk kp₃ => ?_
      obtain ⟨o, vs, g, nf, hd, _⟩ := id hok'
      obtain ⟨l₃, S₃⟩ := S'.skip g nf hd hB hH tk kp₃
      refine hfin Dd _ C cm _ (hF Dd hσD hbD) (l.trans l₃) ?_
      simpa using S₃
  exact codeAny_compStart_list loop (iter_self hok₄ loop)

theorem ev_comp {elt target iter : Expr} {ifs : List Expr} {scope : Scope} {pos : Pos} {cl : List (Str × Addr)} (hh : A.handled = none)
    (hclos : closureFor scope env = pure cl) (hcl : ClOk env cl)
    (h : Ev prog w A G (⟨env, m, fn⟩ :: fs) env iter σ fun d σ₁ => ∃ (ds : List D) (f : D → Option D) (il : List (String × D)), TgtOk target d ∧ ((∃ elts x1 pos, target = .Tuple elts x1 pos) → ∀ e ∈ ds, ∃ es, e = .tup es) ∧ Src G σ₁ ds d ∧ ds.length ≤ 900 ∧
      (∀ C, Imp env (compEnvC scope cl C env) m il) ∧ (∀ C, ∀ e ∈ ds, EltOk prog w A G (⟨env, m, fn⟩ :: fs) (compEnvC scope cl C env) target elt ifs il σ₁ e (f e)) ∧
      (∀ b, σ₁ b = none → G.base b = none → P (.lst b) (σ₁.set b (ds.filterMap f))))
    (hcell : ∀ y ∈ scope.names, y.2 ≠ .cell := by decide) (hkind : scope.kind = .function := by rfl) (hnames : ∀ y ∈ scope.names, y.2 = .local → scope.names.lookup y.1 = some .local := by decide)
    (hs : ∀ x, foldedSetIterable iter env x = pure x := by intro _; rfl) : Ev prog w A G (⟨env, m, fn⟩ :: fs) env (.ListComp elt [⟨target, iter, ifs, 0⟩] scope pos) σ P := fun H s S => by
  rw [eval_ListComp]
  refine comp_core (use := none) (Fin := fun b τ => P (.lst b) τ) hh hclos hcell hkind hnames hcl S h (fun b τ C cm s' hp l S' => ?_) hs
  obtain ⟨⟨⟨mv, hmv, _⟩, _⟩, _⟩ := S'.frames _ List.mem_cons_self
  refine ⟨mv, hmv, fun h' hsb => ?_⟩
  obtain ⟨l', S''⟩ := S'.dropF s'.toks hsb
  exact ⟨l.trans l', .lst b, τ, is_lst.mpr rfl, S'', hp⟩

theorem ex_letcomp {x : String} {py spos : Pos} {elt target iter : Expr} {ifs : List Expr} {scope : Scope} {pos : Pos} {cl : List (Str × Addr)} {l : List (String × D)} (hh : A.handled = none)
    (hclos : closureFor scope env = pure cl) (hcl : ClOk env cl)
    (h : Ev prog w A G (⟨env, locOf l, fn⟩ :: fs) env iter σ fun d σ₁ => ∃ (ds : List D) (f : D → Option D) (il : List (String × D)), TgtOk target d ∧ ((∃ elts x1 pos, target = .Tuple elts x1 pos) → ∀ e ∈ ds, ∃ es, e = .tup es) ∧ Src G σ₁ ds d ∧ ds.length ≤ 900 ∧
      (∀ C, Imp env (compEnvC scope cl C env) (locOf l) il) ∧ (∀ C, ∀ e ∈ ds, EltOk prog w A G (⟨env, locOf l, fn⟩ :: fs) (compEnvC scope cl C env) target elt ifs il σ₁ e (f e)) ∧
      (∀ b, σ₁ b = none → G.base b = none → PF .next (locOf ((x, .lst b) :: l)) (σ₁.set b (ds.filterMap f))))
    (hsw : swapsWith (.ListComp elt [⟨target, iter, ifs, 0⟩] scope pos) (some (.Name (Str.ofString x) py)) spos.line env = pure true := by rfl)
    (hl : env.kindOf (Str.ofString x) = some .local ∨ (fn = true ∧ env.kindOf (Str.ofString x) = some .cell ∧ (env.cells.lookup (Str.ofString x)).isSome = true) := by first | exact .inl rfl | exact .inr ⟨rfl, rfl, rfl⟩)
    (hk : env.scope.kind = .function := by rfl)
    (hcell : ∀ y ∈ scope.names, y.2 ≠ .cell := by decide) (hkind : scope.kind = .function := by rfl) (hnames : ∀ y ∈ scope.names, y.2 = .local → scope.names.lookup y.1 = some .local := by decide)
    (hs : ∀ x, foldedSetIterable iter env x = pure x := by intro _; rfl) : Ex1 prog w A G env fn fs (.Assign [.Name (Str.ofString x) py] (.ListComp elt [⟨target, iter, ifs, 0⟩] scope pos) spos) (locOf l) σ PF := fun H s S => by
  rw [exec_Assign_Name_used _ _ _ _ hsw]
  refine wpAny_bind (wpAny_standAt (wpAny_bind ?_))
  show wpAny _ A (do let _ ← comprehension (.ListComp elt [⟨target, iter, ifs, 0⟩] scope pos) scope env _ (newList []) false (eval iter env) (some (assign (.Name (Str.ofString x) py) env))) _ _ s
  refine wpAny_bind (wpAny_mono (comp_core (use := some (assign (.Name (Str.ofString x) py) env)) (Q := fun _ s' => PostF G H env fn fs s PF .next s') (Fin := fun b τ => PF .next (locOf ((x, .lst b) :: l)) τ) hh hclos hcell hkind hnames hcl S h (fun b τ C cm s' hp le S' => ?_) hs)
    (fun _ s' hq => wpAny_pure (wpAny_pure hq)) fun _ _ e => e)
  obtain ⟨⟨⟨mv, hmv, _⟩, _⟩, _⟩ := S'.frames _ List.mem_cons_self
  show wpAny _ A (assign (.Name (Str.ofString x) py) env (.ref b)) _ _ _
  have hCL : (compEnvC scope cl C env).locals ≠ env.locals := S'.apart.1 _ List.mem_cons_self
  have fin : ∀ h₁ tk, (∀ o, s'.heap.get? C = some o → h₁.get? C = some o) → Le s'.heap h₁ → St G H (⟨env, (locOf l).put x (.lst b), fn⟩ :: fs) τ { s' with heap := h₁, toks := tk } → (∀ f ∈ (⟨env, (locOf l).put x (.lst b), fn⟩ : Frm) :: fs, C ≠ f.env.locals) → G.h₀.get? C = none →
      ∃ m', ({ s' with heap := h₁, toks := tk } : Shared).heap.Ns C m' ∧ ∀ h', Heap.SameBut C ({ s' with heap := h₁, toks := tk } : Shared).heap h' → PostF G H env fn fs s PF .next { ({ s' with heap := h₁, toks := tk } : Shared) with heap := h' } := fun h₁ tk kC l₁ S₁ hne hC0 => by
    have hn : h₁.Ns C mv := Heap.Ns.at' hmv kC
    refine ⟨mv, hn, fun h' hsb => ?_⟩
    have S₂ : St G H (⟨{ compEnvC scope cl C env with cells := [] }, fun _ => none, false⟩ :: ⟨env, (locOf l).put x (.lst b), fn⟩ :: fs) τ { s' with heap := h₁, toks := tk } :=
      ⟨S₁.keep, S₁.gens, S₁.os, S₁.lists, fun f hf => by
        rcases List.mem_cons.mp hf with rfl | hf
        · exact ⟨⟨⟨mv, hn, fun x d e => by cases e⟩, fun p hp => by cases hp⟩, hC0, fun p hp => by cases hp⟩
        · exact S₁.frames f hf, ⟨hne, (fun e => by cases e), S₁.apart⟩, S₁.hid⟩
    obtain ⟨l₂, S₃⟩ := S₂.dropF tk hsb
    exact ⟨(le.trans l₁).trans l₂, .next, _, τ, rfl, S₃, by rw [put_loc]; exact hp⟩
  have hne : ∀ f ∈ (⟨env, (locOf l).put x (.lst b), fn⟩ : Frm) :: fs, C ≠ f.env.locals := fun f hf => by
    rcases List.mem_cons.mp hf with rfl | hf
    · exact hCL
    · exact S'.apart.1 f (List.mem_cons_of_mem _ hf)
  have hC0 : G.h₀.get? C = none := (S'.frames _ List.mem_cons_self).2.1
  rcases hl with hl | ⟨rfl, hl, hc⟩
  · obtain ⟨mv', hmv', k⟩ := S'.popF.store x (d := .lst b) hl (is_lst.mpr rfl)
    refine wpAny_assign_Name (wpAny_storeName_local hl hmv' (fun h₁ hn hsb => ?_) (by rw [hk]; rfl))
    exact fin h₁ (s'.toks + 1) (fun o e => hsb.extBut _ o hCL e) (k h₁ (s'.toks + 1) hn hsb).1 (k h₁ (s'.toks + 1) hn hsb).2 hne hC0
  · obtain ⟨c, hc⟩ := Option.isSome_iff_exists.mp hc
    obtain ⟨v₀, hv₀, k⟩ := S'.popF.storeC x (d := .lst b) hl hc (is_lst.mpr rfl)
    refine wpAny_assign_Name (wpAny_storeName_cell hk hl hc hv₀ fun h₁ hn hsb => ?_)
    exact fin h₁ s'.toks (fun o e => hsb.extBut _ o (Ne.symm (ns_ne_cell hmv hv₀)) e) (k h₁ s'.toks hn hsb).1 (k h₁ s'.toks hn hsb).2 hne hC0
end Hq

-- HqS
open PySem PySem.W PyProof.Rows
set_option Elab.async false
set_option linter.unusedVariables false
namespace Hq
/- the sort's tree of questions, answered by a strict total order on the indices below N -/
def Good {α : Type} (N : Nat) (lt : Nat → Nat → Bool) : KasT α → (α → Prop) → Prop
  | .ret a, Q => Q a
  | .ask i j k, Q => i < N ∧ j < N ∧ Good N lt (k (lt i j)) Q
theorem Good.mono {α : Type} {N : Nat} {lt : Nat → Nat → Bool} {Q Q' : α → Prop} (hq : ∀ a, Q a → Q' a) : ∀ {t : KasT α}, Good N lt t Q → Good N lt t Q'
  | .ret a, h => hq a h
  | .ask i j k, ⟨a, b, c⟩ => ⟨a, b, Good.mono hq c⟩
theorem Good.bind {α β : Type} {N : Nat} {lt : Nat → Nat → Bool} {f : α → KasT β} {Q : β → Prop} : ∀ {t : KasT α}, Good N lt t (fun a => Good N lt (f a) Q) → Good N lt (t.bind f) Q
  | .ret a, h => h
  | .ask i j k, ⟨a, b, c⟩ => ⟨a, b, Good.bind c⟩
theorem Good.wp {α : Type} {N : Nat} {lt : Nat → Nat → Bool} {cmp : Nat → Nat → (Bool → Shared → Prop) → Shared → Prop} {s : Shared} (hc : ∀ i j C, i < N → j < N → C (lt i j) s → cmp i j C s) {Qp : α → Prop} {Q : α → Shared → Prop} (hq : ∀ a, Qp a → Q a s) :
    ∀ {t : KasT α}, Good N lt t Qp → t.kasWp cmp Q s
  | .ret a, h => hq a h
  | .ask i j k, ⟨a, b, c⟩ => hc i j _ a b (Good.wp hc hq c)

section
variable {N : Nat} {lt : Nat → Nat → Bool} {p : Array Nat}
structure Ord (N : Nat) (lt : Nat → Nat → Bool) : Prop where
  tot : ∀ i j, i < N → j < N → i ≠ j → lt i j = false → lt j i = true
  asym : ∀ i j, i < N → j < N → lt i j = true → lt j i = false
  trans : ∀ i j k, i < N → j < N → k < N → lt i j = true → lt j k = true → lt i k = true
def Pm (N : Nat) (p : Array Nat) : Prop := p.toList.Perm (List.range N)
theorem Pm.size (h : Pm N p) : p.size = N := by have := List.Perm.length_eq h; simpa using this
theorem getD_lt (h : Pm N p) {i : Nat} (hi : i < N) : p.getD i 0 < N := by
  have hs := h.size
  have : p.getD i 0 ∈ p.toList := by simp [Array.getD, hs, hi]
  have := h.mem_iff.mp this
  simpa using this
theorem getD_ne (h : Pm N p) {i j : Nat} (hi : i < N) (hj : j < N) (hne : i ≠ j) : p.getD i 0 ≠ p.getD j 0 := by
  have hs := h.size
  have hn : p.toList.Nodup := h.nodup_iff.mpr List.nodup_range
  have e1 : p.getD i 0 = p.toList[i]'(by simp [hs, hi]) := by simp [Array.getD, hs, hi]
  have e2 : p.getD j 0 = p.toList[j]'(by simp [hs, hj]) := by simp [Array.getD, hs, hj]
  rw [e1, e2]
  intro e
  exact hne ((List.getElem_inj hn).mp e)
theorem getD_of {q : Array Nat} {i j : Nat} (h : q[i]? = p[j]?) : q.getD i 0 = p.getD j 0 := by
  rw [Array.getD_eq_getD_getElem?, Array.getD_eq_getD_getElem?, h]
abbrev gt (p : Array Nat) (i : Nat) : Nat := p.getD i 0
def Srt (lt : Nat → Nat → Bool) (p : Array Nat) (k : Nat) : Prop := ∀ i j, i < j → j < k → lt (p.getD i 0) (p.getD j 0) = true
def Dsc (lt : Nat → Nat → Bool) (p : Array Nat) (k : Nat) : Prop := ∀ i j, i < j → j < k → lt (p.getD j 0) (p.getD i 0) = true
variable (O : Ord N lt) (hp : Pm N p)
include O hp

theorem asc_good : ∀ (f n : Nat), 1 ≤ n → n + f ≤ N → Srt lt p n → Good N lt (kas_asc p f n) fun r => n ≤ r ∧ r ≤ n + f ∧ Srt lt p r ∧ (r = n + f ∨ (r < N ∧ lt (p.getD r 0) (p.getD (r - 1) 0) = true))
  | 0, n, h1, h2, hs => ⟨Nat.le_refl _, Nat.le_refl _, hs, .inl rfl⟩
  | f + 1, n, h1, h2, hs => by
    unfold kas_asc
    refine ⟨getD_lt hp (by omega), getD_lt hp (by omega), ?_⟩
    by_cases c : lt (p.getD n 0) (p.getD (n - 1) 0) = true
    · rw [c]; simp only [if_true]
      exact ⟨Nat.le_refl _, by omega, hs, .inr ⟨by omega, c⟩⟩
    · simp only [Bool.not_eq_true] at c
      rw [c]; simp only [Bool.false_eq_true, if_false]
      have hlt := O.tot _ _ (getD_lt hp (i := n) (by omega)) (getD_lt hp (i := n - 1) (by omega)) (getD_ne hp (by omega) (by omega) (by omega)) c
      have hs' : Srt lt p (n + 1) := fun i j hij hj => by
        by_cases e : j = n
        · subst e
          by_cases e' : i = j - 1
          · rw [e']; exact hlt
          · exact O.trans _ _ _ (getD_lt hp (by omega)) (getD_lt hp (i := j - 1) (by omega)) (getD_lt hp (by omega)) (hs i (j - 1) (by omega) (by omega)) hlt
        · exact hs i j hij (by omega)
      refine Good.mono (fun r hr => ?_) (asc_good f (n + 1) (by omega) (by omega) hs')
      obtain ⟨a, b, c, d⟩ := hr
      exact ⟨by omega, by omega, c, d.imp (by omega) id⟩

theorem desc_good : ∀ (f n : Nat), 1 ≤ n → n + f ≤ N → Dsc lt p n → Good N lt (kas_desc f p n 0) fun r => r.1 = p ∧ r.2.2 = 0 ∧ n ≤ r.2.1 ∧ r.2.1 ≤ n + f ∧ Dsc lt p r.2.1
  | 0, n, h1, h2, hs => ⟨rfl, rfl, Nat.le_refl _, Nat.le_refl _, hs⟩
  | f + 1, n, h1, h2, hs => by
    unfold kas_desc
    refine ⟨getD_lt hp (by omega), getD_lt hp (by omega), ?_⟩
    by_cases c : lt (p.getD n 0) (p.getD (n - 1) 0) = true
    · rw [c]; simp only [if_true, Nat.lt_irrefl, gt_iff_lt, if_false]
      have hs' : Dsc lt p (n + 1) := fun i j hij hj => by
        by_cases e : j = n
        · subst e
          by_cases e' : i = j - 1
          · rw [e']; exact c
          · exact O.trans _ _ _ (getD_lt hp (by omega)) (getD_lt hp (i := j - 1) (by omega)) (getD_lt hp (by omega)) c (hs i (j - 1) (by omega) (by omega))
        · exact hs i j hij (by omega)
      refine Good.mono (fun r hr => ?_) (desc_good f (n + 1) (by omega) (by omega) hs')
      obtain ⟨a, b, c, d, e⟩ := hr
      exact ⟨a, b, by omega, by omega, e⟩
    · simp only [Bool.not_eq_true] at c
      rw [c]; simp only [Bool.false_eq_true, if_false]
      have hlt := O.tot _ _ (getD_lt hp (i := n) (by omega)) (getD_lt hp (i := n - 1) (by omega)) (getD_ne hp (by omega) (by omega) (by omega)) c
      refine ⟨getD_lt hp (by omega), getD_lt hp (by omega), ?_⟩
      rw [hlt]; simp only [if_true]
      exact ⟨rfl, rfl, Nat.le_refl _, Nat.le_add_right _ _, hs⟩

theorem rev_sorted {n : Nat} (hn : n ≤ N) (h : Dsc lt p n) : Srt lt (kas_rev p 0 n) n ∧ Pm N (kas_rev p 0 n) := by
  refine ⟨fun i j hij hj => ?_, (mirror_perm p 0 n _).toList.trans hp⟩
  have e : ∀ k, k < n → (kas_rev p 0 n).getD k 0 = p.getD (n - 1 - k) 0 := fun k hk => getD_of (by
    unfold kas_rev
    rw [getElem?_mirror_all (by rw [hp.size]; exact hn), if_pos (by omega)]
    congr 1; omega)
  rw [e i (by omega), e j hj]
  exact h _ _ (by omega) (by omega)

theorem count_good (hN : 2 ≤ N) : Good N lt (kas_count N p) fun r => r.1 ≤ N ∧ Pm N r.2 ∧ Srt lt r.2 r.1 := by
  unfold kas_count
  refine Good.bind (Good.mono (fun n hn => ?_) (asc_good O hp (N - 1) 1 (by omega) (by omega) (fun i j _ _ => by omega)))
  obtain ⟨a, b, c, d⟩ := hn
  by_cases e : (n == N) = true
  · rw [if_pos e]; exact ⟨by omega, hp, c⟩
  · rw [if_neg e]
    have hne : n ≠ N := by simpa using e
    have hlt : n < N := by omega
    by_cases h1 : n > 1
    · rw [if_pos h1]
      refine ⟨getD_lt hp (by omega), getD_lt hp (by omega), ?_⟩
      rw [c 0 (n - 1) (by omega) (by omega)]
      simp only [if_true]
      exact ⟨by omega, hp, c⟩
    · rw [if_neg h1]
      have hn1 : n = 1 := by omega
      subst hn1
      have hd : lt (p.getD 1 0) (p.getD 0 0) = true := by
        rcases d with d | d
        · omega
        · exact d.2
      unfold kas_descPart
      have hds : Dsc lt p 2 := fun i j hij hj => by
        have : i = 0 := by omega
        have : j = 1 := by omega
        subst_vars; exact hd
      refine Good.bind (Good.mono (fun r hr => ?_) (desc_good O hp (N - (1 + 1)) (1 + 1) (by omega) (by omega) hds))
      obtain ⟨e1, e2, e3, e4, e5⟩ := hr
      rw [if_neg (by omega), e1]
      unfold kas_tail3
      obtain ⟨hs, hpm⟩ := rev_sorted O hp (n := r.2.1) (by omega) e5
      refine Good.bind (Good.mono (fun m hm => ?_) (asc_good O hpm (N - r.2.1) r.2.1 (by omega) (by omega) hs))
      exact ⟨by omega, hpm, hm.2.2.1⟩

theorem place_good {k : Nat} (hk : k < N) : ∀ (f l r : Nat), l ≤ r → r ≤ k → r - l ≤ f → (∀ i, i < l → lt (p.getD k 0) (p.getD i 0) = false) → (∀ i, r ≤ i → i < k → lt (p.getD k 0) (p.getD i 0) = true) → Srt lt p k →
    Good N lt (kas_place p k f l r) fun c => c ≤ k ∧ (∀ i, i < c → lt (p.getD k 0) (p.getD i 0) = false) ∧ (∀ i, c ≤ i → i < k → lt (p.getD k 0) (p.getD i 0) = true)
  | 0, l, r, h1, h2, h3, a, b, hs => by
    have : l = r := by omega
    subst this
    exact ⟨h2, a, b⟩
  | f + 1, l, r, h1, h2, h3, a, b, hs => by
    unfold kas_place
    by_cases hge : l ≥ r
    · rw [if_pos hge]
      have : l = r := by omega
      subst this
      exact ⟨h2, a, b⟩
    · rw [if_neg hge]
      refine ⟨getD_lt hp (by omega), getD_lt hp (by omega), ?_⟩
      by_cases c : lt (p.getD k 0) (p.getD ((l + r) / 2) 0) = true
      · rw [c]; simp only [if_true]
        refine place_good hk f l ((l + r) / 2) (by omega) (by omega) (by omega) a (fun i hi hik => ?_) hs
        by_cases e : i = (l + r) / 2
        · rw [e]; exact c
        · exact O.trans _ _ _ (getD_lt hp hk) (getD_lt hp (i := (l + r) / 2) (by omega)) (getD_lt hp (by omega)) c (hs _ _ (by omega) hik)
      · simp only [Bool.not_eq_true] at c
        rw [c]; simp only [Bool.false_eq_true, if_false]
        refine place_good hk f ((l + r) / 2 + 1) r (by omega) h2 (by omega) (fun i hi => ?_) b hs
        by_cases e : i = (l + r) / 2
        · rw [e]; exact c
        · have h4 := O.tot _ _ (getD_lt hp hk) (getD_lt hp (i := (l + r) / 2) (by omega)) (getD_ne hp hk (by omega) (by omega)) c
          have h5 := hs i ((l + r) / 2) (by omega) (by omega)
          exact O.asym _ _ (getD_lt hp (by omega)) (getD_lt hp hk) (O.trans _ _ _ (getD_lt hp (by omega)) (getD_lt hp (i := (l + r) / 2) (by omega)) (getD_lt hp hk) h5 h4)

omit hp in
theorem bin_good : ∀ (f : Nat) (p : Array Nat) (k : Nat), Pm N p → k + f = N → Srt lt p k → Good N lt (kas_bin f p k) fun q => Pm N q ∧ Srt lt q N
  | 0, p, k, hp, h, hs => by
    have : k = N := by omega
    subst this; exact ⟨hp, hs⟩
  | f + 1, p, k, hp, h, hs => by
    unfold kas_bin
    have hk : k < N := by omega
    refine Good.bind (Good.mono (fun l hl => ?_) (place_good O hp hk k 0 k (by omega) (by omega) (by omega) (fun i hi => by omega) (fun i _ _ => by omega) hs))
    obtain ⟨h1, h2, h3⟩ := hl
    have hpm : Pm N (bubble p k (k - l)) := (bubble_perm p k _).toList.trans hp
    refine bin_good f _ (k + 1) hpm (by omega) fun i j hij hj => ?_
    have e : ∀ i, (bubble p k (k - l)).getD i 0 = if i = l then p.getD k 0 else if l < i ∧ i ≤ k then p.getD (i - 1) 0 else p.getD i 0 := fun i => by
      have := getElem?_bubble (xs := p) (src := k) (by rw [hp.size]; exact hk) (k - l) (by omega) i
      rw [show k - (k - l) = l by omega] at this
      by_cases c1 : i = l
      · rw [if_pos c1] at this ⊢; exact getD_of this
      · rw [if_neg c1] at this ⊢
        by_cases c2 : l < i ∧ i ≤ k
        · rw [if_pos c2] at this ⊢; exact getD_of this
        · rw [if_neg c2] at this ⊢; exact getD_of this
    have low : ∀ i, i < l → lt (p.getD i 0) (p.getD k 0) = true := fun i hi => O.tot _ _ (getD_lt hp hk) (getD_lt hp (by omega)) (getD_ne hp hk (by omega) (by omega)) (h2 i hi)
    rw [e i, e j]
    by_cases ci : i = l
    · rw [if_pos ci, if_neg (by omega), if_pos (by omega)]
      exact h3 _ (by omega) (by omega)
    · rw [if_neg ci]
      by_cases ci2 : l < i ∧ i ≤ k
      · rw [if_pos ci2, if_neg (by omega), if_pos (by omega)]
        exact hs _ _ (by omega) (by omega)
      · rw [if_neg ci2]
        by_cases cj : j = l
        · rw [if_pos cj]; exact low i (by omega)
        · rw [if_neg cj]
          by_cases cj2 : l < j ∧ j ≤ k
          · rw [if_pos cj2]; exact (by
              by_cases q : i = j - 1
              · omega
              · exact hs _ _ (by omega) (by omega))
          · rw [if_neg cj2]; exact hs _ _ hij (by omega)
omit hp in
theorem sort_good (hN : 2 ≤ N) : Good N lt (kas_sort N) fun q => Pm N q ∧ Srt lt q N := by
  unfold kas_sort
  have h0 : Pm N (List.toArray (List.range N)) := by unfold Pm; simp
  refine Good.bind (Good.mono (fun r hr => ?_) (count_good O h0 hN))
  obtain ⟨h1, h2, h3⟩ := hr
  by_cases c : r.1 < N
  · rw [if_pos c]
    by_cases c0 : r.1 = 0
    · rw [c0]
      exact bin_good O _ _ _ h2 (by omega) (fun i j _ _ => by omega)
    · have : max r.1 1 = r.1 := by omega
      rw [this]
      exact bin_good O _ _ _ h2 (by omega) h3
  · rw [if_neg c]
    have : r.1 = N := by omega
    rw [this] at h3
    exact ⟨h2, h3⟩
end
end Hq

-- HqJ
open PySem PySem.W PyProof.Rows
set_option Elab.async false
set_option linter.unusedVariables false
set_option maxHeartbeats 1000000
namespace Hq
variable {prog : Program} {w : World} {A : Around} {G : Gnd} {fs : List Frm} {env : Env} {m : Loc} {fn : Bool} {σ : Sto} {P : D → Sto → Prop} {PB : Bool → Sto → Prop} {PF : Fl → Loc → Sto → Prop} {PM : Loc → Sto → Prop}
variable {H : Hid} {s : Shared} {E : Value → Shared → Prop}

/- the library's ledger rules, with everything on the ledger -/
def emptyH : Heap := ⟨#[], {}⟩
def allN (h : Heap) (L : Addr) : List (Addr × Obj) := (List.range h.objs.size).filterMap fun a => if a = L then none else (h.get? a).map fun o => (a, o)
theorem mem_allN {h : Heap} {L b : Addr} {o : Obj} (e : h.get? b = some o) (hb : b ≠ L) : (b, o) ∈ allN h L := by
  unfold allN
  rw [List.mem_filterMap]
  exact ⟨b, by simpa using Heap.lt_size e, by rw [if_neg hb, e]; rfl⟩
theorem allN_mem {h : Heap} {L : Addr} {p : Addr × Obj} (hp : p ∈ allN h L) : h.get? p.1 = some p.2 ∧ p.1 ≠ L := by
  unfold allN at hp
  rw [List.mem_filterMap] at hp
  obtain ⟨a, _, e⟩ := hp
  by_cases q : a = L
  · rw [if_pos q] at e; cases e
  · rw [if_neg q] at e
    cases g : h.get? a with
    | none => rw [g] at e; cases e
    | some o => rw [g] at e; cases e; exact ⟨g, q⟩
theorem empty_get {b : Addr} : emptyH.get? b = none := by simp [emptyH, Heap.get?]
theorem fr_empty {h : Heap} {L : Addr} {mv : Str → Option Value} (hn : h.Ns L mv) : Fr emptyH L h mv := ⟨hn, (fun b o e => by rw [empty_get] at e; cases e), Nat.zero_le _⟩
theorem news_all {h : Heap} {L : Addr} : News emptyH L h (allN h L) := fun p hp => ⟨(allN_mem hp).1, (allN_mem hp).2, empty_get⟩
/-- the state behind such a rule -/
theorem St.viaN (S : St G H (⟨env, m, fn⟩ :: fs) σ s) : ∃ mv, s.heap.Ns env.locals mv ∧ ∀ h' tk, Fr emptyH env.locals h' mv → News emptyH env.locals h' (allN s.heap env.locals) → Le s.heap h' ∧ St G H (⟨env, m, fn⟩ :: fs) σ { s with heap := h', toks := tk } ∧
    ∀ b o, b ≠ env.locals → s.heap.get? b = some o → h'.get? b = some o := by
  obtain ⟨⟨⟨mv, hmv, hm⟩, hc⟩, hb, hbc⟩ := S.frames _ List.mem_cons_self
  refine ⟨mv, hmv, fun h' tk F N => ?_⟩
  have hs : ∀ b o, b ≠ env.locals → s.heap.get? b = some o → h'.get? b = some o := fun b o q e => (N _ (mem_allN e q)).1
  obtain ⟨oL, es, ep, hL, hd, _⟩ := id hmv
  have l : Le s.heap h' := Le.of_but hL (not_frozen_dict hd) hs
  refine ⟨l, ⟨fun b o e => hs b o (by rintro rfl; rw [hb] at e; cases e) (S.keep b o e), S.gens, S.os, fun a ds e => ?_, fun f hf => ?_, ⟨S.apart.1, S.apart.2.1, S.apart.2.2⟩, fun a o e => ?_⟩, hs⟩
  · obtain ⟨q, vs, n, g, i⟩ := S.lists a ds e
    exact ⟨q, vs, n, hs _ _ (Ne.symm (S.list_ne_locals e List.mem_cons_self)) g, i.mono l⟩
  · rcases List.mem_cons.mp hf with rfl | hf
    · refine ⟨⟨⟨mv, F.ns, fun y d' e => ?_⟩, fun p hp => ?_⟩, hb, hbc⟩
      · rcases hm y d' e with ⟨a, u, b, i⟩ | ⟨a, c, u, b, i, j⟩
        · exact .inl ⟨a, u, b, i.mono l⟩
        · obtain ⟨oc, ho, hdc⟩ := id i
          exact .inr ⟨a, c, u, b, ⟨oc, hs _ _ (ns_ne_cell hmv i) ho, hdc⟩, j.mono l⟩
      · obtain ⟨u, oc, ho, hdc⟩ := hc p hp
        exact ⟨u, oc, hs _ _ (ns_ne_cell hmv ⟨oc, ho, hdc⟩) ho, hdc⟩
    · obtain ⟨a, b, c⟩ := S.frames f (List.mem_cons_of_mem _ hf)
      refine ⟨a.move (fun o e => hs _ o (Ne.symm (S.apart.1 f hf)) e) (fun p hp o e => hs _ o ?_ e) l, b, c⟩
      obtain ⟨u, i⟩ := a.2 p hp
      exact ns_ne_cell hmv i
  · obtain ⟨a', b', c⟩ := S.hid a o e
    exact ⟨a', hs _ _ (S.hid_ne_ns e hmv) b', c⟩

/- min, max, divmod, list(range) -/
theorem cl_min2 {a b : Int} (hh : A.handled = none) (h : P (.int (if b < a then b else a)) σ) : Cl prog w A G fs (.builtin "min") [.int a, .int b] σ P := fun H s vs S I => by
  obtain ⟨v, u, rfl, i, j⟩ := isAll_two I
  obtain ⟨t, rfl⟩ := is_int.mp i
  obtain ⟨t', rfl⟩ := is_int.mp j
  refine min_two_ints hh fun h' tk kp => ⟨Le.of_keeps kp, _, σ, ?_, S.grow tk kp, h⟩
  rw [is_int]
  split
  · exact ⟨_, rfl⟩
  · exact ⟨_, rfl⟩
theorem intsAre {h : Heap} : ∀ {ns : List Int} {vs : List Value}, IsAll h (ns.map D.int) vs → IntsAre vs ns
  | [], _, i => by rw [isAll_nil.mp i]; exact .nil
  | n :: ns, _, i => by
    obtain ⟨v, r, rfl, i1, i2⟩ := isAll_cons.mp i
    obtain ⟨t, rfl⟩ := is_int.mp i1
    exact .cons _ _ (intsAre i2)
theorem cl_maxL {a : Addr} {ns : List Int} (hh : A.handled = none) (ha : rd G σ a = some (ns.map D.int)) (hne : ns ≠ []) (h : ∀ M, M ∈ ns → (∀ x ∈ ns, x ≤ M) → P (.int M) σ) : Cl prog w A G (⟨env, m, fn⟩ :: fs) (.builtin "max") [.lst a] σ P := fun H s vs S I => by
  obtain ⟨v, rfl, i⟩ := isAll_one I
  rw [is_lst.mp i]
  obtain ⟨ws, n, g, q⟩ := S.read ha
  obtain ⟨mv, hmv, k⟩ := S.viaN
  refine max_list_N hh (fr_empty hmv) news_all ⟨_, g, rfl, n, rfl⟩ (intsAre q) (by cases ns with | nil => exact absurd rfl hne | cons => simp) fun h' M t tk F N hM hall => ?_
  obtain ⟨l, S', _⟩ := k h' tk F N
  exact ⟨l, .int M, σ, is_int.mpr ⟨_, rfl⟩, S', h M hM hall⟩
theorem cl_divmod {a b : Int} (hb : b ≠ 0) (hs : b.natAbs < 1073741824) (h : P (.tup [.int (a.fdiv b), .int (a.fmod b)]) σ) : Cl prog w A G fs (.builtin "divmod") [.int a, .int b] σ P := fun H s vs S I => by
  obtain ⟨v, u, rfl, i, j⟩ := isAll_two I
  obtain ⟨t, rfl⟩ := is_int.mp i
  obtain ⟨t', rfl⟩ := is_int.mp j
  refine divmod_int hb ⟨Le.of_keeps get?_push_ne', .tup _, σ, is_tup.mpr ⟨_, [.int (a.fdiv b) s.toks, .int (a.fmod b) (s.toks + 1)], 0, rfl, Heap.get?_push_size _ rfl, ?_⟩, S.grow _ get?_push_ne', h⟩ (.inl (PyProof.noPylong_small hs))
  exact IsAll.cons (is_int.mpr ⟨_, rfl⟩) (IsAll.cons (is_int.mpr ⟨_, rfl⟩) IsAll.nil)
/- where a thing stands in a list -/
open Classical in
noncomputable def eqTo (h : Heap) (dx : PyData) (y : Value) : Bool := if q : ∃ d, d.canLay0 = true ∧ ∃ as, Reads h y d as then PyData.eqv q.choose dx else false
theorem eqTo_eq {h : Heap} {dx d : PyData} {y : Value} {as : List Addr} (hd : d.canLay0 = true) (r : Reads h y d as) : eqTo h dx y = PyData.eqv d dx := by
  unfold eqTo
  have q : ∃ d, d.canLay0 = true ∧ ∃ as, Reads h y d as := ⟨d, hd, as, r⟩
  rw [dif_pos q]
  obtain ⟨h1, as', h2⟩ := q.choose_spec
  rw [PySem.SeqAt.Reads.unique _ _ _ _ _ h1 h2 r]
theorem cl_index {a : Addr} {ds : List D} {x : D} {j : Nat} (hu : A.units + 64 < cLine) (ha : rd G σ a = some ds) (hl : ds.length ≤ 1000) (h1 : ∀ d ∈ ds, Sh d) (h2 : Sh x) (hj : ds[j]? = some x) (hno : ∀ i, i < j → ds[i]? ≠ some x) (h : P (.int j) σ) :
    Cl prog w A G fs (.builtin "list.index") [.lst a, x] σ P := fun H s vs S I => by
  obtain ⟨v, u, rfl, i, iu⟩ := isAll_two I
  rw [is_lst.mp i]
  obtain ⟨ws, n, g, q⟩ := S.read ha
  obtain ⟨bs, rx⟩ := reads_pd h2 iu
  have hlx := lay_pd h2
  have hjl : j < ds.length := (List.getElem?_eq_some_iff.mp hj).1
  have hwl : j < ws.toArray.size := by simpa [q.length] using hjl
  have item : ∀ k (hk : k < ws.toArray.size), ∃ d as, ds[k]? = some d ∧ Sh d ∧ Reads s.heap ws.toArray[k] (pd d) as := fun k hk => by
    obtain ⟨d, hd, id⟩ := q.get' (i := k) (v := ws.toArray[k]) (by simp at hk; simp [hk])
    obtain ⟨as, r⟩ := reads_pd (h1 d (List.mem_of_getElem? hd)) id
    exact ⟨d, as, hd, h1 d (List.mem_of_getElem? hd), r⟩
  refine call_meets F.slot_list_index ⟨_, g, rfl⟩ F.entry_list_index (F.args_list_index_2 _ _) (PySem.SeqAt.list_indexAt a ws.toArray n none #[] u (eqTo s.heap (pd x)) j hwl (by omega) ?_ ?_) ⟨g, fun y hy => ?_, Le.refl _, .int j, σ, is_int.mpr ⟨_, rfl⟩, S.tok _, h⟩
  · obtain ⟨d, as, hd, hs, r⟩ := item j hwl
    rw [hj] at hd; cases hd
    rw [eqTo_eq (lay_pd hs).1 r, eqv_pd hs h2]; exact (deq_iff hs h2).mpr rfl
  · intro k hk hkj
    obtain ⟨d, as, hd, hs, r⟩ := item k hk
    rw [eqTo_eq (lay_pd hs).1 r, eqv_pd hs h2]
    cases e : deq d x with
    | false => rfl
    | true => exact absurd (by rw [hd, (deq_iff hs h2).mp e]) (hno k hkj)
  · obtain ⟨k, hk, rfl⟩ := Array.mem_iff_getElem.mp hy
    obtain ⟨d, as, hd, hs, r⟩ := item k hk
    rw [eqTo_eq (lay_pd hs).1 r]
    refine PySem.SeqAt.eqAt_reads _ _ _ _ _ _ _ _ r rx (lay_pd hs).1 hlx.1 ?_
    have := (lay_pd hs).2
    show A.units + 1 + _ < cLine
    omega
end Hq

-- HqK
open PySem PySem.W PyProof.Rows
set_option Elab.async false
set_option linter.unusedVariables false
set_option maxHeartbeats 1000000
namespace Hq
variable {prog : Program} {w : World} {A : Around} {G : Gnd} {fs : List Frm} {env : Env} {m : Loc} {fn : Bool} {σ : Sto} {P : D → Sto → Prop} {PB : Bool → Sto → Prop} {PF : Fl → Loc → Sto → Prop} {PM : Loc → Sto → Prop}
variable {H : Hid} {s : Shared} {E : Value → Shared → Prop}

/- sorted: what the order of the items is -/
structure KeyOk (prog : Program) (w : World) {α : Type} (e : α → D) (lt : α → α → Bool) : Prop where
  kind : ∀ (A : Around) (s : Shared) (xs : List α) (vs : List Value), xs ≠ [] → IsAll s.heap (xs.map e) vs → ∃ κ, (∀ Q : SortKind → Shared → Prop, Q κ s → wpAny (model prog w) A (keyKind' vs.toArray) Q (fun _ _ => False) s) ∧
    ∀ (A : Around) (x y : α) (v u : Value) (C : Bool → Shared → Prop), A.units + 64 < cLine → Is s.heap (e x) v → Is s.heap (e y) u → C (lt x y) s → wpAny (model prog w) A (keyLt' κ v u) C (fun _ _ => False) s

theorem is_nm {h : Heap} {p : Int × Int} {v : Value} (i : Is h (nm p) v) : ∃ x n t u, v = .ref x ∧ h.get? x = some (tupO [.int p.1 t, .int p.2 u] n) := by
  obtain ⟨x, vs, n, rfl, g, r⟩ := is_tup.mp i
  obtain ⟨p', q', rfl, j1, j2⟩ := isAll_two r
  obtain ⟨t, rfl⟩ := is_int.mp j1; obtain ⟨u, rfl⟩ := is_int.mp j2
  exact ⟨x, n, t, u, rfl, g⟩

theorem looks_int {M : Model} {h : Heap} {i : Int} {t : Tok} : Looks M h (typeOf (.int i t)) (.type "int") := Looks.of_pure rfl
theorem kat_nms {h : Heap} : ∀ {xs : List (Int × Int)} {vs : List Value}, IsAll h (xs.map nm) vs → ∃ fs, fs.length = xs.length ∧ KatTups h vs fs ∧ ∀ v ∈ fs, ∃ i t, v = .int i t
  | [], _, i => by rw [isAll_nil.mp i]; exact ⟨[], rfl, KatTups.nil, fun v hv => by cases hv⟩
  | x :: xs, _, i => by
    obtain ⟨v, r, rfl, i1, i2⟩ := isAll_cons.mp i
    obtain ⟨a, n, t, u, rfl, g⟩ := is_nm i1
    obtain ⟨fs, hl, hk, hv⟩ := kat_nms i2
    exact ⟨.int x.1 t :: fs, by simp [hl], KatTups.cons g rfl rfl rfl hk, fun v hm => by
      rcases List.mem_cons.mp hm with rfl | hm
      · exact ⟨_, _, rfl⟩
      · exact hv v hm⟩

theorem keyOk_nm : KeyOk prog w nm fun p q => decide (plt p q) where
  kind := fun A s xs vs hne i => by
    obtain ⟨fs, hl, hk, hv⟩ := kat_nms i
    refine ⟨tuples' true, fun Q hq => ?_, fun A x y v u C hu iv iu hC => ?_⟩
    · have := kat_kind (M := model prog w) (A := A) (E := fun _ _ => False) (Q := Q) (T := .type "int") hk (by rw [hl]; cases xs with | nil => exact absurd rfl hne | cons => simp) (fun v hm => by obtain ⟨i, t, rfl⟩ := hv v hm; exact looks_int) (by decide) (by exact hq)
      exact this
    · obtain ⟨a, n, t, u', rfl, g⟩ := is_nm iv
      obtain ⟨b, n', t', u'', rfl, g'⟩ := is_nm iu
      refine kat_lt g rfl g' rfl ?_
      refine kat_cons (PySem.SeqAt.EqAt.int_int _ _ _ _ prog w _ _ ?_)
      refine kat_go (fun e => kat_yes (kat_cons (PySem.SeqAt.EqAt.int_int _ _ _ _ prog w _ _ (kat_go (fun e' => kat_yes (kat_nil ?_)) fun e' => kat_no ?_)))) fun e => kat_no ?_
      · have e1 : x.1 = y.1 := by simpa using e
        have e2 : x.2 = y.2 := by simpa using e'
        have : plt x y = False := by unfold plt; simp [e1, e2]
        simpa [this] using hC
      · have e1 : x.1 = y.1 := by simpa using e
        refine kat_one _ _ (PyProof.Rows.lt_int ?_)
        have : plt x y ↔ x.2 < y.2 := by unfold plt; simp [e1]
        show C _ _
        rw [show decide (x.2 < y.2) = decide (plt x y) by simp [this]]
        exact hC
      · have e1 : x.1 ≠ y.1 := by simpa using e
        refine oneLt_int ?_
        have : plt x y ↔ x.1 < y.1 := by unfold plt; simp [e1]
        rw [show decide (x.1 < y.1) = decide (plt x y) by simp [this]]
        exact hC

/- cars: a name and a wish -/
theorem St.add {a : Addr} {ds : List D} {vs : List Value} {n : Nat} (S : St G H fs σ s) (h1 : σ a = none) (h0 : G.h₀.get? a = none) (hH : H a = none) (g : s.heap.get? a = some (lstO vs n)) (i : IsAll s.heap ds vs) : St G H fs (σ.set a ds) s := by
  refine ⟨S.keep, S.gens, S.os, fun b es e => ?_, S.frames, S.apart, fun b o e => ?_⟩
  · by_cases q : b = a
    · subst q; rw [Sto.set_self] at e; cases e; exact ⟨h0, vs, n, g, i⟩
    · rw [Sto.set_ne _ _ q] at e; exact S.lists b es e
  · obtain ⟨x, y, z, t, u⟩ := S.hid b o e
    refine ⟨x, y, z, ?_, u⟩
    rw [Sto.set_ne]; exact t
    rintro rfl; rw [hH] at e; cases e
/- the call -/
theorem cl_sorted2 {α : Type} {e : α → D} {lt : α → α → Bool} (K : KeyOk prog w e lt) {a : Addr} {xs : List α} (hu : A.units + 100 < cLine) (ha : rd G σ a = some (xs.map e)) (h2 : 2 ≤ xs.length) (h64 : xs.length < 64)
    (hO : Ord xs.length fun i j => match xs[i]?, xs[j]? with | some x, some y => lt x y | _, _ => false)
    (h : ∀ ys : List α, ys.Perm xs → ys.Pairwise (fun x y => lt x y = true) → ∀ b, σ b = none → G.base b = none → P (.lst b) (σ.set b (ys.map e))) :
    Cl prog w A G (⟨env, m, fn⟩ :: fs) (.builtin "sorted") [.lst a] σ P := fun H s vs S I => by
  obtain ⟨v, rfl, i⟩ := isAll_one I
  rw [is_lst.mp i]
  obtain ⟨ws, n, g, q⟩ := S.read ha
  have hlen : ws.length = xs.length := by simpa using q.length
  obtain ⟨mv, hmv, k⟩ := S.viaN
  refine kat_sorted (fr_empty hmv) news_all ⟨_, g, rfl, n, rfl⟩ (by omega) (by omega) fun D e1 h' F' N' hD => ?_
  have N'' : News emptyH env.locals h' (allN s.heap env.locals) := fun p hp => N' p (List.mem_cons_of_mem _ hp)
  obtain ⟨l, S', kp⟩ := k h' s.toks F' N''
  have q' : IsAll h' (xs.map e) ws := q.mono l
  obtain ⟨κ, hk, hc⟩ := K.kind A.in1.in1 { s with heap := h' } xs ws (by intro q0; rw [q0] at h2; simp at h2) q'
  refine hk _ ?_
  rw [hlen]
  refine Good.wp (N := xs.length) (lt := fun i j => match xs[i]?, xs[j]? with | some x, some y => lt x y | _, _ => false) (fun i j C hi hj hC => ?_) (fun p hp => ?_) (sort_good hO h2)
  · unfold kas_ask
    have hx : xs[i]? = some xs[i] := by simp [hi]
    have hy : xs[j]? = some xs[j] := by simp [hj]
    obtain ⟨v1, hv1, iv1⟩ := q'.get (i := i) (d := e xs[i]) (by simp [hx])
    obtain ⟨v2, hv2, iv2⟩ := q'.get (i := j) (d := e xs[j]) (by simp [hy])
    have e1 : ws.getD i Value.none = v1 := by rw [List.getD_eq_getElem?_getD, hv1]; rfl
    have e2 : ws.getD j Value.none = v2 := by rw [List.getD_eq_getElem?_getD, hv2]; rfl
    rw [e1, e2]
    refine hc _ _ _ _ _ _ ?_ iv1 iv2 ?_
    · show A.units + 1 + 1 + 64 < cLine; omega
    · simpa [hx, hy] using hC
  · obtain ⟨hpm, hsrt⟩ := hp
    have hDL := (N' _ List.mem_cons_self).2.1
    have hDn : s.heap.get? D = none := by
      cases e0 : s.heap.get? D with
      | none => rfl
      | some o => exact absurd (hD _ (mem_allN e0 hDL)) (Nat.lt_irrefl _)
    refine KasFin.intro F' N' (UpdF.head fun p hp e0 => ?_) fun h'' c F'' N2 => ?_
    · have := hD p hp; rw [e0] at this; exact Nat.lt_irrefl _ this
    · have N3 : News emptyH env.locals h'' (allN s.heap env.locals) := fun p hp => N2 p (List.mem_cons_of_mem _ hp)
      obtain ⟨l2, S2, kp2⟩ := k h'' s.toks F'' N3
      have hg := (N2 _ List.mem_cons_self).1
      have hsz := hpm.size
      let ys : List α := p.toList.filterMap fun i => xs[i]?
      have hmem : ∀ i ∈ p.toList, i < xs.length := fun i hi => by have := hpm.mem_iff.mp hi; simpa using this
      have hmap : (p.toList.map fun i => xs[i]?) = ys.map some := by
        show _ = (p.toList.filterMap fun i => xs[i]?).map some
        generalize p.toList = L at hmem
        induction L with
        | nil => rfl
        | cons i L ih =>
          have hi := hmem i (.head _)
          have ih' := ih fun j hj => hmem j (.tail _ hj)
          simp only [List.map_cons, List.filterMap_cons]
          rw [List.getElem?_eq_getElem hi]
          simp only [List.map_cons, ih']
      have hyl : ys.length = p.toList.length := by have := congrArg List.length hmap; simpa using this.symm
      have hget : ∀ j (hj : j < ys.length), xs[p.getD j 0]? = some ys[j] := fun j hj => by
        have hjp : j < p.toList.length := by omega
        have h0 : (p.toList.map fun i => xs[i]?)[j]? = (ys.map some)[j]? := by rw [hmap]
        rw [List.getElem?_map, List.getElem?_map, List.getElem?_eq_getElem hjp, List.getElem?_eq_getElem hj] at h0
        have h1 : xs[p.toList[j]]? = some ys[j] := by simpa using h0
        have h3 : p.getD j 0 = p.toList[j] := by
          have : j < p.size := by simpa using hjp
          simp [Array.getD, this]
        rw [h3]; exact h1
      have hys : ys.Perm xs := by
        have h1 : ys.Perm ((List.range xs.length).filterMap fun i => xs[i]?) := List.Perm.filterMap _ hpm
        have h2 : ((List.range xs.length).filterMap fun i => xs[i]?) = xs := by
          have e0 : ((List.range xs.length).map fun i => xs[i]?) = xs.map some := by
            apply List.ext_getElem?
            intro i
            rw [List.getElem?_map, List.getElem?_map]
            by_cases hi : i < xs.length
            · simp [hi]
            · simp [hi, Nat.le_of_not_lt hi]
          have e3 : ((List.range xs.length).filterMap fun i => xs[i]?) = ((List.range xs.length).map fun i => xs[i]?).filterMap id := by rw [List.filterMap_map]; rfl
          rw [e3, e0, List.filterMap_map]
          simp
        rw [h2] at h1; exact h1
      have hdl : D ≠ env.locals := hDL
      have hH : H D = none := by
        cases e0 : H D with
        | none => rfl
        | some o => have := (S.hid D o e0).2.1; rw [hDn] at this; cases this
      have iout : IsAll h'' (ys.map e) (p.toList.map fun i => ws.getD i Value.none) := by
        refine IsAll.of_get (by simp [hyl]) fun j d v hd hv => ?_
        rw [List.getElem?_map] at hd hv
        have hjl : j < ys.length := by
          cases hy : ys[j]? with
          | none => rw [hy] at hd; cases hd
          | some y => exact (List.getElem?_eq_some_iff.mp hy).1
        have hjp : j < p.toList.length := by omega
        rw [List.getElem?_eq_getElem hjl] at hd
        rw [List.getElem?_eq_getElem hjp] at hv
        simp only [Option.map_some, Option.some.injEq] at hd hv
        subst hd hv
        have h3 : p.getD j 0 = p.toList[j] := by
          have : j < p.size := by simpa using hjp
          simp [Array.getD, this]
        have hg2 := hget j hjl
        rw [h3] at hg2
        obtain ⟨v1, hv1, iv1⟩ := (q.mono l2).get (i := p.toList[j]) (d := e ys[j]) (by rw [List.getElem?_map, hg2]; rfl)
        have e1 : ws.getD p.toList[j] Value.none = v1 := by rw [List.getD_eq_getElem?_getD, hv1]; rfl
        rw [e1]; exact iv1
      have hpw : ys.Pairwise (fun x y => lt x y = true) := by
        rw [List.pairwise_iff_getElem]
        intro i j hi hj hij
        have hN : j < xs.length := by have := hys.length_eq; omega
        have := hsrt i j hij hN
        dsimp only at this
        rw [hget i hi, hget j hj] at this
        exact this
      refine ⟨l2, .lst D, σ.set D (ys.map e), is_lst.mpr rfl, ?_, h ys hys hpw D (S.fresh hDn).1 (base_none S hDn)⟩
      exact S2.add (S.fresh hDn).1 (S.fresh hDn).2 hH hg iout

/- of none or one -/
theorem list_sort_short {a : Addr} {vs : List Value} {n : Nat} {Pq : PySem.Fin → Shared → Prop} (ho : s.heap.get? a = some (seqObj "list" vs.toArray n)) (h2 : vs.length < 2)
    (h : ∀ h' c, (∀ b o, b ≠ a → s.heap.get? b = some o → h'.get? b = some o) → h'.get? a = some (lstO vs c) → Pq (.done (.ret .none)) { s with heap := h' }) :
    wpAny (model prog w) A (Builtin.«list.sort» ⟨[.ref a], []⟩) Pq E s := by
  have ha : a < s.heap.objs.size := Heap.lt_size ho
  obtain ⟨e1, ho1⟩ : ∃ e1, (s.heap.update a (Obj.mapSeq fun _ => (#[] : Array Value))).get? a = some (seqObj "list" #[] e1) := ⟨_, get?_update_seq ho fun _ => #[]⟩
  rw [list_sort_plain]
  refine wpAny_bind (listItems_at ho rfl ?_)
  refine wpAny_bind (listUpdate_at ho rfl ?_ (by rw [List.size_toArray, sizeLine_eq]; omega) (Nat.zero_le _))
  refine wpAny_bind (seqEpoch_at ho1 rfl ?_)
  refine wpAny_bind (wpAny_newTuple ?_ (by show vs.length ≤ _; rw [sizeLine_eq]; omega))
  refine wpAny_bind (wpAny_newList ?_ (Nat.zero_le _))
  refine wpAny_holding ?_
  dsimp only
  have hn2 : vs.toArray.size < 2 := by rw [List.size_toArray]; omega
  rw [if_pos hn2, if_pos hn2]
  refine wpAny_bind (wpAny_pure ?_)
  rw [StateT.run_pure]
  refine wpAny_bind (wpAny_pure ?_)
  dsimp only
  have ho3 : (((s.heap.update a (Obj.mapSeq fun _ => (#[] : Array Value))).push (seqObj "tuple" vs.toArray 0)).push (seqObj "list" #[] 0)).get? a = some (seqObj "list" #[] e1) := get?_push_ne' _ _ (get?_push_ne' _ _ ho1)
  have hout : (arrOf (SortSt.mk' general' (vs.toArray.zip vs.toArray) #[] 7 none)).map (·.2) = vs.toArray := by
    show (vs.toArray.zip vs.toArray).map (·.2) = vs.toArray
    apply Array.toList_inj.mp
    simp [List.map_snd_zip]
  refine wpAny_bind (seqEpoch_at ho3 rfl ?_)
  rw [hout]
  refine wpAny_bind (listUpdate_at ho3 rfl ?_ (Nat.zero_le _) (by rw [List.size_toArray, sizeLine_eq]; omega))
  simp only [bne_self_eq_false, Bool.false_eq_true, if_false]
  obtain ⟨c2, hc2⟩ := update_lst (vs := []) (n := e1) (vs' := vs) ho3 (fun _ => vs.toArray) rfl
  refine wpAny_pure (h _ c2 (fun b o hb e => ?_) hc2)
  exact update_but b o hb (get?_push_ne' _ _ (get?_push_ne' _ _ (update_but b o hb e)))
theorem cl_sorted1 {a : Addr} {ds : List D} (ha : rd G σ a = some ds) (h2 : ds.length < 2) (h : ∀ b, σ b = none → G.base b = none → P (.lst b) (σ.set b ds)) :
    Cl prog w A G fs (.builtin "sorted") [.lst a] σ P := fun H s vs S I => by
  obtain ⟨v, rfl, i⟩ := isAll_one I
  rw [is_lst.mp i]
  obtain ⟨ws, n, g, q⟩ := S.read ha
  have hlen := q.length
  refine Calls.call_function_entry kind_sorted plain_sorted entry_sorted (args_sorted1 _) ?_
  unfold Builtin.«sorted»
  refine wpAny_bind (m := checkCount "sorted" 1 1 _) (wpAny_pure ?_)
  refine wpAny_bind (collect_list (vs := ws) ⟨_, g, rfl, n, rfl⟩ ?_ (by rw [sizeLine_eq]; omega))
  refine wpAny_bind (wpAny_newList ?_ (by rw [sizeLine_eq]; omega))
  have hsz : ((s.heap.push (seqObj "list" #[] 0)).update s.heap.objs.size (Obj.mapSeq (· ++ ws.toArray))).objs.size = s.heap.objs.size + 1 := by
    rw [Heap.size_update, size_push']
  have hoL : (((s.heap.push (seqObj "list" #[] 0)).update s.heap.objs.size (Obj.mapSeq (· ++ ws.toArray))).push (seqObj "list" ws.toArray 0)).get? (s.heap.objs.size + 1) = some (seqObj "list" ws.toArray 0) := by
    rw [← hsz]; exact Heap.get?_push_size _ rfl
  have keep : ∀ b o, s.heap.get? b = some o → (((s.heap.push (seqObj "list" #[] 0)).update s.heap.objs.size (Obj.mapSeq (· ++ ws.toArray))).push (seqObj "list" ws.toArray 0)).get? b = some o := fun b o q =>
    get?_push_ne' b o (update_but b o (Nat.ne_of_lt (Heap.lt_size q)) (get?_push_ne' b o q))
  show wpAny _ _ _ _ _ { s with heap := ((s.heap.push (seqObj "list" #[] 0)).update s.heap.objs.size (Obj.mapSeq (· ++ ws.toArray))).push (seqObj "list" ws.toArray 0) }
  rw [hsz]
  refine wpAny_bind (wpAny_holding (wpAny_call_entry slot_list_sort ⟨_, hoL, rfl⟩ entry_list_sort ?body (args_list_sort _)))
  case body =>
    refine list_sort_short (s := { s with heap := ((s.heap.push (seqObj "list" #[] 0)).update s.heap.objs.size (Obj.mapSeq (· ++ ws.toArray))).push (seqObj "list" ws.toArray 0) }) hoL (by omega) fun h' c kp hg => ?_
    refine ⟨_, rfl, wpAny_pure ⟨_, rfl, ?_⟩⟩
    have hn : s.heap.get? (s.heap.objs.size + 1) = none := get_none_of_size (Nat.le_succ _)
    have kall : ∀ b o, s.heap.get? b = some o → h'.get? b = some o := fun b o q => kp b o (Nat.ne_of_lt (Nat.lt_succ_of_lt (Heap.lt_size q))) (keep b o q)
    exact ⟨Le.of_keeps kall, .lst _, _, is_lst.mpr rfl, S.make s.toks kall hn hg (q.mono (Le.of_keeps kall)), h _ (S.fresh hn).1 (base_none S hn)⟩

theorem ord_of {α : Type} {lt : α → α → Bool} {xs : List α} (hn : xs.Nodup) (tot : ∀ x ∈ xs, ∀ y ∈ xs, x ≠ y → lt x y = false → lt y x = true) (asym : ∀ x ∈ xs, ∀ y ∈ xs, lt x y = true → lt y x = false)
    (trans : ∀ x ∈ xs, ∀ y ∈ xs, ∀ z ∈ xs, lt x y = true → lt y z = true → lt x z = true) : Ord xs.length fun i j => match xs[i]?, xs[j]? with | some x, some y => lt x y | _, _ => false where
  tot := fun i j hi hj hne h => by
    rw [List.getElem?_eq_getElem hi, List.getElem?_eq_getElem hj] at *
    exact tot _ (List.getElem_mem hi) _ (List.getElem_mem hj) (fun e => hne ((List.getElem_inj hn).mp e)) h
  asym := fun i j hi hj h => by
    rw [List.getElem?_eq_getElem hi, List.getElem?_eq_getElem hj] at *
    exact asym _ (List.getElem_mem hi) _ (List.getElem_mem hj) h
  trans := fun i j k hi hj hk h h' => by
    rw [List.getElem?_eq_getElem hi, List.getElem?_eq_getElem hj] at h
    rw [List.getElem?_eq_getElem hj, List.getElem?_eq_getElem hk] at h'
    rw [List.getElem?_eq_getElem hi, List.getElem?_eq_getElem hk]
    exact trans _ (List.getElem_mem hi) _ (List.getElem_mem hj) _ (List.getElem_mem hk) h h'
theorem cl_sortedN {a : Addr} {xs : NL} (hu : A.units + 100 < cLine) (ha : rd G σ a = some (xs.map nm)) (h64 : xs.length < 64) (hn : xs.Nodup)
    (h : ∀ ys : NL, ys.Perm xs → ys.Pairwise plt → ∀ b, σ b = none → G.base b = none → P (.lst b) (σ.set b (ys.map nm))) :
    Cl prog w A G (⟨env, m, fn⟩ :: fs) (.builtin "sorted") [.lst a] σ P := by
  by_cases h2 : 2 ≤ xs.length
  · refine cl_sorted2 keyOk_nm hu ha h2 h64 (ord_of hn ?_ ?_ ?_) fun ys hp hs b hb hb' => h ys hp (hs.imp fun h => by simpa using h) b hb hb'
    · intro x _ y _ hne hf
      have : ¬ plt x y := by simpa using hf
      have h3 : ple y x := this
      simpa using plt_of_ple_of_ne h3 (Ne.symm hne)
    · intro x _ y _ hf
      have : plt x y := by simpa using hf
      have h3 : ¬ plt y x := fun q => plt_irrefl _ (plt_trans this q)
      simpa using h3
    · intro x _ y _ z _ h1 h2
      have h1 : plt x y := by simpa using h1
      have h2 : plt y z := by simpa using h2
      simpa using plt_trans h1 h2
  · refine cl_sorted1 ha (by simp; omega) fun b hb hb' => h xs (List.Perm.refl _) ?_ b hb hb'
    match xs, h2 with
    | [], _ => exact .nil
    | [x], _ => simp
    | _ :: _ :: _, h2 => simp at h2
end Hq

-- HqL
open PySem PySem.W PyProof.Rows
set_option Elab.async false
set_option linter.unusedVariables false
namespace Hq
variable {prog : Program} {w : World} {A : Around} {G : Gnd} {fs : List Frm} {env : Env} {m : Loc} {fn : Bool} {σ : Sto} {P : D → Sto → Prop} {PB : Bool → Sto → Prop} {PF : Fl → Loc → Sto → Prop} {PM : Loc → Sto → Prop}
variable {H : Hid} {s : Shared}

/- the frames that stand: a raise that is caught marks them, in their slots alone -/
def Stk (A : Around) (fs : List Frm) : Prop := A.frames = some (fs.map (·.env)) ∧ ∀ f ∈ fs, f.env.frame = some f.env.locals ∧ f.env.scope.kind = .function
theorem Stk.deeper (h : Stk A fs) {m : Loc} {fn : Bool} (hf : env.frame = some env.locals) (hk : env.scope.kind = .function) : Stk (A.deeper env) (⟨env, m, fn⟩ :: fs) :=
  ⟨Around.frames_deeper h.1, fun f hq => by rcases List.mem_cons.mp hq with rfl | hq; exact ⟨hf, hk⟩; exact h.2 f hq⟩
abbrev lcs (fs : List Frm) : List Addr := fs.map fun f => f.env.locals
theorem St.dict_at (S : St G H fs σ s) {a : Addr} (h : a ∈ lcs fs) : ∃ o es ep, s.heap.get? a = some o ∧ o.data = .dict es ep := by
  obtain ⟨f, hf, rfl⟩ := List.mem_map.mp h
  obtain ⟨⟨⟨mv, ⟨o, es, ep, ho, hd, _⟩, _⟩, _⟩, _⟩ := S.frames f hf
  exact ⟨o, es, ep, ho, hd⟩
theorem St.slots {h' : Heap} (S : St G H fs σ s) (tk : Nat) (hB : (hideAll s.heap (lcs fs)).StaysIn h') (hu : s.heap.UpToSlots h') : Le s.heap h' ∧ St G H fs σ { s with heap := h', toks := tk } := by
  have ex : ∀ b o, s.heap.get? b = some o → (∀ es ep, o.data ≠ .dict es ep) → h'.get? b = some o := fun b o e hd => hB b o (hideAll_get _ e fun hm => by
    obtain ⟨o', es, ep, ho, hd'⟩ := S.dict_at hm
    rw [e] at ho; cases ho; exact hd es ep hd')
  have l : Le s.heap h' := fun b o e hf => ex b o e fun es ep q => by
    rcases hf with ⟨_, xs, n, d⟩ | ⟨_, vs, d⟩ <;> rw [d] at q <;> cases q
  have cell : ∀ {c v}, s.heap.IsCell c v → h'.IsCell c v := fun ⟨o, ho, hd⟩ => ⟨o, ex _ o ho (fun es ep q => by rw [hd] at q; cases q), hd⟩
  refine ⟨l, fun b o e => hB b o (hideAll_get _ (S.keep b o e) fun hm => ?_), S.gens, S.os, fun a ds e => ?_, fun f hf => ?_, S.apart, fun a o e => ?_⟩
  · obtain ⟨f, hf, rfl⟩ := List.mem_map.mp hm
    rw [(S.frames f hf).2.1] at e; cases e
  · obtain ⟨q, vs, n, g, i⟩ := S.lists a ds e
    exact ⟨q, vs, n, ex _ _ g (fun es ep z => by cases z), i.mono l⟩
  · obtain ⟨⟨⟨mv, ns, k⟩, c⟩, r⟩ := S.frames f hf
    refine ⟨⟨⟨mv, hu.ns ns, fun x d e => ?_⟩, fun p hp => ?_⟩, r⟩
    · rcases k x d e with ⟨a, v, b, i⟩ | ⟨a, c, v, b, i, j⟩
      · exact .inl ⟨a, v, b, i.mono l⟩
      · exact .inr ⟨a, c, v, b, cell i, j.mono l⟩
    · obtain ⟨v, i⟩ := c p hp
      exact ⟨v, cell i⟩
  · obtain ⟨q, g, r, z, d⟩ := S.hid a o e
    exact ⟨q, ex _ _ g (fun es ep y => by rcases d with ⟨vs, d⟩ | ⟨xs, n, d⟩ <;> rw [d] at y <;> cases y), r, z, d⟩

def Fly (fs : List Frm) (s : Shared) (e : Addr) (s' : Shared) : Prop :=
  ∃ B a0 tk, (hideAll s.heap (lcs fs)).StaysIn B ∧ Heap.FlyingW B (fs.map (·.env)) e (.type "IndexError") a0 s'.heap ∧ s.heap.UpToSlots s'.heap ∧ s' = { s with heap := s'.heap, toks := tk }
def PostR (G : Gnd) (H : Hid) (fs : List Frm) (s : Shared) (PR : Sto → Prop) (v : Value) (s' : Shared) : Prop :=
  ∃ e s₁ σ₁, v = .ref e ∧ Le s.heap s₁.heap ∧ St G H fs σ₁ s₁ ∧ Fly fs s₁ e s' ∧ PR σ₁
theorem PostR.le {s₁ s' : Shared} {PR : Sto → Prop} {v : Value} (l : Le s.heap s₁.heap) (x : PostR G H fs s₁ PR v s') : PostR G H fs s PR v s' := by
  obtain ⟨e, s₂, σ₁, a, b, c⟩ := x; exact ⟨e, s₂, σ₁, a, l.trans b, c⟩
/-- what surely raises -/
def Rs (prog : Program) (w : World) (A : Around) (G : Gnd) (fs : List Frm) (σ : Sto) {α : Type} (t : Sem α) (PR : Sto → Prop) : Prop := ∀ H s, St G H fs σ s → wpAny (model prog w) A t (fun _ _ => False) (PostR G H fs s PR) s
def CR (prog : Program) (w : World) (A : Around) (G : Gnd) (fs : List Frm) (f : Value) (ds : List D) (σ : Sto) (PR : Sto → Prop) : Prop :=
  ∀ H s vs, St G H fs σ s → IsAll s.heap ds vs → wpAny (model prog w) A (call f vs) (fun _ _ => False) (PostR G H fs s PR) s

theorem rs_callF {x : String} {a : Addr} {scope : Scope} {body : List Stmt} {ps : List String} {dv : List Value} {p pos : Pos} {e : Expr} {es : List Expr} {PR : Sto → Prop} (F : FnAt G x a scope body ps dv)
    (h : As prog w A G fs env pos (e :: es) σ fun ds σ₂ => CR prog w A G fs (.ref a) ds σ₂ PR) (hk : env.scope.kind = .function := by rfl) (hx : env.kindOf (Str.ofString x) = some .globalImplicit := by rfl)
    (hE : env.globals = mainGlobals := by rfl) (hd : (Str.ofString x == ("__debug__" : Str)) = false := by decide)
    (he : starEach (e :: es) env = (false, eval e env) :: starEach es env := by rfl) :
    Rs prog w A G fs σ (eval (.Call (.Name (Str.ofString x) p) (e :: es) [] pos) env) PR := fun H s S => by
  obtain ⟨name, qual, params, dV, kV, doc, pm, an, cdv, ct, o, g, d, hcd, hb⟩ := F.fn
  refine Call_Name rfl (Calls.Name_function_global hk hx (Calls.loadGlobal_global (hE ▸ G.g.keeps S.keep) F.glob ?_) hd)
  have h1 : wpAny (model prog w) A (spliced (backTo pos (starEach (e :: es) env))) (fun vs s₁ => (s₁.heap.get? a = some o ∧ o.data = .func (fnX name qual params body scope [] dV kV doc pm an cdv ct)) ∧ wpAny (model prog w) A (call (.ref a) vs) (fun _ _ => False) (PostR G H fs s PR) s₁) (PostR G H fs s PR) s :=
    wpAny_mono (h H s S) (fun vs s₁ ⟨l₁, ds, σ₁, i₁, S₁, k₁⟩ => ⟨⟨S₁.keep _ _ g, d⟩, wpAny_mono (k₁ H s₁ vs S₁ i₁) (fun _ _ x => x) fun _ _ x => x.le l₁⟩) fun _ _ x => False.elim x
  rw [he] at h1 ⊢
  exact Calls.callWith_function (Calls.evalArgs_plain (wpAny_mono h1 (fun vs s₁ x => x) fun _ _ x => x))
theorem rs_expr {e : Expr} {pos : Pos} {rest : List Stmt} {PR : Sto → Prop} (h : Rs prog w A G fs σ (eval e env) PR) (hi : interactive env = false := by rfl) (hs : swapsWith e none pos.line env = pure false := by rfl) :
    Rs prog w A G fs σ (execs (.Expr e pos :: rest) env) PR := fun H s S =>
  wpAny_execs_cons (wpAny_Expr (wpAny_mono (h H s S) (fun _ _ x => x.elim) fun _ _ x => x) hi hs)

/- try .. except IndexError -/
theorem ex_try_raise {body suite : List Stmt} {b₀ : Stmt} {np hp pos : Pos} {rest : List ExceptHandler} {PR : Sto → Prop} (hA : Stk A (⟨env, m, fn⟩ :: fs)) (b : Bn G "IndexError" (.type "IndexError"))
    (h : Rs prog w A G (⟨env, m, fn⟩ :: fs) σ (execs body env) PR) (k : ∀ e τ, PR τ → Ex prog w (A.mark (some (.ref e))) G env fn fs (b₀ :: suite) m τ PF)
    (hx : env.kindOf (Str.ofString "IndexError") = some .globalImplicit := by rfl) (hE : env.globals = mainGlobals := by rfl) (hB : env.builtins = builtinsNs := by rfl) :
    Ex1 prog w A G env fn fs (.Try body (.ExceptHandler (some (.Name (Str.ofString "IndexError") np)) none (b₀ :: suite) hp :: rest) [] [] pos) m σ PF := fun H s S => by
  refine wpAny_Try_except (wpAny_mono (h H s S) (fun _ _ x => x.elim) fun v s' ⟨e, s₁, τ, hv, l₁, S₁, ⟨B, a0, tk, hB', hfl, hu, hs'⟩, hP⟩ => ?_)
  subst hv
  have hf := hA.2 _ List.mem_cons_self
  refine wpAny_looks_onW hA.1 hf.1 hfl fun h₄ hheld₄ hsm₄ => ?_
  refine wpAny_landsW hheld₄ fun h₅ hheld hsm₅' => ?_
  have hu₅ := (hu.trans hsm₄).trans hsm₅'
  have go : ∀ (h' : Heap), B.StaysIn h' → s₁.heap.UpToSlots h' → Le s₁.heap h' ∧ St G H (⟨env, m, fn⟩ :: fs) τ { s' with heap := h' } := fun h' kb ku => by
    have := S₁.slots tk (h' := h') (fun b o q => kb b o (hB' b o q)) ku
    rw [hs']; exact this
  obtain ⟨l₅, S₅⟩ := go h₅ hheld.1 hu₅
  obtain ⟨ob, hob, hobc⟩ := hheld.there
  refine wpAny_handleBy_builtin (X := "IndexError") (T := "IndexError") (b := true) PySem.F.isExc_IndexError PySem.F.notTuple_IndexError (by rw [isSubtype_type]; kernel_rfl) ?_
  refine Calls.Name_function_global hf.2 hx (Calls.loadGlobal_builtin (hE ▸ G.g.keeps S₅.keep) b.no (hB ▸ G.b.keeps S₅.keep) ((G.bi _ b.ne).trans b.yes) ⟨rfl, ⟨ob, hob, hobc⟩, ?_⟩) (by decide)
  rw [if_pos rfl]
  refine lands_againW hheld fun h₆ hfl₆ hsm₆ => ?_
  obtain ⟨l₆, S₆⟩ := go h₆ hfl₆.1 (hu₅.trans hsm₆)
  exact wpAny_mono (k e τ hP H _ S₆) (fun _ _ p => p.le (l₁.trans l₆)) fun _ _ x => x.elim

/-- a def whose body's first statement raises anew: an empty list's pop -/
theorem cr_pop {x : String} {a l : Addr} {scope : Scope} {rest : List Stmt} {p q t u y : Pos} {v z : String} (hh : A.handled = none) (hA : Stk A fs) (hroom : A.depth < recursionLimit) (hl : σ l = some [])
    (Fa : FnAt G x a scope (.Assign [.Name (Str.ofString v) p] (.Call (.Attribute (.Name (Str.ofString z) q) "pop" t) [] [] u) y :: rest) [z] [])
    (hline : (t.endLine == u.line) = true) (hz : scope.names.lookup (Str.ofString z) = some .local) (hcn : ((cellsFrom 0 scope.names []).map (·.1)).Nodup) (hco : scope.isCoroutine = false) (hgen : scope.isGenerator = false) (hk : scope.kind = .function)
    (hd : (Str.ofString z == ("__debug__" : Str)) = false)
    (hs : ∀ qual L cdv, swapsWith (.Call (.Attribute (.Name (Str.ofString z) q) "pop" t) [] [] u) (some (.Name (Str.ofString v) p)) y.line (envOfC qual scope L a cdv) = pure false := by intros; rfl) :
    CR prog w A G fs (.ref a) [.lst l] σ (· = σ) := fun H s vs S I => by
  obtain ⟨v', rfl, i⟩ := isAll_one I
  obtain ⟨name, qual, params, dV, kV, doc, pm, an, cdv, ct, o, g, d, hcd, hb⟩ := Fa.fn
  have hbs := hb s [v'] S.keep rfl
  refine wpAny_call (codeAny_call_function hroom (S.keep _ _ g) d hco hgen rfl (hcd.keeps S.keep) (hbs _ _ _ _ ?_))
  refine wpAny_newFunctionEnv_cells hk (fun y hy => ?_) fun env' he s₁ xx => ?_
  · simp at hy; subst hy; exact .inl hz
  subst he
  refine ⟨(G.nolim.keeps S.keep).keeps xx.toInCall.keep, codeAny_func ?_⟩
  obtain ⟨h₁, tk, rfl, kp⟩ := xx.done
  have ns := xx.toInCall.ns
  have hmem : (Str.ofString z, v') ∈ (([z].map Str.ofString).zip ([v'] ++ [])) := by simp
  have fr : FrOk h₁ ⟨envOfC qual scope s.heap.objs.size a cdv, locOf [(z, .lst l)], true⟩ := by
    refine ⟨⟨_, ns, fun y dy e => ?_⟩, fun p hp => ?_⟩
    · have : y = z ∧ dy = .lst l := by
        by_cases hq : y = z
        · subst hq; rw [show (Frm.m _) y = _ from lk_hit] at e; cases e; exact ⟨rfl, rfl⟩
        · have hbq : (y == z) = false := by simpa using hq
          simp [locOf, List.lookup_cons, hbq] at e
      obtain ⟨rfl, rfl⟩ := this
      exact .inl ⟨hz, v', bindL_get hz _ _ (by simp) hmem, i.mono (Le.of_keeps kp)⟩
    · obtain ⟨n, c⟩ := p
      exact ⟨_, xx.cell n c (lookup_of_mem_nodup (cellsFrom_names scope.names 0 (s.heap.objs.size + 1) [] [] rfl ▸ hcn) hp)⟩
  have hcells : ∀ p ∈ (envOfC qual scope s.heap.objs.size a cdv).cells, s.heap.get? p.2 = none := fun p hp => get_none_of_size (Nat.le_of_lt (xx.above p.1 p.2 hp))
  have S₁ : St G H (⟨envOfC qual scope s.heap.objs.size a cdv, locOf [(z, .lst l)], true⟩ :: fs) σ { s with heap := h₁, toks := tk } :=
    S.pushF tk kp fr (get_none_of_size (Nat.le_refl _)) (fun p hp => (S.fresh (hcells p hp)).2) fun _ => ⟨xx.apart, hcells⟩
  have hA₁ : Stk (A.deeper (envOfC qual scope s.heap.objs.size a cdv)) (⟨envOfC qual scope s.heap.objs.size a cdv, locOf [(z, .lst l)], true⟩ :: fs) := hA.deeper rfl hk
  refine wpAny_execs_cons (wpAny_Assign_Name ?_ (hs _ _ _))
  refine wpAny_Call_method rfl rfl hline F.plainAttrs_list F.slot_list_pop F.type_list_pop (wpAny_Name (wpAny_loadName_local hk hz ns (bindL_get hz _ _ (by simp) hmem) ?_) hd)
  rw [is_lst.mp i]
  obtain ⟨_, ws, n, gl, kl⟩ := S₁.lists l [] hl
  obtain rfl := isAll_nil.mp kl
  refine ⟨⟨_, gl, rfl⟩, fun b e => by cases e; exact ⟨_, gl, rfl⟩, ?_⟩
  refine Calls.callWith_builtin rfl (evalArgs_nil3 ?_)
  refine call_meets F.slot_list_pop ⟨_, gl, rfl⟩ F.entry_list_pop (F.args_list_pop_1 _) (AutoListH.list_pop_list_0 l #[] n rfl) ⟨gl, hh, fun h' tk' e hx => ?_⟩
  -- the raise leaves the frame
  obtain ⟨ob, tp, he, hcls, hdd⟩ := hx.there
  have hin : ∀ f : Frm, f ∈ (⟨envOfC qual scope s.heap.objs.size a cdv, locOf [(z, .lst l)], true⟩ :: fs) → f.env.locals ∈ lcs (⟨envOfC qual scope s.heap.objs.size a cdv, locOf [(z, .lst l)], true⟩ :: fs) := fun f hf => List.mem_map_of_mem hf
  have ff : ∀ gs : List Frm, (∀ f ∈ gs, f ∈ (⟨envOfC qual scope s.heap.objs.size a cdv, locOf [(z, .lst l)], true⟩ :: fs)) →
      h'.FunFrames (hideAll h₁ (lcs (⟨envOfC qual scope s.heap.objs.size a cdv, locOf [(z, .lst l)], true⟩ :: fs))) (gs.map (·.env)) := by
    intro gs
    induction gs with
    | nil => intro _; trivial
    | cons f gs ih =>
      intro hg
      have hf := hg f List.mem_cons_self
      obtain ⟨o', es, ep, ho', hd'⟩ := S₁.dict_at (hin f hf)
      refine ⟨by rw [(hA₁.2 f hf).2]; decide, ⟨f.env.locals, o', (hA₁.2 f hf).1, hideAll_none _ (hin f hf), hx.keeps _ _ ho', fun vs q => by rw [hd'] at q; cases q⟩, ih fun f' hf' => hg f' (List.mem_cons_of_mem _ hf')⟩
  have hen : (hideAll h₁ (lcs (⟨envOfC qual scope s.heap.objs.size a cdv, locOf [(z, .lst l)], true⟩ :: fs))).get? e = none := by
    cases q : (hideAll h₁ (lcs (⟨envOfC qual scope s.heap.objs.size a cdv, locOf [(z, .lst l)], true⟩ :: fs))).get? e with
    | none => rfl
    | some o => have := of_hideAll _ q; have hnew := hx.new; rw [show _ = _ from hnew] at this; cases this
  refine wpAny_leaving_firstW (a0 := tp) (s := { s with heap := h', toks := tk' }) hA₁.1 (ff _ fun _ x => x) rfl he (fun b o hb => hx.keeps b o (of_hideAll _ hb)) hen hdd rfl rfl fun h'' hL => ?_
  obtain ⟨k1, ⟨_, _, k2⟩, k3, k4⟩ := hL
  refine ⟨e, s, σ, rfl, Le.refl _, S, ⟨hideAll h₁ (lcs (⟨envOfC qual scope s.heap.objs.size a cdv, locOf [(z, .lst l)], true⟩ :: fs)), tp, tk', fun b o q => ?_, ⟨k1, hen, k2, by rw [← hcls]; exact k3⟩, ((Heap.UpToSlots.of_keeps kp).trans (Heap.UpToSlots.of_keeps hx.keeps)).trans k4, rfl⟩, rfl⟩
  have q' := of_hideAll _ q
  refine hideAll_get _ (kp b o q') fun hm => ?_
  rcases List.mem_cons.mp hm with e' | hm
  · exact absurd (Heap.lt_size q') (by rw [e']; exact Nat.lt_irrefl _)
  · rw [hideAll_none _ hm] at q; cases q
end Hq

-- HqM
open PySem PySem.W PyProof.Rows
set_option Elab.async false
set_option linter.unusedVariables false
namespace Hq
variable {prog : Program} {w : World} {A : Around} {G : Gnd} {fs : List Frm} {env : Env} {m : Loc} {fn : Bool} {σ : Sto} {P : D → Sto → Prop} {PB : Bool → Sto → Prop} {PF : Fl → Loc → Sto → Prop} {PM : Loc → Sto → Prop}
variable {H : Hid} {s : Shared}

theorem ev_and1 {op : BoolOp} {e : Expr} {pos : Pos} (h : Ev prog w A G fs env e σ P) : Ev prog w A G fs env (.BoolOp op [e] pos) σ P := fun H s S => BoolOp_one (h H s S)
theorem ev_and2 {e₁ e₂ : Expr} {rest : List Expr} {pos : Pos} (h : Ev prog w A G fs env e₁ σ fun d σ₁ => B1 prog w A G fs d σ₁ fun c σ₂ => if c = true then Ev prog w A G fs env (.BoolOp .And (e₂ :: rest) pos) σ₂ P else P d σ₂) :
    Ev prog w A G fs env (.BoolOp .And (e₁ :: e₂ :: rest) pos) σ P := fun H s S => by
  refine BoolOp_and (wpAny_mono (h H s S) (fun v s₁ ⟨l₁, d, σ₁, i₁, S₁, k₁⟩ => wpAny_mono (k₁ H s₁ v S₁ i₁) (fun c s₂ ⟨l₂, σ₂, S₂, k₂⟩ => ?_) fun _ _ x => x) fun _ _ x => x)
  cases c
  · simp only [Bool.false_eq_true, if_false] at k₂ ⊢
    exact ⟨l₁.trans l₂, d, σ₂, i₁.mono l₂, S₂, k₂⟩
  · simp only [if_true] at k₂ ⊢
    exact wpAny_mono (k₂ H s₂ S₂) (fun _ _ p => p.le (l₁.trans l₂)) fun _ _ x => x
/-- or: of tests -/
def Ol (prog : Program) (w : World) (A : Around) (G : Gnd) (fs : List Frm) (env : Env) (es : List Expr) (σ : Sto) (PB : Bool → Sto → Prop) : Prop := Wb prog w A G fs σ (allTrue .Or es env) PB
theorem ts_or {es : List Expr} {pos : Pos} (h : Ol prog w A G fs env es σ PB) : Ts prog w A G fs env (.BoolOp .Or es pos) σ PB := fun H s S => wpAny_isTrue_BoolOp (h H s S)
theorem ol_nil (h : PB false σ) : Ol prog w A G fs env [] σ PB := fun H s S => wpAny_allTrue_Or_nil ⟨Le.refl _, σ, S, h⟩
theorem ol_cons {e : Expr} {es : List Expr} (h : Ts prog w A G fs env e σ fun b σ₁ => if b = true then PB true σ₁ else Ol prog w A G fs env es σ₁ PB) : Ol prog w A G fs env (e :: es) σ PB := fun H s S => by
  refine wpAny_allTrue_Or_cons (wpAny_mono (h H s S) (fun b s₁ ⟨l₁, σ₁, S₁, k₁⟩ => ?_) fun _ _ x => x)
  cases b
  · simp only [Bool.false_eq_true, if_false] at k₁ ⊢
    exact wpAny_mono (k₁ H s₁ S₁) (fun _ _ p => p.le l₁) fun _ _ x => x
  · simp only [if_true] at k₁ ⊢
    exact ⟨l₁, σ₁, S₁, k₁⟩
theorem ev_neg {i : Int} {k : Nat} {p pos : Pos} (h : P (.int (-i)) σ) : Ev prog w A G fs env (.UnaryOp .USub (.Constant (.int i) k p) pos) σ P := fun H s S =>
  wpAny_UnaryOp (wpAny_Constant_int (PyProof.Rows.neg_int ⟨Le.refl _, _, _, is_int.mpr ⟨_, rfl⟩, (S.tok _).tok _, h⟩))
theorem eq_b {a b : Bool} (h : P (.bool (a == b)) σ) : V2 prog w A G fs (compareOp .Eq) (.bool a) (.bool b) σ P := fun H s v₁ v₂ S i₁ i₂ => by
  rw [is_bool.mp i₁, is_bool.mp i₂]
  exact PyProof.Rows.eq_bool (Post.here (is_bool.mpr rfl) S h)
end Hq

-- HqQ
set_option Elab.async false
set_option linter.unusedVariables false
namespace Hq
/- where an item goes into a sorted list -/
section
variable {α : Type} {f : α → Bool}
theorem cut_spec : ∀ {xs : List α}, (xs.Pairwise fun a b => f a = true → f b = true) →
    (∀ i (hi : i < xs.length), i < xs.countP (fun y => !f y) → f xs[i] = false) ∧ (∀ i (hi : i < xs.length), xs.countP (fun y => !f y) ≤ i → f xs[i] = true) ∧
    xs.take (xs.countP fun y => !f y) = xs.filter (fun y => !f y) ∧ xs.drop (xs.countP fun y => !f y) = xs.filter f
  | [], _ => by simp
  | a :: xs, h => by
    rw [List.pairwise_cons] at h
    cases hf : f a with
    | true =>
      have hall : ∀ b ∈ xs, f b = true := fun b hb => h.1 b hb hf
      have e0 : (a :: xs).countP (fun y => !f y) = 0 := by
        rw [List.countP_eq_zero]; intro b hb; rcases List.mem_cons.mp hb with rfl | hb
        · simp [hf]
        · simp [hall b hb]
      have e1 : (a :: xs).filter (fun y => !f y) = [] := by
        rw [List.filter_eq_nil_iff]; intro b hb; rcases List.mem_cons.mp hb with rfl | hb
        · simp [hf]
        · simp [hall b hb]
      have e2 : (a :: xs).filter f = a :: xs := by
        rw [List.filter_eq_self]; intro b hb; rcases List.mem_cons.mp hb with rfl | hb
        · exact hf
        · exact hall b hb
      refine ⟨fun i hi h' => by omega, fun i hi _ => ?_, by rw [e0, e1]; rfl, by rw [e0, e2]; rfl⟩
      rcases List.mem_cons.mp (List.getElem_mem hi) with e | hb
      · rw [e]; exact hf
      · exact hall _ hb
    | false =>
      obtain ⟨k1, k2, k3, k4⟩ := cut_spec h.2
      have e0 : (a :: xs).countP (fun y => !f y) = xs.countP (fun y => !f y) + 1 := by rw [List.countP_cons]; simp [hf]
      rw [e0]
      refine ⟨fun i hi h' => ?_, fun i hi h' => ?_, ?_, ?_⟩
      · cases i with
        | zero => simpa using hf
        | succ i => simpa using k1 i (by simpa using hi) (by omega)
      · cases i with
        | zero => omega
        | succ i => simpa using k2 i (by simpa using hi) (by omega)
      · simp [List.take_succ_cons, k3, hf]
      · simp [k4, hf]
theorem filter_perm (xs : List α) : (xs.filter (fun y => !f y) ++ xs.filter f).Perm xs := by
  have := List.filter_append_perm (fun y => !f y) xs
  simpa using this
end
/-- the sorted list with x put in behind its equals -/
def putIn {α : Type} (lt : α → α → Bool) (x : α) (xs : List α) : List α := xs.filter (fun y => !lt x y) ++ x :: xs.filter (fun y => lt x y)
theorem putIn_perm {α : Type} (lt : α → α → Bool) (x : α) (xs : List α) : (putIn lt x xs).Perm (x :: xs) := by
  unfold putIn
  refine List.perm_middle.trans ?_
  exact (filter_perm (f := fun y => lt x y) xs).cons x
theorem putIn_sorted_int {x : Int} {xs : List Int} (h : xs.Pairwise (· ≤ ·)) : (putIn (fun a b => decide (a < b)) x xs).Pairwise (· ≤ ·) := by
  unfold putIn
  rw [List.pairwise_append]
  refine ⟨h.sublist List.filter_sublist, ?_, ?_⟩
  · rw [List.pairwise_cons]
    refine ⟨fun b hb => ?_, h.sublist List.filter_sublist⟩
    simp only [List.mem_filter, decide_eq_true_eq] at hb; omega
  · intro a ha b hb
    simp only [List.mem_filter, Bool.not_eq_true', decide_eq_false_iff_not] at ha
    rcases List.mem_cons.mp hb with rfl | hb
    · omega
    · simp only [List.mem_filter, decide_eq_true_eq] at hb; omega
theorem putIn_sorted_nm {x : Int × Int} {xs : NL} (h : xs.Pairwise plt) (hx : x ∉ xs) : (putIn (fun a b => decide (plt a b)) x xs).Pairwise plt := by
  unfold putIn
  have le : ∀ a, a ∈ xs → ¬ plt x a → plt a x := fun a ha hn => plt_of_ple_of_ne hn (by rintro rfl; exact hx ha)
  rw [List.pairwise_append]
  refine ⟨h.sublist List.filter_sublist, ?_, ?_⟩
  · rw [List.pairwise_cons]
    refine ⟨fun b hb => ?_, h.sublist List.filter_sublist⟩
    simp only [List.mem_filter, decide_eq_true_eq] at hb; exact hb.2
  · intro a ha b hb
    simp only [List.mem_filter, Bool.not_eq_true', decide_eq_false_iff_not] at ha
    rcases List.mem_cons.mp hb with rfl | hb
    · exact le a ha.1 ha.2
    · simp only [List.mem_filter, decide_eq_true_eq] at hb; exact plt_trans (le a ha.1 ha.2) hb.2
theorem mono_int {x : Int} {xs : List Int} (h : xs.Pairwise (· ≤ ·)) : xs.Pairwise fun a b => decide (x < a) = true → decide (x < b) = true := h.imp fun hab hx => by simp at hx ⊢; omega
theorem mono_nm {x : Int × Int} {xs : NL} (h : xs.Pairwise plt) : xs.Pairwise fun a b => decide (plt x a) = true → decide (plt x b) = true := h.imp fun hab hx => by simp at hx ⊢; exact plt_trans hx hab
/-- how many of those ahead are greater -/
def backAt (sp : List Int) (i : Nat) : Nat := (sp.take i).countP fun y => decide (sp.getD i 0 < y)
theorem count_gt {ps qs : List Int} (hp : ps.Perm qs) (x : Int) : (ps.length : Int) - (ps.countP (fun y => !decide (x < y)) : Nat) = (qs.countP fun y => decide (x < y) : Nat) := by
  have h1 := hp.countP_eq (fun y => decide (x < y))
  have h2 := List.length_eq_countP_add_countP (fun y => decide (x < y)) (l := ps)
  have h3 : ps.countP (fun a => decide ¬ (decide (x < a)) = true) = ps.countP (fun y => !decide (x < y)) := by congr 1; funext a; by_cases h : x < a <;> simp [h] <;> omega
  omega
end Hq

-- HqV
set_option Elab.async false
set_option linter.unusedVariables false
namespace Hq
/- two orders of the same things: g i the i-th to go, co the order of coming -/
structure Two (N : Nat) (g : Nat → Int × Int) (co : NL) : Prop where
  inj : ∀ i j, i < N → j < N → g i = g j → i = j
  perm : co.Perm ((List.range N).map g)
def ps (g : Nat → Int × Int) (co : NL) (i : Nat) : Nat := co.idxOf (g i)
theorem nodup_map_on {α β : Type} {f : α → β} : ∀ {l : List α}, l.Nodup → (∀ x ∈ l, ∀ y ∈ l, f x = f y → x = y) → (l.map f).Nodup
  | [], _, _ => by simp
  | a :: l, h, k => by
    rw [List.nodup_cons] at h
    rw [List.map_cons, List.nodup_cons]
    refine ⟨fun hm => ?_, nodup_map_on h.2 fun x hx y hy => k x (List.mem_cons_of_mem _ hx) y (List.mem_cons_of_mem _ hy)⟩
    obtain ⟨b, hb, e⟩ := List.mem_map.mp hm
    have := k b (List.mem_cons_of_mem _ hb) a List.mem_cons_self e
    subst this; exact h.1 hb
section
variable {N : Nat} {g : Nat → Int × Int} {co : NL} (T : Two N g co)
include T
theorem Two.nodupG : ((List.range N).map g).Nodup := nodup_map_on List.nodup_range fun x hx y hy => T.inj x y (List.mem_range.mp hx) (List.mem_range.mp hy)
theorem Two.nodup : co.Nodup := T.perm.nodup_iff.mpr T.nodupG
theorem Two.len : co.length = N := by rw [T.perm.length_eq]; simp
theorem Two.mem {i : Nat} (h : i < N) : g i ∈ co := T.perm.mem_iff.mpr (List.mem_map.mpr ⟨i, List.mem_range.mpr h, rfl⟩)
theorem Two.lt {i : Nat} (h : i < N) : ps g co i < N := by rw [← T.len]; exact List.idxOf_lt_length_iff.mpr (T.mem h)
theorem Two.at {i : Nat} (h : i < N) : co[ps g co i]? = some (g i) := by
  have := List.idxOf_lt_length_iff.mpr (T.mem h)
  unfold ps
  rw [List.getElem?_eq_getElem this, List.getElem_idxOf]
theorem Two.ps_inj {i j : Nat} (hi : i < N) (hj : j < N) (h : ps g co i = ps g co j) : i = j := by
  have a := T.at hi
  rw [h, T.at hj] at a
  exact T.inj i j hi hj (Option.some.inj a).symm
theorem Two.of {p : Nat} (h : p < N) : ∃ k, k < N ∧ ps g co k = p ∧ co[p]? = some (g k) := by
  have hp : p < co.length := by rw [T.len]; exact h
  have := T.perm.mem_iff.mp (List.getElem_mem hp)
  obtain ⟨k, hk, e⟩ := List.mem_map.mp this
  refine ⟨k, List.mem_range.mp hk, ?_, ?_⟩
  · unfold ps; rw [e]; exact T.nodup.idxOf_getElem p hp
  · rw [List.getElem?_eq_getElem hp, e]
/-- what has come and has not gone -/
def av (N : Nat) (g : Nat → Int × Int) (co : NL) (t r : Nat) : NL := ((List.range N).filter fun k => decide (t ≤ k) && decide (ps g co k < r)).map g
omit T in
theorem mem_av {t r : Nat} {x : Int × Int} : x ∈ av N g co t r ↔ ∃ k, k < N ∧ t ≤ k ∧ ps g co k < r ∧ g k = x := by
  simp only [av, List.mem_map, List.mem_filter, List.mem_range, Bool.and_eq_true, decide_eq_true_eq]
  constructor
  · rintro ⟨k, ⟨a, b, c⟩, d⟩; exact ⟨k, a, b, c, d⟩
  · rintro ⟨k, a, b, c, d⟩; exact ⟨k, ⟨a, b, c⟩, d⟩
theorem Two.nodupA (t r : Nat) : (av N g co t r).Nodup := nodup_map_on (List.nodup_range.sublist List.filter_sublist) fun x hx y hy =>
  T.inj x y (List.mem_range.mp (List.mem_filter.mp hx).1) (List.mem_range.mp (List.mem_filter.mp hy).1)
omit T in
theorem av_len {t r : Nat} : (av N g co t r).length ≤ N := by
  unfold av; rw [List.length_map]; exact Nat.le_trans (List.length_filter_le _ _) (by simp)
omit T in
theorem mem_run {c r : Nat} {x : Int × Int} : x ∈ (co.drop c).take (r - c) ↔ ∃ p, c ≤ p ∧ p < r ∧ co[p]? = some x := by
  rw [List.mem_iff_getElem?]
  constructor
  · rintro ⟨i, hi⟩
    rw [List.getElem?_take] at hi
    split at hi
    · rw [List.getElem?_drop] at hi; exact ⟨c + i, by omega, by omega, hi⟩
    · cases hi
  · rintro ⟨p, h1, h2, h3⟩
    refine ⟨p - c, ?_⟩
    rw [List.getElem?_take, if_pos (by omega), List.getElem?_drop, show c + (p - c) = p by omega]; exact h3
theorem Two.come {t c r : Nat} (h1 : ∀ i, i < t → i < N → ps g co i < c) (h2 : c ≤ r) : ((co.drop c).take (r - c) ++ av N g co t c).Perm (av N g co t r) := by
  refine (List.perm_ext_iff_of_nodup ?_ (T.nodupA t r)).mpr fun x => ?_
  · unfold List.Nodup
    rw [List.pairwise_append]
    refine ⟨(T.nodup.sublist (List.drop_sublist _ _)).sublist (List.take_sublist _ _), T.nodupA t c, fun a ha b hb => ?_⟩
    obtain ⟨p, a1, a2, a3⟩ := mem_run.mp ha
    obtain ⟨k, b1, b2, b3, rfl⟩ := mem_av.mp hb
    rintro rfl
    have hp : p < N := by rw [← T.len]; exact (List.getElem?_eq_some_iff.mp a3).1
    obtain ⟨k', c1, c2, c3⟩ := T.of hp
    rw [c3] at a3
    have := T.inj k' k c1 b1 (Option.some.inj a3)
    subst this; omega
  · rw [List.mem_append, mem_run, mem_av, mem_av]
    constructor
    · rintro (⟨p, a1, a2, a3⟩ | ⟨k, b1, b2, b3, b4⟩)
      · have hp : p < N := by rw [← T.len]; exact (List.getElem?_eq_some_iff.mp a3).1
        obtain ⟨k', c1, c2, c3⟩ := T.of hp
        rw [c3] at a3
        refine ⟨k', c1, ?_, by omega, Option.some.inj a3⟩
        rcases Nat.lt_or_ge k' t with h | h
        · have := h1 k' h c1; omega
        · exact h
      · exact ⟨k, b1, b2, by omega, b4⟩
    · rintro ⟨k, b1, b2, b3, b4⟩
      rcases Nat.lt_or_ge (ps g co k) c with h | h
      · exact .inr ⟨k, b1, b2, h, b4⟩
      · exact .inl ⟨_, h, b3, by rw [T.at b1, b4]⟩
theorem Two.gone {t r : Nat} (ht : t < N) (h : ps g co t < r) : (av N g co t r).Perm (g t :: av N g co (t + 1) r) := by
  refine (List.perm_ext_iff_of_nodup (T.nodupA t r) ?_).mpr fun x => ?_
  · rw [List.nodup_cons]
    refine ⟨fun hm => ?_, T.nodupA _ _⟩
    obtain ⟨k, a1, a2, a3, a4⟩ := mem_av.mp hm
    have := T.inj k t a1 ht a4; omega
  · rw [List.mem_cons, mem_av, mem_av]
    constructor
    · rintro ⟨k, a1, a2, a3, rfl⟩
      rcases Nat.eq_or_lt_of_le a2 with e | h'
      · subst e; exact .inl rfl
      · exact .inr ⟨k, a1, h', a3, rfl⟩
    · rintro (rfl | ⟨k, a1, a2, a3, a4⟩)
      · exact ⟨t, ht, by omega, h, rfl⟩
      · exact ⟨k, a1, by omega, a3, a4⟩
/-- those ahead -/
def ahL (N : Nat) (g : Nat → Int × Int) (co : NL) (t r : Nat) : NL := (List.range (N - (t + 1))).filterMap fun i => if plt (g (t + 1 + i)) (g t) ∧ ps g co (t + 1 + i) < r then some (g (t + 1 + i)) else none
omit T in
theorem mem_ahL {t r : Nat} {x : Int × Int} : x ∈ ahL N g co t r ↔ ∃ k, k < N ∧ t < k ∧ plt (g k) (g t) ∧ ps g co k < r ∧ g k = x := by
  simp only [ahL, List.mem_filterMap, List.mem_range]
  constructor
  · rintro ⟨i, hi, e⟩
    split at e
    · rename_i q; exact ⟨t + 1 + i, by omega, by omega, q.1, q.2, Option.some.inj e⟩
    · cases e
  · rintro ⟨k, a1, a2, a3, a4, a5⟩
    refine ⟨k - (t + 1), by omega, ?_⟩
    rw [show t + 1 + (k - (t + 1)) = k by omega, if_pos ⟨a3, a4⟩, a5]
omit T in
theorem nodup_filterMap_on {α β : Type} {f : α → Option β} : ∀ {l : List α}, l.Nodup → (∀ x ∈ l, ∀ y ∈ l, ∀ b, f x = some b → f y = some b → x = y) → (l.filterMap f).Nodup
  | [], _, _ => by simp
  | a :: l, h, k => by
    rw [List.nodup_cons] at h
    have ih := nodup_filterMap_on h.2 fun x hx y hy => k x (List.mem_cons_of_mem _ hx) y (List.mem_cons_of_mem _ hy)
    rw [List.filterMap_cons]
    split
    · exact ih
    · rename_i b hb
      rw [List.nodup_cons]
      refine ⟨fun hm => ?_, ih⟩
      obtain ⟨c, hc, e⟩ := List.mem_filterMap.mp hm
      have := k c (List.mem_cons_of_mem _ hc) a List.mem_cons_self b e hb
      subst this; exact h.1 hc
theorem Two.nodupAh (t r : Nat) : (ahL N g co t r).Nodup := nodup_filterMap_on List.nodup_range fun x hx y hy b h1 h2 => by
  have hx := List.mem_range.mp hx
  have hy := List.mem_range.mp hy
  split at h1
  · split at h2
    · have := T.inj _ _ (by omega) (by omega) ((Option.some.inj h1).trans (Option.some.inj h2).symm); omega
    · cases h2
  · cases h1
omit T in
theorem plt_asymm {p q : Int × Int} (h : plt p q) : ¬ plt q p := fun h' => plt_irrefl _ (plt_trans h h')
omit T in
theorem sorted_nodup {l : NL} (h : l.Pairwise plt) : l.Nodup := h.imp fun h e => by subst e; exact plt_irrefl _ h
omit T in
theorem sorted_eq {a b : NL} (ha : a.Pairwise plt) (hb : b.Pairwise plt) (h : ∀ x, x ∈ a ↔ x ∈ b) : a = b :=
  List.Perm.eq_of_pairwise (fun x y _ _ h1 h2 => absurd h2 (plt_asymm h1)) ha hb ((List.perm_ext_iff_of_nodup (sorted_nodup ha) (sorted_nodup hb)).mpr h)
/-- what the heap tells up to the one wished for -/
theorem Two.told {t r : Nat} {xs heap ys : NL} (ht : t < N) (hp : (xs ++ [g t] ++ heap).Perm (av N g co t r)) (hs : (xs ++ [g t]).Pairwise plt) (hh : ∀ x ∈ xs ++ [g t], ∀ y ∈ heap, plt x y)
    (hy : ys.Perm (ahL N g co t r)) (hys : ys.Pairwise plt) : xs = ys := by
  rw [List.pairwise_append] at hs
  refine sorted_eq hs.1 hys fun x => ?_
  rw [hy.mem_iff, mem_ahL]
  constructor
  · intro hx
    obtain ⟨k, a1, a2, a3, rfl⟩ := mem_av.mp (hp.mem_iff.mp (show x ∈ xs ++ [g t] ++ heap by simp [hx]))
    have := hs.2.2 _ hx (g t) (by simp)
    refine ⟨k, a1, ?_, this, a3, rfl⟩
    rcases Nat.eq_or_lt_of_le a2 with e | h
    · subst e; exact absurd this (plt_irrefl _)
    · exact h
  · rintro ⟨k, a1, a2, a3, a4, rfl⟩
    have := hp.mem_iff.mpr (mem_av.mpr ⟨k, a1, by omega, a4, rfl⟩)
    simp only [List.append_assoc, List.mem_append, List.mem_cons, List.not_mem_nil, or_false] at this
    rcases this with h | h | h
    · exact h
    · rw [h] at a3; exact absurd a3 (plt_irrefl _)
    · exact absurd (hh (g t) (by simp) _ h) (plt_asymm a3)
theorem Two.back {t r : Nat} {xs heap : NL} (ht : t < N) (hr : ps g co t < r) (hp : (xs ++ [g t] ++ heap).Perm (av N g co t r)) : (xs ++ heap).Perm (av N g co (t + 1) r) := by
  have h1 : (xs ++ [g t] ++ heap).Perm (g t :: (xs ++ heap)) := by simp
  exact (List.perm_cons _).mp ((h1.symm.trans hp).trans (T.gone ht hr))
theorem Two.row {t r : Nat} {row ys : NL} (ht : t < N) (hr : ps g co t < r) (hp : row.Perm (av N g co t r)) (hs : row.Pairwise plt) (hy : ys.Perm (ahL N g co t r)) (hys : ys.Pairwise plt) :
    ∃ zs, row = ys ++ g t :: zs ∧ (ys ++ zs).Pairwise plt ∧ (ys ++ zs).Perm (av N g co (t + 1) r) ∧ row.countP (fun y => !decide (plt (g t) y)) = ys.length + 1 := by
  obtain ⟨_, _, k3, k4⟩ := cut_spec (f := fun y => decide (plt (g t) y)) (mono_nm hs)
  have e1 : row.filter (fun y => !decide (plt (g t) y)) = ys ++ [g t] := by
    refine sorted_eq (hs.sublist List.filter_sublist) ?_ fun x => ?_
    · rw [List.pairwise_append]
      refine ⟨hys, by simp, fun a ha b hb => ?_⟩
      obtain ⟨k, a1, a2, a3, a4, rfl⟩ := mem_ahL.mp (hy.mem_iff.mp ha)
      simp at hb; subst hb; exact a3
    · simp only [List.mem_filter, Bool.not_eq_true', decide_eq_false_iff_not, List.mem_append, List.mem_cons, List.not_mem_nil, or_false]
      rw [hp.mem_iff, hy.mem_iff, mem_av, mem_ahL]
      constructor
      · rintro ⟨⟨k, a1, a2, a3, rfl⟩, h⟩
        rcases Nat.eq_or_lt_of_le a2 with e | h'
        · subst e; exact .inr rfl
        · exact .inl ⟨k, a1, h', plt_of_ple_of_ne h fun e => by have := T.inj _ _ a1 ht e; omega, a3, rfl⟩
      · rintro (⟨k, a1, a2, a3, a4, rfl⟩ | rfl)
        · exact ⟨⟨k, a1, by omega, a4, rfl⟩, plt_asymm a3⟩
        · exact ⟨⟨t, ht, by omega, hr, rfl⟩, plt_irrefl _⟩
  have e2 : row = ys ++ g t :: row.filter (fun y => decide (plt (g t) y)) := by
    have := List.take_append_drop (row.countP fun y => !decide (plt (g t) y)) row
    rw [k3, k4, e1] at this
    simpa using this.symm
  refine ⟨row.filter (fun y => decide (plt (g t) y)), e2, ?_, ?_, ?_⟩
  · have h0 := hs
    rw [e2] at h0
    exact h0.sublist (List.Sublist.append (List.Sublist.refl _) (List.sublist_cons_self _ _))
  · refine (List.perm_cons (g t)).mp ((List.perm_middle.symm.trans ?_).trans (T.gone ht hr))
    rw [← e2]; exact hp
  · rw [List.countP_eq_length_filter, e1]; simp
/- the law proper -/
def Run (g : Nat → Int × Int) (t s : Nat) : Prop := s ≤ t ∧ (∀ j, j < s → plt (g (t - 1 - j)) (g t)) ∧ (s < t → ¬ plt (g (t - 1 - s)) (g t))
omit T in
theorem run_ex (g : Nat → Int × Int) (t : Nat) : ∃ s, Run g t s := by
  have : ∀ n s, n = t - s → s ≤ t → (∀ j, j < s → plt (g (t - 1 - j)) (g t)) → ∃ s, Run g t s := by
    intro n
    induction n with
    | zero => intro s hn hs h; exact ⟨s, hs, h, fun h' => by omega⟩
    | succ n ih =>
      intro s hn hs h
      by_cases q : plt (g (t - 1 - s)) (g t)
      · refine ih (s + 1) (by omega) (by omega) fun j hj => ?_
        rcases Nat.lt_succ_iff_lt_or_eq.mp hj with h' | h'
        · exact h j h'
        · subst h'; exact q
      · exact ⟨s, hs, h, fun _ => q⟩
  exact this t 0 (by omega) (by omega) fun j hj => by omega
omit T in
theorem run_un {t s s' : Nat} (h : Run g t s) (h' : Run g t s') : s = s' := by
  rcases Nat.lt_trichotomy s s' with q | q | q
  · exact absurd (h'.2.1 s q) (h.2.2 (by have := h'.1; omega))
  · exact q
  · exact absurd (h.2.1 s' q) (h'.2.2 (by have := h.1; omega))
def bk (g : Nat → Int × Int) (co : NL) (k : Nat) : Nat := (List.range k).countP fun i => decide (ps g co k < ps g co i)
omit T in
theorem count_le {p : Nat → Bool} {m : Nat} (h : ∀ i, i < m → p i = false) : ∀ k, (List.range k).countP p ≤ k - m
  | 0 => by simp
  | k + 1 => by
    have ih := count_le h k
    rw [List.range_succ, List.countP_append]
    by_cases q : k < m
    · simp [h k q]; omega
    · have : [k].countP p ≤ 1 := by simpa using List.countP_le_length (p := p) (l := [k])
      omega
omit T in
theorem count_ge {p : Nat → Bool} {m i : Nat} (hi : i < m) (h0 : p i = true) : ∀ k, m ≤ k → (∀ j, m ≤ j → j < k → p j = true) → k - m + 1 ≤ (List.range k).countP p
  | 0, hm, _ => by omega
  | k + 1, hm, h => by
    rw [List.range_succ, List.countP_append]
    by_cases q : m ≤ k
    · have ih := count_ge hi h0 k q fun j a b => h j a (by omega)
      have : [k].countP p = 1 := by simp [h k q (by omega)]
      omega
    · have hm' : m = k + 1 := by omega
      have h1 : 0 < (List.range k ++ [k]).countP p := List.countP_pos_iff.mpr ⟨i, by rw [← List.range_succ]; exact List.mem_range.mpr (by omega), h0⟩
      rw [List.countP_append] at h1; omega
theorem Two.main : (∀ t k i, k < N → t < k → i ≤ t → plt (g k) (g t) → ¬ ps g co k < ps g co i) ↔ ∀ k s, k < N → Run g k s → bk g co k ≤ s := by
  constructor
  · intro h k s hk hr
    refine Nat.le_of_not_lt fun hlt => ?_
    have hb : bk g co k ≤ k := by unfold bk; exact Nat.le_trans List.countP_le_length (by simp)
    have h1 := hr.2.2 (by omega)
    have h2 : plt (g k) (g (k - 1 - s)) := plt_of_ple_of_ne h1 fun e => by have := T.inj _ _ hk (by omega) e; omega
    have h3 := count_le (p := fun i => decide (ps g co k < ps g co i)) (m := k - s) (fun i hi => by simpa using h (k - 1 - s) k i hk (by omega) (by omega) h2) k
    unfold bk at hlt; omega
  · intro h
    have : ∀ k, k < N → ∀ t i, t < k → i ≤ t → plt (g k) (g t) → ¬ ps g co k < ps g co i := by
      intro k
      induction k using Nat.strongRecOn with
      | ind k ih =>
        intro hk t i ht hi hlt hps
        obtain ⟨s, hs⟩ := run_ex g k
        have hb := h k s hk hs
        have hst : s ≤ k - 1 - t := Nat.le_of_not_lt fun q => by
          have := hs.2.1 (k - 1 - t) q
          rw [show k - 1 - (k - 1 - t) = t by omega] at this
          exact plt_asymm hlt this
        by_cases q : ∀ j, k - s ≤ j → j < k → ps g co k < ps g co j
        · have := count_ge (p := fun i => decide (ps g co k < ps g co i)) (m := k - s) (i := i) (by omega) (by simpa using hps) k (by omega) (fun j a b => by simpa using q j a b)
          unfold bk at hb; omega
        · simp only [Classical.not_forall] at q
          obtain ⟨j, j1, j2, j3⟩ := q
          have h4 : plt (g j) (g k) := by
            have := hs.2.1 (k - 1 - j) (by omega)
            rwa [show k - 1 - (k - 1 - j) = j by omega] at this
          exact ih j j2 (by omega) t i (by omega) hi (plt_trans h4 hlt) (by omega)
    intro t k i hk ht hi
    exact this k hk t i ht hi
/-- none ahead, told by the reach -/
theorem Two.ahead_nil {t r : Nat} (ht : t < N) (h1 : ∃ i, i ≤ t ∧ ps g co i + 1 = r) (h2 : ∀ i, i ≤ t → ps g co i < r) :
    ahL N g co t r = [] ↔ ∀ k i, k < N → t < k → i ≤ t → plt (g k) (g t) → ¬ ps g co k < ps g co i := by
  rw [List.eq_nil_iff_forall_not_mem]
  constructor
  · intro h k i hk htk hi hlt hps
    exact h (g k) (mem_ahL.mpr ⟨k, hk, htk, hlt, by have := h2 i hi; omega, rfl⟩)
  · intro h x hx
    obtain ⟨k, a1, a2, a3, a4, rfl⟩ := mem_ahL.mp hx
    obtain ⟨i, hi, e⟩ := h1
    refine h k i a1 a2 hi a3 ?_
    have : ps g co k ≠ ps g co i := fun e => by have := T.ps_inj a1 (by omega) e; omega
    omega
end
end Hq

-- HqW
open PySem PySem.W PyProof.Rows
set_option Elab.async false
set_option linter.unusedVariables false
set_option maxRecDepth 100000
set_option maxHeartbeats 1000000
namespace Hq
local macro_rules | `(tactic| walk_at "lk") => `(tactic| first | exact lk_hit | (refine lk_miss (by decide) ?_; walk_at "lk"))
/-- what is known of the locals behind a turn -/
local macro_rules | `(tactic| walk_at "kn") => `(tactic| (repeat' (first | exact trivial | (refine And.intro ?_ ?_) | walk_at "lk")))
local macro_rules | `(tactic| walk_at "x") => `(tactic| first
  | (with_reducible refine ev_int ?_)
  | (with_reducible refine ev_noneC ?_)
  | (with_reducible refine ev_boolC ?_)
  | (refine ev_name (d := ?d) ?lk ?_; (case lk => walk_at "lk"))
  | (refine ev_binop ?_)
  | (refine ev_compare ?_)
  | (refine ts_compare ?_)
  | (refine ev_sub ?_)
  | (refine b1_bool ?_)
  | (refine add_i ?_)
  | (refine sub_i ?_)
  | (refine lt_i ?_)
  | (refine gt_i ?_))
local macro_rules | `(tactic| walk_at "s") => `(tactic| (refine ex_cons ?_; first
  | (refine ex_let ?_)
  | (refine ex_setitem ?_)
  | (refine ex_return ?_)
  | (refine ex_break ?_)
  | (refine ex_continue ?_)
  | (refine ex_expr ?_)
  | (refine ex_if ?_)))
local macro_rules | `(tactic| walk_at "a") => `(tactic| first | (refine as_cons ?_) | (refine as_nil ?_))
local macro_rules | `(tactic| walk_at "t") => `(tactic| first | (refine ts_and ?_) | (refine al_cons ?_) | (refine al_nil ?_) | (refine ts_not ?_) | (refine ts_compare ?_))

/-- a list of the store, behind others -/
local macro_rules | `(tactic| walk_at "rd") => `(tactic| first | exact Sto.set_self _ _ _ | assumption | (refine (Sto.set_ne _ _ (by first | assumption | (apply Ne.symm; assumption))).trans ?_; walk_at "rd"))

section
abbrev PW : Program := PySem.Challenge.pw_lg0027_01


variable {prog : Program} {w : World} {A : Around} {G : Gnd} {fs : List Frm} {env : Env} {m : Loc} {fn : Bool} {σ : Sto} {P : D → Sto → Prop} {PB : Bool → Sto → Prop} {PF : Fl → Loc → Sto → Prop} {PM : Loc → Sto → Prop}

theorem pltb_eq (p q : Int × Int) : pltb p.1 p.2 q.1 q.2 = decide (plt p q) := by
  unfold pltb plt
  by_cases h : p.1 = q.1
  · simp [h]
  · have : (p.1 == q.1) = false := by simpa using h
    simp [this, h]
theorem map_set_nm (l : NL) (i : Nat) (x : Int × Int) : (l.map nm).set i (nm x) = (l.set i x).map nm := by rw [List.map_set]

theorem siftdown_ok {fa : Addr} (F : FnAt G "_siftdown" fa (fnScope PW 3) (fnBody PW 3) ["heap", "startpos", "pos"] []) {k : Nat} (hk : k ≤ 10) (hA : Rm k A) {h : Addr} {ps : NL} {pos : Nat} (ha : σ h = some (ps.map nm)) (hl : ps.length ≤ 900)
    (hD : Dn ps pos (nth ps pos)) (hP : ∀ ps', ps'.Perm ps → Hp ps' → P .none (σ.set h (ps'.map nm))) :
    Cl prog w A G fs (.ref fa) [.lst h, .int 0, .int pos] σ P := by
  refine cl_fn F (hA.room (by omega)) rfl (dd := []) (fun _ => IsAll.nil) (by decide) (by decide) (by decide) rfl rfl rfl (l := [("heap", .lst h), ("startpos", .int 0), ("pos", .int pos)]) rfl fun qual L cdv => ?_
  have hA' := hA.deeper (envOfC qual (fnScope PW 3) L fa cdv)
  have hlt := hD.lt
  walk_at "s"
  walk_at "x"; walk_at "x"; walk_at "x"
  refine su_item (rd_own ha) (by omega) (by omega) (d := nm (nth ps pos)) (by simp [nth_get hlt, hlt]) ?_
  refine ex_cons ?_
  refine ex_whileK (fun n l σ' => ∃ ps' : NL, σ' = σ.set h (ps'.map nm) ∧ l = [("heap", .lst h), ("startpos", .int 0), ("newitem", nm (nth ps pos)), ("pos", .int n)] ∧ Dn ps' n (nth ps pos) ∧ (ps'.set n (nth ps pos)).Perm ps) pos ?_ ?_
  · refine ⟨_, ?_, ps, (Sto.set_same ha).symm, rfl, hD, ?_⟩
    · walk_at "kn"
    · rw [nth_get hlt]; simp
  · rintro n _ _ ⟨ps', rfl, rfl, hD', hperm⟩
    have hlt' := hD'.lt
    have hlen : ps'.length = ps.length := by have := hperm.length_eq; simpa using this
    walk_at "x"; walk_at "x"; walk_at "x"; walk_at "x"; walk_at "x"
    by_cases h0 : 0 < n
    · rw [decide_eq_true (by omega), if_pos rfl]
      walk_at "s"; walk_at "x"; walk_at "x"; walk_at "x"; walk_at "x"; walk_at "x"; walk_at "x"
      refine half_i (by omega) ?_
      walk_at "s"; walk_at "x"; walk_at "x"; walk_at "x"
      have hpar : (((n : Int) - 1) / 2).toNat = par n := by unfold par; omega
      have hpl : par n < ps'.length := by unfold par; omega
      refine su_item (rd_own (Sto.set_self ..)) (by omega) (by omega) (d := nm (nth ps' (par n))) (by rw [hpar]; simp [nth_get hpl, hpl]) ?_
      walk_at "s"; walk_at "x"; walk_at "x"; walk_at "x"
      refine lt_n (hA'.units0 (by omega)) ?_
      walk_at "x"
      rw [pltb_eq]
      by_cases hx : plt (nth ps pos) (nth ps' (par n))
      · rw [decide_eq_true hx, if_pos rfl]
        obtain ⟨hD2, hp2⟩ := hD'.step h0 hx
        walk_at "s"; walk_at "x"; walk_at "x"; walk_at "x"
        refine ⟨h, _, _, rfl, rfl, Sto.set_self .., by simp; omega, by omega, by simp; omega, ?_⟩
        walk_at "s"; walk_at "x"
        walk_at "s"
        refine ⟨par n, by unfold par; omega, _, _, ?_, Sub.refl _, ps'.set n (nth ps' (par n)), ?_, rfl, hD2, hp2.trans hperm⟩
        · refine ⟨?_, ?_, ?_, ?_, trivial⟩
          · walk_at "lk"
          · walk_at "lk"
          · walk_at "lk"
          · have : ((par n : Nat) : Int) = ((n : Int) - 1) / 2 := by unfold par; omega
            rw [this]; walk_at "lk"
        · rw [Sto.set_set, Int.toNat_natCast, map_set_nm]
      · rw [decide_eq_false hx, if_neg (by simp)]
        refine ex_nil ?_
        walk_at "s"
        walk_at "s"; walk_at "x"; walk_at "x"; walk_at "x"
        refine ⟨h, _, _, rfl, rfl, Sto.set_self .., by simp; omega, by omega, by simp; omega, ?_⟩
        refine ex_nil ⟨.none, _, .inr ⟨rfl, rfl⟩, Sub.refl _, ?_⟩
        rw [Sto.set_set, Int.toNat_natCast, map_set_nm]
        exact hP _ hperm (hD'.done (.inr hx))
    · rw [decide_eq_false (by omega), if_neg (by simp)]
      walk_at "s"; walk_at "x"; walk_at "x"; walk_at "x"
      refine ⟨h, _, _, rfl, rfl, Sto.set_self .., by simp; omega, by omega, by simp; omega, ?_⟩
      refine ex_nil ⟨.none, _, .inr ⟨rfl, rfl⟩, Sub.refl _, ?_⟩
      rw [Sto.set_set, Int.toNat_natCast, map_set_nm]
      exact hP _ hperm (hD'.done (.inl (by omega)))

end
-- HqX
section


variable {prog : Program} {w : World} {A : Around} {G : Gnd} {fs : List Frm} {env : Env} {m : Loc} {fn : Bool} {σ : Sto} {P : D → Sto → Prop} {PB : Bool → Sto → Prop} {PF : Fl → Loc → Sto → Prop} {PM : Loc → Sto → Prop}
theorem siftup_ok {fa fd : Addr} (F : FnAt G "_siftup" fa (fnScope PW 4) (fnBody PW 4) ["heap", "pos"] []) (Fd : FnAt G "_siftdown" fd (fnScope PW 3) (fnBody PW 3) ["heap", "startpos", "pos"] []) (Bl : Bn G "len" (.builtin "len"))
    {k : Nat} (hk : k ≤ 9) (hA : Rm k A) {h : Addr} {ps : NL} (ha : σ h = some (ps.map nm)) (hl : ps.length ≤ 900)
    (hU : Up ps 0) (hP : ∀ ps', ps'.Perm ps → Hp ps' → P .none (σ.set h (ps'.map nm))) :
    Cl prog w A G fs (.ref fa) [.lst h, .int 0] σ P := by
  refine cl_fn F (hA.room (by omega)) rfl (dd := []) (fun _ => IsAll.nil) (by decide) (by decide) (by decide) rfl rfl rfl (l := [("heap", .lst h), ("pos", .int 0)]) rfl fun qual L cdv => ?_
  have hA' := hA.deeper (envOfC qual (fnScope PW 4) L fa cdv)
  have hlt := hU.lt
  walk_at "s"
  refine ev_callB Bl callB ?_
  walk_at "a"; walk_at "x"; walk_at "a"
  refine cl_len (rd_own ha) (by simp; omega) ?_
  walk_at "s"; walk_at "x"
  walk_at "s"; walk_at "x"; walk_at "x"; walk_at "x"
  refine su_item (rd_own ha) (by omega) (by omega) (d := nm (nth ps 0)) (by simp [nth_get hlt, hlt]) ?_
  walk_at "s"; walk_at "x"; walk_at "x"; walk_at "x"; walk_at "x"
  refine mul_i (IntMulOk.of_left (by decide)) ?_
  walk_at "x"; walk_at "x"
  refine ex_cons ?_
  refine ex_whileK (fun n l σ' => ∃ (ps' : NL) (p : Nat), n = ps.length - p ∧ σ' = σ.set h (ps'.map nm) ∧ l = [("heap", .lst h), ("startpos", .int 0), ("endpos", .int ps.length), ("newitem", nm (nth ps 0)), ("pos", .int p), ("childpos", .int (2 * p + 1))] ∧
    Up ps' p ∧ (ps'.set p (nth ps 0)).Perm ps) ps.length ?_ ?_
  · refine ⟨_, ?_, ps, 0, rfl, (Sto.set_same ha).symm, rfl, hU, ?_⟩
    · refine ⟨?_, ?_, ?_, ?_, ?_, ?_, trivial⟩
      · walk_at "lk"
      · walk_at "lk"
      · have : ((ps.map nm).length : Int) = ps.length := by simp
        rw [← this]; walk_at "lk"
      · walk_at "lk"
      · walk_at "lk"
      · walk_at "lk"
    · rw [nth_get hlt]; simp
  · rintro n _ _ ⟨ps', p, rfl, rfl, rfl, hU', hperm⟩
    have hlt' := hU'.lt
    have hlen : ps'.length = ps.length := by have := hperm.length_eq; simpa using this
    walk_at "x"; walk_at "x"; walk_at "x"; walk_at "x"; walk_at "x"
    by_cases h0 : 2 * p + 1 < ps.length
    · rw [decide_eq_true (by omega), if_pos rfl]
      walk_at "s"; walk_at "x"; walk_at "x"; walk_at "x"; walk_at "x"
      refine ex_mid (fun l σ' => ∃ c : Nat, σ' = σ.set h (ps'.map nm) ∧ l = [("heap", .lst h), ("startpos", .int 0), ("endpos", .int ps.length), ("newitem", nm (nth ps 0)), ("pos", .int p), ("childpos", .int c)] ∧
        c < ps'.length ∧ par c = p ∧ 0 < c ∧ (∀ d, 0 < d → d < ps'.length → par d = p → ple (nth ps' c) (nth ps' d))) ?_ ?_
      · refine ex_if ?_
        walk_at "t"; walk_at "t"; walk_at "t"; walk_at "x"; walk_at "x"; walk_at "x"; walk_at "x"
        by_cases h1 : 2 * p + 2 < ps.length
        · rw [decide_eq_true (by omega), if_pos rfl]
          walk_at "t"; walk_at "t"; walk_at "t"; walk_at "x"; walk_at "x"; walk_at "x"
          refine su_item (rd_own (Sto.set_self ..)) (by omega) (by omega) (d := nm (nth ps' (2 * p + 1))) (by
            have e : ((2 * (p : Int) + 1)).toNat = 2 * p + 1 := by omega
            have q : 2 * p + 1 < ps'.length := by omega
            rw [e]; simp [nth_get q, q]) ?_
          walk_at "x"; walk_at "x"; walk_at "x"
          refine su_item (rd_own (Sto.set_self ..)) (by omega) (by omega) (d := nm (nth ps' (2 * p + 2))) (by
            have e : ((2 * (p : Int) + 1 + 1)).toNat = 2 * p + 2 := by omega
            have q : 2 * p + 2 < ps'.length := by omega
            rw [e]; simp [nth_get q, q]) ?_
          refine lt_n (hA'.units0 (by omega)) ?_
          walk_at "x"
          rw [pltb_eq]
          by_cases hx : plt (nth ps' (2 * p + 1)) (nth ps' (2 * p + 2))
          · rw [decide_eq_true hx, if_neg (by simp)]
            rw [if_neg (by simp)]
            refine ex_nil ⟨rfl, _, _, ?_, Sub.refl _, 2 * p + 1, rfl, rfl, by omega, by unfold par; omega, by omega, fun d hd hl' hpd => ?_⟩
            · walk_at "kn"
            · have : d = 2 * p + 1 ∨ d = 2 * p + 2 := by unfold par at hpd; omega
              rcases this with rfl | rfl
              · exact ple_refl _
              · exact ple_of_plt hx
          · rw [decide_eq_false hx, if_pos (by simp)]
            walk_at "t"
            rw [if_pos rfl]
            walk_at "s"; walk_at "x"
            refine ex_nil ⟨rfl, _, _, ?_, Sub.refl _, 2 * p + 2, rfl, rfl, by omega, by unfold par; omega, by omega, fun d hd hl' hpd => ?_⟩
            · have e : (((2 * p + 2 : Nat)) : Int) = 2 * (p : Int) + 1 + 1 := by omega
              rw [e]; walk_at "kn"
            · have : d = 2 * p + 1 ∨ d = 2 * p + 2 := by unfold par at hpd; omega
              rcases this with rfl | rfl
              · exact hx
              · exact ple_refl _
        · rw [decide_eq_false (by omega), if_neg (by simp)]
          rw [if_neg (by simp)]
          refine ex_nil ⟨rfl, _, _, ?_, Sub.refl _, 2 * p + 1, rfl, rfl, by omega, by unfold par; omega, by omega, fun d hd hl' hpd => ?_⟩
          · walk_at "kn"
          · have : d = 2 * p + 1 := by unfold par at hpd; omega
            subst this; exact ple_refl _
      · rintro _ _ ⟨c, rfl, rfl, hc, hpc, hc0, hmin⟩
        walk_at "s"; walk_at "x"; walk_at "x"; walk_at "x"
        refine su_item (rd_own (Sto.set_self ..)) (by omega) (by omega) (d := nm (nth ps' c)) (by simp [nth_get hc, hc]) ?_
        walk_at "x"; walk_at "x"
        refine ⟨h, _, _, rfl, rfl, Sto.set_self .., by simp; omega, by omega, by simp; omega, ?_⟩
        walk_at "s"; walk_at "x"
        walk_at "s"; walk_at "x"; walk_at "x"; walk_at "x"; walk_at "x"
        refine mul_i (IntMulOk.of_left (by decide)) ?_
        walk_at "x"; walk_at "x"
        have hpc' : p < c := by unfold par at hpc; omega
        refine ex_nil ⟨ps.length - c, by omega, _, _, ?_, Sub.refl _, ps'.set p (nth ps' c), c, rfl, ?_, rfl, hU'.step hc hpc hc0 hmin, (set_move_perm hlt' hc (by omega)).trans hperm⟩
        · walk_at "kn"
        · rw [Sto.set_set, Int.toNat_natCast, map_set_nm]
    · rw [decide_eq_false (by omega), if_neg (by simp)]
      walk_at "s"; walk_at "x"; walk_at "x"; walk_at "x"
      refine ⟨h, _, _, rfl, rfl, Sto.set_self .., by simp; omega, by omega, by simp; omega, ?_⟩
      rw [Sto.set_set, Int.toNat_natCast, map_set_nm]
      walk_at "s"
      refine ev_callF Fd ?_
      walk_at "a"; walk_at "x"; walk_at "a"; walk_at "x"; walk_at "a"; walk_at "x"; walk_at "a"
      refine siftdown_ok Fd (k := k + 1) (by omega) hA' (ps := ps'.set p (nth ps 0)) (Sto.set_self ..) (by simp; omega) ?_ fun ps2 hp2 hh2 => ⟨rfl, ?_⟩
      · rw [nth_set hlt', if_pos rfl]; exact hU'.leaf (by omega) _
      · refine ex_nil ⟨.none, _, .inr ⟨rfl, rfl⟩, Sub.refl _, ?_⟩
        rw [Sto.set_set]
        exact hP _ (hp2.trans hperm) hh2


end
-- HqY
section


variable {prog : Program} {w : World} {A : Around} {G : Gnd} {fs : List Frm} {env : Env} {m : Loc} {fn : Bool} {σ : Sto} {P : D → Sto → Prop} {PB : Bool → Sto → Prop} {PF : Fl → Loc → Sto → Prop} {PM : Loc → Sto → Prop}
theorem heappush_ok {fa fd : Addr} (F : FnAt G "heappush" fa (fnScope PW 1) (fnBody PW 1) ["heap", "item"] []) (Fd : FnAt G "_siftdown" fd (fnScope PW 3) (fnBody PW 3) ["heap", "startpos", "pos"] []) (Bl : Bn G "len" (.builtin "len"))
    {k : Nat} (hk : k ≤ 8) (hA : Rm k A) {h : Addr} {ps : NL} {x : Int × Int} (ha : σ h = some (ps.map nm)) (hl : ps.length ≤ 800)
    (hH : Hp ps) (hP : ∀ ps', ps'.Perm (x :: ps) → Hp ps' → P .none (σ.set h (ps'.map nm))) :
    Cl prog w A G fs (.ref fa) [.lst h, nm x] σ P := by
  refine cl_fn F (hA.room (by omega)) rfl (dd := []) (fun _ => IsAll.nil) (by decide) (by decide) (by decide) rfl rfl rfl (l := [("heap", .lst h), ("item", nm x)]) rfl fun qual L cdv => ?_
  have hA' := hA.deeper (envOfC qual (fnScope PW 1) L fa cdv)
  walk_at "s"
  refine ev_method1 PySem.F.slot_list_append PySem.F.type_list_append ?_
  walk_at "x"
  refine ⟨h, rfl, ⟨_, rd_own ha⟩, ?_⟩
  walk_at "a"; walk_at "x"; walk_at "a"
  refine cl_append ha (by simp; omega) ⟨rfl, ?_⟩
  have e : ps.map nm ++ [nm x] = (ps ++ [x]).map nm := by simp
  rw [e]
  walk_at "s"
  refine ev_callF Fd ?_
  walk_at "a"; walk_at "x"; walk_at "a"; walk_at "x"; walk_at "a"; walk_at "x"
  refine ev_callB Bl callB ?_
  walk_at "a"; walk_at "x"; walk_at "a"
  refine cl_len (rd_own (Sto.set_self ..)) (by simp; omega) ?_
  walk_at "x"; walk_at "x"; walk_at "a"
  have e2 : (((ps ++ [x]).map nm).length : Int) - 1 = (ps.length : Nat) := by simp
  rw [e2]
  have e3 : nth (ps ++ [x]) ps.length = x := by simp [nth]
  refine siftdown_ok Fd (k := k + 1) (by omega) hA' (ps := ps ++ [x]) (Sto.set_self ..) (by simp; omega) (by rw [e3]; exact Dn.push hH x) fun ps2 hp2 hh2 => ⟨rfl, ?_⟩
  refine ex_nil ⟨.none, _, .inr ⟨rfl, rfl⟩, Sub.refl _, ?_⟩
  rw [Sto.set_set]
  exact hP _ (hp2.trans (List.perm_append_singleton x ps)) hh2

theorem heappop_ok {fa fu fd : Addr} (F : FnAt G "heappop" fa (fnScope PW 2) (fnBody PW 2) ["heap"] []) (Fu : FnAt G "_siftup" fu (fnScope PW 4) (fnBody PW 4) ["heap", "pos"] [])
    (Fd : FnAt G "_siftdown" fd (fnScope PW 3) (fnBody PW 3) ["heap", "startpos", "pos"] []) (Bl : Bn G "len" (.builtin "len"))
    {k : Nat} (hk : k ≤ 8) (hA : Rm k A) {h : Addr} {ps : NL} (ha : σ h = some (ps.map nm)) (hl : ps.length ≤ 800) (hne : ps ≠ [])
    (hH : Hp ps) (hP : ∀ p ps', ps.Perm (p :: ps') → Hp ps' → (∀ q ∈ ps, ple p q) → P (nm p) (σ.set h (ps'.map nm))) :
    Cl prog w A G fs (.ref fa) [.lst h] σ P := by
  refine cl_fn F (hA.room (by omega)) rfl (dd := []) (fun _ => IsAll.nil) (by decide) (by decide) (by decide) rfl rfl rfl (l := [("heap", .lst h)]) rfl fun qual L cdv => ?_
  have hA' := hA.deeper (envOfC qual (fnScope PW 2) L fa cdv)
  obtain ⟨qs, x, rfl⟩ : ∃ qs x, ps = qs ++ [x] := ⟨ps.dropLast, ps.getLast hne, (List.dropLast_concat_getLast hne).symm⟩
  walk_at "s"
  refine ev_method0 PySem.F.slot_list_pop PySem.F.type_list_pop ?_
  walk_at "x"
  refine ⟨h, rfl, ⟨_, rd_own ha⟩, ?_⟩
  simp only [List.length_append, List.length_singleton] at hl
  refine cl_pop (ds := qs.map nm) (d := nm x) (by rw [ha]; simp) (by simp; omega) ?_
  refine ex_cons ?_
  refine ex_if ?_
  refine ts_value ?_
  walk_at "x"
  refine b1_list (rd_own (Sto.set_self ..)) (by simp; omega) ?_
  cases qs with
  | nil =>
    simp only [List.map_nil, List.isEmpty_nil, Bool.not_true, Bool.false_eq_true, if_false]
    refine ex_nil ?_
    walk_at "s"; walk_at "x"
    refine ⟨_, _, .inl rfl, Sub.refl _, ?_⟩
    exact hP x [] (by simp) Hp.nil (by simp [ple_refl])
  | cons q qs =>
    rw [if_pos (by simp)]
    walk_at "s"; walk_at "x"; walk_at "x"; walk_at "x"
    refine su_item (rd_own (Sto.set_self ..)) (by omega) (by omega) (d := nm q) (by simp) ?_
    walk_at "s"; walk_at "x"; walk_at "x"; walk_at "x"
    refine ⟨h, _, _, rfl, rfl, Sto.set_self .., by simp at hl ⊢; omega, by omega, by simp, ?_⟩
    rw [Sto.set_set, show (0 : Int).toNat = 0 from rfl, map_set_nm]
    walk_at "s"
    refine ev_callF Fu ?_
    walk_at "a"; walk_at "x"; walk_at "a"; walk_at "x"; walk_at "a"
    refine siftup_ok Fu Fd Bl (k := k + 1) (by omega) hA' (ps := (q :: qs).set 0 x) (Sto.set_self ..) (by simp at hl ⊢; omega) (Up.start hH.prefix (by simp) x) fun ps2 hp2 hh2 => ⟨rfl, ?_⟩
    walk_at "s"; walk_at "x"
    refine ⟨_, _, .inl rfl, Sub.refl _, ?_⟩
    rw [Sto.set_set]
    have hm : ∀ r ∈ (q :: qs) ++ [x], ple q r := fun r hr => by simpa [nth] using hH.min hr
    refine hP q ps2 ?_ hh2 hm
    have : ps2.Perm (x :: qs) := by simpa using hp2
    have h2 : ((q :: qs) ++ [x]).Perm (q :: x :: qs) := by
      simpa using List.perm_append_singleton x qs
    exact h2.trans (this.symm.cons q)

section
variable {α : Type} (e : α → D) (lt : α → α → Bool)
/-- what < of two such items gives -/
def LtOk (prog : Program) (w : World) (G : Gnd) (e : α → D) (lt : α → α → Bool) : Prop := ∀ (k : Nat) (A : Around) (fs : List Frm) (σ : Sto) (P : D → Sto → Prop) (a b : α), k ≤ 15 → Rm k A → P (.bool (lt a b)) σ → V2 prog w A G fs (compareOp .Lt) (e a) (e b) σ P
theorem ltOk_nm : LtOk prog w G nm fun p q => decide (plt p q) := fun k A fs σ P a b hk hA h => lt_n (hA.units0 (by omega)) (by rw [pltb_eq]; exact h)
theorem ltOk_int : LtOk prog w G D.int fun p q => decide (p < q) := fun k A fs σ P a b hk hA h => lt_i h

theorem bisect_body (hlt : LtOk prog w G e lt) {fa : Addr} (Bl : Bn G "len" (.builtin "len")) {k : Nat} (hk : k ≤ 10) {qual : Str} {L : Addr} {cdv : Value} (hA : Rm k A) {a : Addr} {xs : List α} {x : α} {c : Nat}
    (ha : rd G σ a = some (xs.map e)) (hl : xs.length ≤ 900) (hc : c ≤ xs.length) (h1 : ∀ i (hi : i < xs.length), i < c → lt x xs[i] = false) (h2 : ∀ i (hi : i < xs.length), c ≤ i → lt x xs[i] = true)
    (hP : P (.int c) σ) :
    Ex prog w A G (envOfC qual (fnScope PW 7) L fa cdv) true fs (fnBody PW 7) (locOf [("a", .lst a), ("x", e x), ("lo", .int 0), ("hi", .none), ("key", .none)]) σ fun fl m' σ' => ∃ d σ'', (fl = .ret d ∨ (fl = .next ∧ d = .none)) ∧ Sub σ'' σ' ∧ P d σ'' := by
  refine ex_cons ?_
  refine ex_if ?_
  walk_at "t"; walk_at "x"; walk_at "x"; walk_at "x"; walk_at "x"
  rw [decide_eq_false (by omega), if_neg (by simp)]
  refine ex_nil ?_
  refine ex_cons ?_
  refine ex_if ?_
  walk_at "t"; walk_at "x"; walk_at "x"
  refine is_N ?_
  walk_at "x"
  rw [if_pos (show isN .none = true from rfl)]
  walk_at "s"
  refine ev_callB Bl callB ?_
  walk_at "a"; walk_at "x"; walk_at "a"
  refine cl_len ha (by simp; omega) ?_
  refine ex_nil ?_
  have e0 : ((xs.map e).length : Int) = xs.length := by simp
  rw [e0]
  refine ex_mid (fun l σ' => σ' = σ ∧ l = [("lo", .int c)]) ?_ ?_
  · refine ex_if ?_
    walk_at "t"; walk_at "x"; walk_at "x"
    refine is_N ?_
    walk_at "x"
    rw [if_pos (show isN .none = true from rfl)]
    refine ex_cons ?_
    refine ex_whileK (fun n l σ' => ∃ lo hi : Nat, n = hi - lo ∧ σ' = σ ∧ l = [("a", .lst a), ("x", e x), ("lo", .int lo), ("hi", .int hi)] ∧ lo ≤ c ∧ c ≤ hi ∧ hi ≤ xs.length) xs.length ?_ ?_
    · exact ⟨_, by walk_at "kn", 0, xs.length, rfl, rfl, rfl, by omega, hc, by omega⟩
    · rintro n _ _ ⟨lo, hi, rfl, rfl, rfl, hlo, hhi, hlen⟩
      walk_at "t"; walk_at "x"; walk_at "x"; walk_at "x"; walk_at "x"
      by_cases h0 : lo < hi
      · rw [decide_eq_true (by omega), if_pos rfl]
        walk_at "s"; walk_at "x"; walk_at "x"; walk_at "x"; walk_at "x"; walk_at "x"; walk_at "x"
        refine fdiv_i (by decide) (by decide) ?_
        have em : (((lo : Int) + (hi : Int)).fdiv 2) = ((lo + hi) / 2 : Nat) := by
          rw [Int.fdiv_eq_ediv_of_nonneg _ (by decide)]; omega
        rw [em]
        have hm : (lo + hi) / 2 < xs.length := by omega
        refine ex_cons ?_
        refine ex_if ?_
        walk_at "t"; walk_at "x"; walk_at "x"; walk_at "x"; walk_at "x"
        refine su_item ha (by omega) (by omega) (d := e xs[(lo + hi) / 2]) (by rw [List.getElem?_map, Int.toNat_natCast, List.getElem?_eq_getElem hm]; rfl) ?_
        refine hlt k A _ _ _ _ _ (by omega) hA ?_
        walk_at "x"
        by_cases h3 : (lo + hi) / 2 < c
        · rw [h1 _ hm h3, if_neg (by simp)]
          walk_at "s"; walk_at "x"; walk_at "x"; walk_at "x"; walk_at "x"
          refine ex_nil (ex_nil ?_)
          refine ⟨hi - ((lo + hi) / 2 + 1), by omega, _, _, ?_, Sub.refl _, (lo + hi) / 2 + 1, hi, rfl, rfl, rfl, by omega, hhi, hlen⟩
          walk_at "kn"
        · rw [h2 _ hm (by omega), if_pos rfl]
          walk_at "s"; walk_at "x"
          refine ex_nil (ex_nil ?_)
          refine ⟨(lo + hi) / 2 - lo, by omega, _, _, ?_, Sub.refl _, lo, (lo + hi) / 2, rfl, rfl, rfl, hlo, by omega, by omega⟩
          walk_at "kn"
      · rw [decide_eq_false (by omega), if_neg (by simp)]
        have : lo = c := by omega
        subst this
        refine ex_nil ⟨rfl, _, _, ?_, Sub.refl _, rfl, rfl⟩
        walk_at "kn"
  · rintro _ _ ⟨rfl, rfl⟩
    walk_at "s"; walk_at "x"
    exact ⟨_, _, .inl rfl, Sub.refl _, hP⟩

theorem bisect2_ok (hlt : LtOk prog w G e lt) {fa : Addr} {t : Tok} (F : FnAt G "bisect_right" fa (fnScope PW 7) (fnBody PW 7) ["a", "x", "lo", "hi", "key"] [.int 0 t, .none, .none]) (Bl : Bn G "len" (.builtin "len")) {k : Nat} (hk : k ≤ 9) (hA : Rm k A) {a : Addr} {xs : List α} {x : α} {c : Nat}
    (ha : rd G σ a = some (xs.map e)) (hl : xs.length ≤ 900) (hc : c ≤ xs.length) (h1 : ∀ i (hi : i < xs.length), i < c → lt x xs[i] = false) (h2 : ∀ i (hi : i < xs.length), c ≤ i → lt x xs[i] = true)
    (hP : P (.int c) σ) : Cl prog w A G fs (.ref fa) [.lst a, e x] σ P := by
  refine cl_fn F (hA.room (by omega)) rfl (dd := [.int 0, .none, .none]) (fun _ => IsAll.cons (is_int.mpr ⟨t, rfl⟩) (IsAll.cons (is_none.mpr rfl) (IsAll.cons (is_none.mpr rfl) IsAll.nil))) (by decide) (by decide) (by decide) rfl rfl rfl (l := [("a", .lst a), ("x", e x), ("lo", .int 0), ("hi", .none), ("key", .none)]) rfl fun qual L cdv => ?_
  exact bisect_body e lt hlt Bl (k := k + 1) (by omega) (hA.deeper _) ha hl hc h1 h2 hP
theorem bisect4_ok (hlt : LtOk prog w G e lt) {fa : Addr} (F : FnAt G "bisect_right" fa (fnScope PW 7) (fnBody PW 7) ["a", "x", "lo", "hi", "key"] [.none]) (Bl : Bn G "len" (.builtin "len")) {k : Nat} (hk : k ≤ 9) (hA : Rm k A) {a : Addr} {xs : List α} {x : α} {c : Nat}
    (ha : rd G σ a = some (xs.map e)) (hl : xs.length ≤ 900) (hc : c ≤ xs.length) (h1 : ∀ i (hi : i < xs.length), i < c → lt x xs[i] = false) (h2 : ∀ i (hi : i < xs.length), c ≤ i → lt x xs[i] = true)
    (hP : P (.int c) σ) : Cl prog w A G fs (.ref fa) [.lst a, e x, .int 0, .none] σ P := by
  refine cl_fn F (hA.room (by omega)) rfl (dd := [.none]) (fun _ => IsAll.cons (is_none.mpr rfl) IsAll.nil) (by decide) (by decide) (by decide) rfl rfl rfl (l := [("a", .lst a), ("x", e x), ("lo", .int 0), ("hi", .none), ("key", .none)]) rfl fun qual L cdv => ?_
  exact bisect_body e lt hlt Bl (k := k + 1) (by omega) (hA.deeper _) ha hl hc h1 h2 hP
theorem insort_ok (hlt : LtOk prog w G e lt) {fa fb : Addr} {t : Tok} (F : FnAt G "insort_right" fa (fnScope PW 6) (fnBody PW 6) ["a", "x", "lo", "hi", "key"] [.int 0 t, .none, .none])
    (Fb : FnAt G "bisect_right" fb (fnScope PW 7) (fnBody PW 7) ["a", "x", "lo", "hi", "key"] [.none]) (Bl : Bn G "len" (.builtin "len")) {k : Nat} (hk : k ≤ 8) (hA : Rm k A) {a : Addr} {xs : List α} {x : α} {c : Nat}
    (ha : σ a = some (xs.map e)) (hl : xs.length ≤ 900) (hc : c ≤ xs.length) (h1 : ∀ i (hi : i < xs.length), i < c → lt x xs[i] = false) (h2 : ∀ i (hi : i < xs.length), c ≤ i → lt x xs[i] = true)
    (hP : P .none (σ.set a ((xs.take c ++ x :: xs.drop c).map e))) : Cl prog w A G fs (.ref fa) [.lst a, e x] σ P := by
  refine cl_fn F (hA.room (by omega)) rfl (dd := [.int 0, .none, .none]) (fun _ => IsAll.cons (is_int.mpr ⟨t, rfl⟩) (IsAll.cons (is_none.mpr rfl) (IsAll.cons (is_none.mpr rfl) IsAll.nil))) (by decide) (by decide) (by decide) rfl rfl rfl (l := [("a", .lst a), ("x", e x), ("lo", .int 0), ("hi", .none), ("key", .none)]) rfl fun qual L cdv => ?_
  have hA' := hA.deeper (envOfC qual (fnScope PW 6) L fa cdv)
  refine ex_cons ?_
  refine ex_if ?_
  walk_at "t"; walk_at "x"; walk_at "x"
  refine is_N ?_
  walk_at "x"
  rw [if_pos (show isN .none = true from rfl)]
  walk_at "s"
  refine ev_callF Fb ?_
  walk_at "a"; walk_at "x"; walk_at "a"; walk_at "x"; walk_at "a"; walk_at "x"; walk_at "a"; walk_at "x"; walk_at "a"
  refine bisect4_ok e lt hlt Fb Bl (k := k + 1) (by omega) hA' (rd_own ha) hl hc h1 h2 ?_
  refine ex_nil ?_
  walk_at "s"
  refine ev_method1 PySem.F.slot_list_insert PySem.F.type_list_insert ?_
  walk_at "x"
  refine ⟨a, rfl, ⟨_, rd_own ha⟩, ?_⟩
  walk_at "a"; walk_at "x"; walk_at "a"; walk_at "x"; walk_at "a"
  refine cl_insert ha (by simp; omega) (by omega) (by simp; omega) ⟨rfl, ?_⟩
  refine ex_nil ⟨.none, _, .inr ⟨rfl, rfl⟩, Sub.refl _, ?_⟩
  simpa using hP
end


end
-- HqZ
section


variable {prog : Program} {w : World} {A : Around} {G : Gnd} {fs : List Frm} {env : Env} {m : Loc} {fn : Bool} {σ : Sto} {P : D → Sto → Prop} {PB : Bool → Sto → Prop} {PF : Fl → Loc → Sto → Prop} {PM : Loc → Sto → Prop}
def IsRun (g : NL) (t s : Nat) : Prop := s ≤ t ∧ (∀ j, j < s → plt (nth g (t - 1 - j)) (nth g t)) ∧ (s < t → ¬ plt (nth g (t - 1 - s)) (nth g t))
theorem nm_get {g : NL} {i : Nat} (h : i < g.length) : (g.map nm)[i]? = some (nm (nth g i)) := by
  rw [List.getElem?_map, List.getElem?_eq_getElem h]; simp [nth, List.getElem?_eq_getElem h]

theorem straight_ok {fa : Addr} (F : FnAt G "_law_straight_ahead" fa (fnScope PW 11) (fnBody PW 11) ["going", "turn"] []) {k : Nat} (hk : k ≤ 8) (hA : Rm k A) {a : Addr} {g : NL} {t : Nat}
    (ha : rd G σ a = some (g.map nm)) (hl : g.length ≤ 900) (ht : t < g.length) (hP : ∀ s, IsRun g t s → P (.int (s : Nat)) σ) : Cl prog w A G fs (.ref fa) [.lst a, .int t] σ P := by
  refine cl_fn F (hA.room (by omega)) rfl (dd := []) (fun _ => IsAll.nil) (by decide) (by decide) (by decide) rfl rfl rfl (l := [("going", .lst a), ("turn", .int t)]) rfl fun qual L cdv => ?_
  have hA' := hA.deeper (envOfC qual (fnScope PW 11) L fa cdv)
  walk_at "s"; walk_at "x"
  refine ex_mid (fun l σ' => σ' = σ ∧ ∃ s, IsRun g t s ∧ l = [("size", .int (s : Nat))]) ?_ ?_
  · refine ex_whileK (fun n l σ' => ∃ s : Nat, n = t - s ∧ σ' = σ ∧ s ≤ t ∧ (∀ j, j < s → plt (nth g (t - 1 - j)) (nth g t)) ∧ l = [("going", .lst a), ("turn", .int t), ("size", .int s)]) t ?_ ?_
    · exact ⟨_, by walk_at "kn", 0, rfl, rfl, by omega, by intro j hj; omega, rfl⟩
    · rintro n _ _ ⟨s, rfl, rfl, hs, hj, rfl⟩
      walk_at "t"; walk_at "t"; walk_at "t"; walk_at "x"; walk_at "x"; walk_at "x"; walk_at "x"
      by_cases h0 : s < t
      · rw [decide_eq_true (by omega), if_pos rfl]
        walk_at "t"; walk_at "t"
        walk_at "x"; walk_at "x"; walk_at "x"; walk_at "x"; walk_at "x"; walk_at "x"; walk_at "x"; walk_at "x"; walk_at "x"
        have e1 : (t : Int) - 1 - s = ((t - 1 - s : Nat) : Int) := by omega
        rw [e1]
        refine su_item ha (by omega) (by omega) (d := nm (nth g (t - 1 - s))) (by rw [Int.toNat_natCast]; exact nm_get (by omega)) ?_
        walk_at "x"; walk_at "x"; walk_at "x"
        refine su_item ha (by omega) (by omega) (d := nm (nth g t)) (by rw [Int.toNat_natCast]; exact nm_get (by omega)) ?_
        refine lt_n (hA'.units0 (by omega)) ?_
        rw [pltb_eq]
        walk_at "x"
        by_cases h1 : plt (nth g (t - 1 - s)) (nth g t)
        · rw [decide_eq_true h1, if_pos rfl]
          walk_at "t"
          rw [if_pos rfl]
          walk_at "s"; walk_at "x"; walk_at "x"; walk_at "x"; walk_at "x"
          refine ex_nil ⟨t - (s + 1), by omega, _, _, ?_, Sub.refl _, s + 1, rfl, rfl, by omega, fun j h => ?_, rfl⟩
          · walk_at "kn"
          · rcases Nat.lt_succ_iff_lt_or_eq.mp h with h | h
            · exact hj j h
            · subst h; exact h1
        · rw [decide_eq_false h1, if_neg (by simp), if_neg (by simp)]
          refine ⟨rfl, _, _, ?_, Sub.refl _, rfl, s, ⟨hs, hj, fun _ => h1⟩, rfl⟩
          walk_at "kn"
      · rw [decide_eq_false (by omega), if_neg (by simp), if_neg (by simp)]
        refine ⟨rfl, _, _, ?_, Sub.refl _, rfl, s, ⟨hs, hj, fun h => absurd h h0⟩, rfl⟩
        walk_at "kn"
  · rintro _ _ ⟨rfl, s, hs, rfl⟩
    walk_at "s"; walk_at "x"
    exact ⟨_, _, .inl rfl, Sub.refl _, hP s hs⟩

theorem empty_ok {fa fp : Addr} (F : FnAt G "_law_empty" fa (fnScope PW 12) (fnBody PW 12) ["heap"] []) (Fp : FnAt G "heappop" fp (fnScope PW 2) (fnBody PW 2) ["heap"] []) (Bi : Bn G "IndexError" (.type "IndexError"))
    {k : Nat} (hk : k ≤ 8) (hA : Rm k A) (hS : Stk A fs) {h : Addr} (ha : σ h = some []) (hP : P (.bool true) σ) : Cl prog w A G fs (.ref fa) [.lst h] σ P := by
  refine cl_fn F (hA.room (by omega)) rfl (dd := []) (fun _ => IsAll.nil) (by decide) (by decide) (by decide) rfl rfl rfl (l := [("heap", .lst h)]) rfl fun qual L cdv => ?_
  have hA' := hA.deeper (envOfC qual (fnScope PW 12) L fa cdv)
  have hS' : Stk (A.deeper (envOfC qual (fnScope PW 12) L fa cdv)) (⟨envOfC qual (fnScope PW 12) L fa cdv, locOf [("heap", .lst h)], true⟩ :: fs) := hS.deeper rfl rfl
  refine ex_cons ?_
  refine ex_try_raise (PR := (· = σ)) hS' Bi ?_ ?_
  · refine rs_expr (rs_callF Fp ?_)
    walk_at "a"; walk_at "x"; walk_at "a"
    exact cr_pop (v := "lastelt") (z := "heap") hA'.1 hS' (hA'.room (by omega)) ha Fp rfl rfl (by decide) rfl rfl rfl rfl
  · rintro e _ rfl
    walk_at "s"
    walk_at "x"; walk_at "x"
    refine ev_list ?_
    walk_at "a"
    refine ⟨by simp, fun b hb hb' => ?_⟩
    have hne : h ≠ b := by rintro rfl; rw [ha] at hb; cases hb
    refine eq_l (by show A.units + 3 + 64 < cLine; have := hA.units (by omega); have := hA.2.2; show A.units + 3 + 64 < 9900; omega) (rd_own (by rw [Sto.set_ne _ _ hne]; exact ha)) (rd_own (Sto.set_self ..)) (by simp) (by simp) ?_
    exact ⟨_, _, .inl rfl, Sub.new (Sub.refl _) hb, hP⟩


end
-- HqR
section


variable {prog : Program} {w : World} {A : Around} {G : Gnd} {fs : List Frm} {env : Env} {m : Loc} {fn : Bool} {σ : Sto} {P : D → Sto → Prop} {PB : Bool → Sto → Prop} {PF : Fl → Loc → Sto → Prop} {PM : Loc → Sto → Prop}
/-- insort_right on sorted ints, on sorted names -/
theorem insortI_ok {fa fb : Addr} {t : Tok} (F : FnAt G "insort_right" fa (fnScope PW 6) (fnBody PW 6) ["a", "x", "lo", "hi", "key"] [.int 0 t, .none, .none])
    (Fb : FnAt G "bisect_right" fb (fnScope PW 7) (fnBody PW 7) ["a", "x", "lo", "hi", "key"] [.none]) (Bl : Bn G "len" (.builtin "len")) {k : Nat} (hk : k ≤ 8) (hA : Rm k A) {a : Addr} {xs : List Int} {x : Int}
    (ha : σ a = some (xs.map D.int)) (hl : xs.length ≤ 900) (hs : xs.Pairwise (· ≤ ·)) (hP : P .none (σ.set a ((putIn (fun a b => decide (a < b)) x xs).map D.int))) : Cl prog w A G fs (.ref fa) [.lst a, .int x] σ P := by
  obtain ⟨k1, k2, k3, k4⟩ := cut_spec (f := fun y => decide (x < y)) (mono_int hs)
  refine insort_ok D.int _ ltOk_int F Fb Bl hk hA ha hl List.countP_le_length k1 k2 ?_
  rw [k3, k4]; exact hP
theorem insortN_ok {fa fb : Addr} {t : Tok} (F : FnAt G "insort_right" fa (fnScope PW 6) (fnBody PW 6) ["a", "x", "lo", "hi", "key"] [.int 0 t, .none, .none])
    (Fb : FnAt G "bisect_right" fb (fnScope PW 7) (fnBody PW 7) ["a", "x", "lo", "hi", "key"] [.none]) (Bl : Bn G "len" (.builtin "len")) {k : Nat} (hk : k ≤ 8) (hA : Rm k A) {a : Addr} {xs : NL} {x : Int × Int}
    (ha : σ a = some (xs.map nm)) (hl : xs.length ≤ 900) (hs : xs.Pairwise plt) (hP : P .none (σ.set a ((putIn (fun a b => decide (plt a b)) x xs).map nm))) : Cl prog w A G fs (.ref fa) [.lst a, nm x] σ P := by
  obtain ⟨k1, k2, k3, k4⟩ := cut_spec (f := fun y => decide (plt x y)) (mono_nm hs)
  refine insort_ok nm _ ltOk_nm F Fb Bl hk hA ha hl List.countP_le_length k1 k2 ?_
  rw [k3, k4]; exact hP
theorem bisectI_ok {fa : Addr} {t : Tok} (F : FnAt G "bisect_right" fa (fnScope PW 7) (fnBody PW 7) ["a", "x", "lo", "hi", "key"] [.int 0 t, .none, .none]) (Bl : Bn G "len" (.builtin "len")) {k : Nat} (hk : k ≤ 9) (hA : Rm k A) {a : Addr} {xs : List Int} {x : Int}
    (ha : rd G σ a = some (xs.map D.int)) (hl : xs.length ≤ 900) (hs : xs.Pairwise (· ≤ ·)) (hP : P (.int (xs.countP (fun y => !decide (x < y)) : Nat)) σ) : Cl prog w A G fs (.ref fa) [.lst a, .int x] σ P := by
  obtain ⟨k1, k2, k3, k4⟩ := cut_spec (f := fun y => decide (x < y)) (mono_int hs)
  exact bisect2_ok D.int _ ltOk_int F Bl hk hA ha hl List.countP_le_length k1 k2 hP
theorem bisectN_ok {fa : Addr} {t : Tok} (F : FnAt G "bisect_right" fa (fnScope PW 7) (fnBody PW 7) ["a", "x", "lo", "hi", "key"] [.int 0 t, .none, .none]) (Bl : Bn G "len" (.builtin "len")) {k : Nat} (hk : k ≤ 9) (hA : Rm k A) {a : Addr} {xs : NL} {x : Int × Int}
    (ha : rd G σ a = some (xs.map nm)) (hl : xs.length ≤ 900) (hs : xs.Pairwise plt) (hP : P (.int (xs.countP (fun y => !decide (plt x y)) : Nat)) σ) : Cl prog w A G fs (.ref fa) [.lst a, nm x] σ P := by
  obtain ⟨k1, k2, k3, k4⟩ := cut_spec (f := fun y => decide (plt x y)) (mono_nm hs)
  exact bisect2_ok nm _ ltOk_nm F Bl hk hA ha hl List.countP_le_length k1 k2 hP

theorem readback_ok {fa fi fb fc : Addr} {t t' : Tok} (F : FnAt G "_law_read_back" fa (fnScope PW 10) (fnBody PW 10) ["spots"] [])
    (Fi : FnAt G "insort_right" fi (fnScope PW 6) (fnBody PW 6) ["a", "x", "lo", "hi", "key"] [.int 0 t, .none, .none]) (Fb : FnAt G "bisect_right" fb (fnScope PW 7) (fnBody PW 7) ["a", "x", "lo", "hi", "key"] [.none])
    (Fc : FnAt G "bisect_right" fc (fnScope PW 7) (fnBody PW 7) ["a", "x", "lo", "hi", "key"] [.int 0 t', .none, .none]) (Bl : Bn G "len" (.builtin "len"))
    {k : Nat} (hk : k ≤ 7) (hA : Rm k A) {a : Addr} {sp : List Int} (ha : rd G σ a = some (sp.map D.int)) (hl : sp.length ≤ 800)
    (hP : ∀ b, σ b = none → G.base b = none → P (.lst b) (σ.set b ((List.range sp.length).map fun i => D.int (backAt sp i)))) : Cl prog w A G fs (.ref fa) [.lst a] σ P := by
  refine cl_fn F (hA.room (by omega)) rfl (dd := []) (fun _ => IsAll.nil) (by decide) (by decide) (by decide) rfl rfl rfl (l := [("spots", .lst a)]) rfl fun qual L cdv => ?_
  have hA' := hA.deeper (envOfC qual (fnScope PW 10) L fa cdv)
  walk_at "s"
  refine ev_list ?_
  walk_at "a"
  refine ⟨by simp, fun p hp hp' => ?_⟩
  walk_at "s"
  refine ev_list ?_
  walk_at "a"
  refine ⟨by simp, fun c hc hc' => ?_⟩
  have hcp : c ≠ p := by rintro rfl; rw [Sto.set_self] at hc; cases hc
  have hcσ : σ c = none := by rw [Sto.set_ne _ _ hcp] at hc; exact hc
  have hrd : ∀ x y, rd G ((σ.set p x).set c y) a = some (sp.map D.int) := fun x y => by
    unfold rd at ha ⊢
    have h1 : a ≠ p := by rintro rfl; rw [hp, hp'] at ha; cases ha
    have h2 : a ≠ c := by rintro rfl; rw [hcσ, hc'] at ha; cases ha
    rw [Sto.set_ne _ _ h2, Sto.set_ne _ _ h1]; exact ha
  refine ex_mid (fun l τ => l = [("code", .lst c)] ∧ τ = σ.set c ((List.range sp.length).map fun i => D.int (backAt sp i))) ?_ ?_
  · refine ex_forK hA'.1 ?_
    walk_at "x"
    refine ⟨sp.map D.int, fun i l τ => ∃ ps : List Int, ps.Perm (sp.take i) ∧ ps.Pairwise (· ≤ ·) ∧ τ = (σ.set p (ps.map D.int)).set c ((List.range i).map fun i => D.int (backAt sp i)) ∧ l = [("spots", .lst a), ("places", .lst p), ("code", .lst c)],
      .inl ⟨_, _, rfl⟩, (by rintro ⟨_, _, _, h⟩; cases h), ⟨_, _, ?_, Sub.refl _, [], by simp, by simp, rfl, rfl⟩, ?_, ?_, ?_⟩
    · walk_at "kn"
    · rintro i _ _ ⟨ps, _, _, rfl, rfl⟩; exact hrd _ _
    · rintro i e _ _ he ⟨ps, hps, hso, rfl, rfl⟩
      have hi : i < sp.length := by have := (List.getElem?_eq_some_iff.mp he).1; simpa using this
      have he' : e = .int (sp.getD i 0) := by
        rw [List.getElem?_map, List.getElem?_eq_getElem hi] at he
        simp only [Option.map_some, Option.some.injEq] at he
        rw [← he]; simp [hi]
      subst he'
      have hplen : ps.length = i := by rw [hps.length_eq, List.length_take]; omega
      have hget : ((σ.set p (ps.map D.int)).set c ((List.range i).map fun i => D.int (backAt sp i))) p = some (ps.map D.int) := by rw [Sto.set_ne _ _ (Ne.symm hcp), Sto.set_self]
      refine sn_let ?_
      walk_at "s"
      refine ev_method1 PySem.F.slot_list_append PySem.F.type_list_append ?_
      walk_at "x"
      refine ⟨c, rfl, ⟨_, rd_own (Sto.set_self ..)⟩, ?_⟩
      walk_at "a"; walk_at "x"
      refine ev_callB Bl callB ?_
      walk_at "a"; walk_at "x"; walk_at "a"
      refine cl_len (rd_own hget) (by simp; omega) ?_
      refine ev_callF Fc ?_
      walk_at "a"; walk_at "x"; walk_at "a"; walk_at "x"; walk_at "a"
      refine bisectI_ok Fc Bl (k := k + 1) (by omega) hA' (rd_own hget) (by omega) hso ?_
      walk_at "x"; walk_at "a"
      refine cl_append (Sto.set_self ..) (by simp; omega) ⟨rfl, ?_⟩
      rw [List.length_map, count_gt hps, Sto.set_set]
      have e3 : (List.range i).map (fun i => D.int (backAt sp i)) ++ [D.int ((sp.take i).countP fun y => decide (sp.getD i 0 < y) : Nat)] = (List.range (i + 1)).map (fun i => D.int (backAt sp i)) := by
        rw [List.range_succ, List.map_append]; rfl
      rw [e3]
      have hget2 : ((σ.set p (ps.map D.int)).set c ((List.range (i + 1)).map fun i => D.int (backAt sp i))) p = some (ps.map D.int) := by rw [Sto.set_ne _ _ (Ne.symm hcp), Sto.set_self]
      walk_at "s"
      refine ev_callF Fi ?_
      walk_at "a"; walk_at "x"; walk_at "a"; walk_at "x"; walk_at "a"
      refine insortI_ok Fi Fb Bl (k := k + 1) (by omega) hA' hget2 (by omega) hso ⟨rfl, ?_⟩
      refine ex_nil ⟨_, _, ?_, Sub.refl _, putIn (fun a b => decide (a < b)) (sp.getD i 0) ps, ?_, putIn_sorted_int hso, ?_, rfl⟩
      · walk_at "kn"
      · refine (putIn_perm _ _ _).trans ?_
        have e4 : sp.take (i + 1) = sp.take i ++ [sp.getD i 0] := by rw [List.take_add_one, List.getElem?_eq_getElem hi]; simp [hi]
        rw [e4]
        exact (hps.cons _).trans (List.perm_append_singleton _ _).symm
      · rw [Sto.set_comm _ _ _ hcp, Sto.set_set]
    · rintro _ _ ⟨ps, _, _, rfl, rfl⟩
      refine ⟨rfl, _, _, ?_, ?_, rfl, rfl⟩
      · walk_at "kn"
      · rw [List.length_map]; exact Sub.set _ _ (Sub.new (Sub.refl _) hp)
  · rintro _ _ ⟨rfl, rfl⟩
    walk_at "s"; walk_at "x"
    exact ⟨_, _, .inl rfl, Sub.refl _, hP c hcσ hc'⟩


end
-- HqU
section


variable {prog : Program} {w : World} {A : Around} {G : Gnd} {fs : List Frm} {env : Env} {m : Loc} {fn : Bool} {σ : Sto} {P : D → Sto → Prop} {PB : Bool → Sto → Prop} {PF : Fl → Loc → Sto → Prop} {PM : Loc → Sto → Prop}
/- the two orders -/
def goAt (all : NL) (j : Nat) : Int × Int := ((nth all j).1, (j : Int))
def goL (all : NL) (n : Nat) : NL := (List.range n).map (goAt all)
def coL (all : NL) : Nat → NL
  | 0 => []
  | i + 1 => (coL all i).take (i - (nth all i).2.toNat) ++ goAt all i :: (coL all i).drop (i - (nth all i).2.toNat)
def beL (all : NL) (n : Nat) : List Int := (List.range n).map fun j => (nth all j).2
def AllOk (all : NL) : Prop := 4 ≤ all.length ∧ all.length ≤ 14 ∧ ∀ i, i < all.length → 0 ≤ (nth all i).2 ∧ (nth all i).2 ≤ i
theorem goL_len (all : NL) (n : Nat) : (goL all n).length = n := by simp [goL]
theorem beL_len (all : NL) (n : Nat) : (beL all n).length = n := by simp [beL]
theorem coL_len (all : NL) : ∀ n, (coL all n).length = n
  | 0 => rfl
  | n + 1 => by simp [coL, coL_len all n]; omega
theorem coL_perm (all : NL) : ∀ n, (coL all n).Perm (goL all n)
  | 0 => by simp [coL, goL]
  | n + 1 => by
    have e : goL all (n + 1) = goL all n ++ [goAt all n] := by simp [goL, List.range_succ]
    rw [e]
    unfold coL
    refine List.perm_middle.trans ?_
    rw [List.take_append_drop]
    exact ((coL_perm all n).cons _).trans (List.perm_append_singleton _ _).symm

theorem range_all (n : Nat) : rngL 0 (n : Nat) = (List.range n).map fun (i : Nat) => D.int i := by simp [rngL]

def drawF (ns : List Int) : D → Option D
  | .int k => some (.tup [.int ((ns.getD k.toNat 0).fdiv (k + 1)), .int ((ns.getD k.toNat 0).fmod (k + 1))])
  | _ => none
def drawL (ns : List Int) : NL := (List.range (min ns.length 10)).map fun (k : Nat) => ((ns.getD k 0).fdiv ((k : Int) + 1), (ns.getD k 0).fmod ((k : Int) + 1))
def allL (ns : List Int) : NL := drawL ns ++ [(1, 0), (2, 1), (3, 2), (4, 3)]
theorem allL_ok (ns : List Int) : AllOk (allL ns) := by
  have hl : (drawL ns).length = min ns.length 10 := by simp [drawL]
  refine ⟨by simp [allL], by simp [allL, hl]; omega, fun i hi => ?_⟩
  by_cases h : i < (drawL ns).length
  · have e : nth (allL ns) i = ((ns.getD i 0).fdiv ((i : Int) + 1), (ns.getD i 0).fmod ((i : Int) + 1)) := by
      unfold nth allL
      rw [List.getD_eq_getElem?_getD, List.getElem?_append_left h]
      rw [hl] at h
      simp [drawL, h]
    rw [e]
    have h1 := Int.fmod_nonneg_of_pos (ns.getD i 0) (b := (i : Int) + 1) (by omega)
    have h2 := Int.fmod_lt_of_pos (ns.getD i 0) (b := (i : Int) + 1) (by omega)
    exact ⟨h1, by show (ns.getD i 0).fmod ((i : Int) + 1) ≤ i; omega⟩
  · simp only [allL, List.length_append, List.length_cons, List.length_nil] at hi
    obtain ⟨j, rfl⟩ : ∃ j, i = (drawL ns).length + j := ⟨i - (drawL ns).length, by omega⟩
    have e : nth (allL ns) ((drawL ns).length + j) = nth [(1, 0), (2, 1), (3, 2), (4, 3)] j := by
      unfold nth allL
      rw [List.getD_eq_getElem?_getD, List.getElem?_append_right (by omega), List.getD_eq_getElem?_getD]
      simp
    rw [e]
    have hj : j < 4 := by omega
    match j, hj with
    | 0, _ => simp [nth]
    | 1, _ => simp [nth]; omega
    | 2, _ => simp [nth]; omega
    | 3, _ => simp [nth]; omega

theorem orders_ok {fa : Addr} (F : FnAt G "_law_orders" fa (fnScope PW 9) (fnBody PW 9) ["script"] []) (Bl : Bn G "len" (.builtin "len")) (Bd : Bn G "divmod" (.builtin "divmod")) (Br : Bn G "range" (.type "range")) (Bm : Bn G "min" (.builtin "min"))
    {k : Nat} (hk : k ≤ 8) (hA : Rm k A) {a : Addr} {ns : List Int} (ha : rd G σ a = some (ns.map D.int)) (hl : ns.length ≤ 900)
    (hP : ∀ g c b τ, τ g = some ((goL (allL ns) (allL ns).length).map nm) → τ c = some ((coL (allL ns) (allL ns).length).map nm) → τ b = some ((beL (allL ns) (allL ns).length).map D.int) → P (.tup [.lst g, .lst c, .lst b]) τ) :
    Cl prog w A G fs (.ref fa) [.lst a] σ P := by
  refine cl_fn F (hA.room (by omega)) rfl (dd := []) (fun _ => IsAll.nil) (by decide) (by decide) (by decide) rfl rfl rfl (l := [("script", .lst a)]) rfl fun qual L cdv => ?_
  have hA' := hA.deeper (envOfC qual (fnScope PW 9) L fa cdv)
  have rdk : ∀ {τ : Sto} {b : Addr} {x : List D}, τ b = none → G.base b = none → rd G τ a = some (ns.map D.int) → rd G (τ.set b x) a = some (ns.map D.int) := fun {τ b x} h1 h2 h3 => by
    have : a ≠ b := by rintro rfl; unfold rd at h3; rw [h1, h2] at h3; cases h3
    unfold rd at h3 ⊢; rw [Sto.set_ne _ _ this]; exact h3
  walk_at "s"
  refine ev_list ?_
  walk_at "a"
  refine ⟨by simp, fun g hg hg' => ?_⟩
  walk_at "s"
  refine ev_list ?_
  walk_at "a"
  refine ⟨by simp, fun c hc hc' => ?_⟩
  walk_at "s"
  refine ev_list ?_
  walk_at "a"
  refine ⟨by simp, fun b hb hb' => ?_⟩
  have ha3 := rdk (x := []) hb hb' (rdk (x := []) hc hc' (rdk (x := []) hg hg' ha))
  refine ex_cons ?_
  refine ex_letcomp hA'.1 rfl ⟨rfl, trivial⟩ ?_
  refine ev_callB Br callT ?_
  walk_at "a"
  refine ev_callB Bm callB ?_
  walk_at "a"
  refine ev_callB Bl callB ?_
  walk_at "a"; walk_at "x"; walk_at "a"
  refine cl_len ha3 (by simp; omega) ?_
  walk_at "a"; walk_at "x"; walk_at "a"
  refine cl_min2 hA'.1 ?_
  walk_at "a"
  refine cl_range1 ?_
  have em : (if (10 : Int) < ((ns.map D.int).length : Nat) then (10 : Int) else ((ns.map D.int).length : Nat)) = ((min ns.length 10 : Nat) : Int) := by
    rw [List.length_map]; split <;> omega
  rw [em]
  refine ⟨rngL 0 ((min ns.length 10 : Nat) : Int), drawF ns, [("script", .lst a)], .inl ⟨_, _, rfl⟩, (by rintro ⟨_, _, _, h⟩; cases h), ⟨rfl, by omega, by omega, by omega, by omega⟩, by rw [range_all]; simp; omega, ?_, ?_, ?_⟩
  · intro C
    exact ⟨⟨by walk_at "lk", rfl, rfl, rfl⟩, trivial⟩
  · intro C e he
    rw [range_all] at he
    obtain ⟨i, hi, rfl⟩ := List.mem_map.mp he
    have hi := List.mem_range.mp hi
    refine sn_let ?_
    refine ct_nil ?_
    rw [if_pos rfl]
    refine ev_callB Bd callB ?_
    walk_at "a"; walk_at "x"; walk_at "x"; walk_at "x"
    refine su_item ha3 (by omega) (by omega) (d := .int (ns.getD i 0)) (by rw [List.getElem?_map, Int.toNat_natCast, List.getElem?_eq_getElem (by omega)]; simp [show i < ns.length by omega]) ?_
    walk_at "a"; walk_at "x"; walk_at "x"; walk_at "x"; walk_at "x"; walk_at "a"
    refine cl_divmod (by omega) (by omega) ?_
    exact ⟨Sub.refl _, rfl⟩
  · intro d hd hd'
    have hgc : g ≠ c := by rintro rfl; rw [Sto.set_self] at hc; cases hc
    have hbc : b ≠ c := by rintro rfl; rw [Sto.set_self] at hb; cases hb
    have hbg : b ≠ g := by rintro rfl; rw [Sto.set_ne _ _ hbc, Sto.set_self] at hb; cases hb
    have hdb : d ≠ b := by rintro rfl; rw [Sto.set_self] at hd; cases hd
    have hdc : d ≠ c := by rintro rfl; rw [Sto.set_ne _ _ (Ne.symm hbc), Sto.set_self] at hd; cases hd
    have hdg : d ≠ g := by rintro rfl; rw [Sto.set_ne _ _ (Ne.symm hbg), Sto.set_ne _ _ hgc, Sto.set_self] at hd; cases hd
    have ed : (rngL 0 ((min ns.length 10 : Nat) : Int)).filterMap (drawF ns) = (drawL ns).map nm := by
      rw [range_all, List.filterMap_map, drawL, List.map_map, ← List.filterMap_eq_map]; rfl
    rw [ed]
    refine ex_mid (fun l τ => l = [("going", .lst g), ("coming", .lst c), ("behind", .lst b)] ∧ τ g = some ((goL (allL ns) (allL ns).length).map nm) ∧ τ c = some ((coL (allL ns) (allL ns).length).map nm) ∧ τ b = some ((beL (allL ns) (allL ns).length).map D.int)) ?_ ?_
    · refine ex_forK hA'.1 ?_
      walk_at "x"; walk_at "x"
      refine ev_list ?_
      walk_at "a"; refine ev_tuple ?_; walk_at "a"; walk_at "x"; walk_at "a"; walk_at "x"; walk_at "a"; refine ⟨by simp, ?_⟩
      walk_at "a"; refine ev_tuple ?_; walk_at "a"; walk_at "x"; walk_at "a"; walk_at "x"; walk_at "a"; refine ⟨by simp, ?_⟩
      walk_at "a"; refine ev_tuple ?_; walk_at "a"; walk_at "x"; walk_at "a"; walk_at "x"; walk_at "a"; refine ⟨by simp, ?_⟩
      walk_at "a"; refine ev_tuple ?_; walk_at "a"; walk_at "x"; walk_at "a"; walk_at "x"; walk_at "a"; refine ⟨by simp, ?_⟩
      walk_at "a"
      refine ⟨by simp, fun d2 hd2 hd2' => ?_⟩
      have hd2d : d2 ≠ d := by rintro rfl; rw [Sto.set_self] at hd2; cases hd2
      have hdl : (drawL ns).length ≤ 10 := by simp [drawL]; omega
      refine add_l (ds := (drawL ns).map nm) (es := [nm (1, 0), nm (2, 1), nm (3, 2), nm (4, 3)]) (rd_own (by walk_at "rd")) (rd_own (by walk_at "rd")) (by simp; omega) fun u hu hu' => ?_
      have eu : (drawL ns).map nm ++ [nm (1, 0), nm (2, 1), nm (3, 2), nm (4, 3)] = (allL ns).map nm := by simp [allL]
      rw [eu]
      obtain ⟨hN4, hN14, hback⟩ := allL_ok ns
      generalize hall : allL ns = all at *
      have ne_of : ∀ {x : Addr} {ds : List D} {τ : Sto}, τ x = some ds → τ u = none → x ≠ u := fun h1 h2 => by rintro rfl; rw [h1] at h2; cases h2
      have hgu : g ≠ u := ne_of (ds := []) (by
        have h1 : g ≠ d2 := by
          rintro rfl
          rw [Sto.set_ne _ _ (Ne.symm hdg), Sto.set_ne _ _ (Ne.symm hbg), Sto.set_ne _ _ hgc, Sto.set_self] at hd2; cases hd2
        walk_at "rd") hu
      have hcu : c ≠ u := ne_of (ds := []) (by
        have h1 : c ≠ d2 := by
          rintro rfl
          rw [Sto.set_ne _ _ (Ne.symm hdc), Sto.set_ne _ _ (Ne.symm hbc), Sto.set_self] at hd2; cases hd2
        walk_at "rd") hu
      have hbu : b ≠ u := ne_of (ds := []) (by
        have h1 : b ≠ d2 := by
          rintro rfl
          rw [Sto.set_ne _ _ (Ne.symm hdb), Sto.set_self] at hd2; cases hd2
        walk_at "rd") hu
      refine ⟨all.map nm, fun i l τ => τ u = some (all.map nm) ∧ τ g = some ((goL all i).map nm) ∧ τ c = some ((coL all i).map nm) ∧ τ b = some ((beL all i).map D.int) ∧ l = [("going", .lst g), ("coming", .lst c), ("behind", .lst b)],
        .inr ⟨⟨_, _, _, rfl⟩, u, rfl⟩, (fun _ e he => by obtain ⟨p, _, rfl⟩ := List.mem_map.mp he; exact ⟨_, rfl⟩), ⟨_, _, ?_, Sub.refl _, ?_, ?_, ?_, ?_, rfl⟩, ?_, ?_, ?_⟩
      · walk_at "kn"
      · walk_at "rd"
      · have h1 : g ≠ d2 := by
          rintro rfl
          rw [Sto.set_ne _ _ (Ne.symm hdg), Sto.set_ne _ _ (Ne.symm hbg), Sto.set_ne _ _ hgc, Sto.set_self] at hd2; cases hd2
        show _ = some []
        walk_at "rd"
      · have h1 : c ≠ d2 := by
          rintro rfl
          rw [Sto.set_ne _ _ (Ne.symm hdc), Sto.set_ne _ _ (Ne.symm hbc), Sto.set_self] at hd2; cases hd2
        show _ = some []
        walk_at "rd"
      · have h1 : b ≠ d2 := by
          rintro rfl
          rw [Sto.set_ne _ _ (Ne.symm hdb), Sto.set_self] at hd2; cases hd2
        show _ = some []
        walk_at "rd"
      · rintro i _ τ ⟨h1, _, _, _, rfl⟩; exact rd_own h1
      · rintro i e _ τ he ⟨h1, h2, h3, h4, rfl⟩
        have hi : i < all.length := by have := (List.getElem?_eq_some_iff.mp he).1; simpa using this
        have he' : e = nm (nth all i) := by rw [nm_get hi] at he; exact (Option.some.inj he).symm
        subst he'
        obtain ⟨hb0, hb1⟩ := hback i hi
        refine sn_tuple hA'.1 ?_
        refine sn_let ?_
        refine sn_let ?_
        walk_at "s"
        refine ev_tuple ?_
        walk_at "a"; walk_at "x"; walk_at "a"
        refine ev_callB Bl callB ?_
        walk_at "a"; walk_at "x"; walk_at "a"
        refine cl_len (rd_own h2) (by rw [List.length_map, goL_len]; omega) ?_
        walk_at "a"
        refine ⟨by simp, ?_⟩
        rw [List.length_map, goL_len]
        walk_at "s"
        refine ev_method1 PySem.F.slot_list_insert PySem.F.type_list_insert ?_
        walk_at "x"
        refine ⟨c, rfl, ⟨_, rd_own h3⟩, ?_⟩
        walk_at "a"; walk_at "x"
        refine ev_callB Bl callB ?_
        walk_at "a"; walk_at "x"; walk_at "a"
        refine cl_len (rd_own h3) (by rw [List.length_map, coL_len]; omega) ?_
        walk_at "x"; walk_at "x"
        rw [List.length_map, coL_len]
        walk_at "a"; walk_at "x"; walk_at "a"
        refine cl_insert h3 (by rw [List.length_map, coL_len]; omega) (by omega) (by rw [List.length_map, coL_len]; omega) ⟨rfl, ?_⟩
        walk_at "s"
        refine ev_method1 PySem.F.slot_list_append PySem.F.type_list_append ?_
        walk_at "x"
        refine ⟨g, rfl, ⟨_, rd_own (by walk_at "rd")⟩, ?_⟩
        walk_at "a"; walk_at "x"; walk_at "a"
        refine cl_append (ds := (goL all i).map nm) (by walk_at "rd") (by rw [List.length_map, goL_len]; omega) ⟨rfl, ?_⟩
        walk_at "s"
        refine ev_method1 PySem.F.slot_list_append PySem.F.type_list_append ?_
        walk_at "x"
        refine ⟨b, rfl, ⟨_, rd_own (by walk_at "rd")⟩, ?_⟩
        walk_at "a"; walk_at "x"; walk_at "a"
        refine cl_append (ds := (beL all i).map D.int) (by walk_at "rd") (by rw [List.length_map, beL_len]; omega) ⟨rfl, ?_⟩
        refine ex_nil ⟨_, _, ?_, Sub.refl _, ?_, ?_, ?_, ?_, rfl⟩
        · walk_at "kn"
        · walk_at "rd"
        · have e1 : (goL all (i + 1)).map nm = (goL all i).map nm ++ [nm (goAt all i)] := by simp [goL, List.range_succ]
          rw [e1]
          walk_at "rd"
        · have e1 : ((i : Int) - (nth all i).2).toNat = i - (nth all i).2.toNat := by omega
          rw [e1]
          have e2 : (coL all (i + 1)).map nm = ((coL all i).map nm).take (i - (nth all i).2.toNat) ++ nm (goAt all i) :: ((coL all i).map nm).drop (i - (nth all i).2.toNat) := by simp [coL]
          rw [e2]
          walk_at "rd"
        · have e1 : (beL all (i + 1)).map D.int = (beL all i).map D.int ++ [D.int (nth all i).2] := by simp [beL, List.range_succ]
          rw [e1]
          walk_at "rd"
      · rintro _ τ ⟨h1, h2, h3, h4, rfl⟩
        rw [List.length_map] at h2 h3 h4
        refine ⟨rfl, _, _, ?_, Sub.refl _, rfl, h2, h3, h4⟩
        walk_at "kn"
    · rintro _ τ ⟨rfl, h2, h3, h4⟩
      walk_at "s"
      refine ev_tuple ?_
      walk_at "a"; walk_at "x"; walk_at "a"; walk_at "x"; walk_at "a"; walk_at "x"; walk_at "a"
      refine ⟨by simp, ?_⟩
      exact ⟨_, _, .inl rfl, Sub.refl _, hP g c b τ h2 h3 h4⟩


end
-- HqVa
section
theorem two_of (all : NL) (N : Nat) : Two N (goAt all) (coL all N) := ⟨fun i j _ _ e => by have h : (i : Int) = j := congrArg Prod.snd e; omega, coL_perm all N⟩
theorem coL_mem {all : NL} {n : Nat} {y : Int × Int} : y ∈ coL all n ↔ ∃ j, j < n ∧ goAt all j = y := by
  rw [(coL_perm all n).mem_iff]; simp [goL]
theorem insert_mid {α : Type} (A B : List α) (x z : α) (q : Nat) : ∃ A' B', (A ++ x :: B).take q ++ z :: (A ++ x :: B).drop q = A' ++ x :: B' ∧ ((A' = A.take q ++ z :: A.drop q ∧ B' = B) ∨ (A' = A ∧ ∃ r, B' = B.take r ++ z :: B.drop r)) := by
  by_cases h : q ≤ A.length
  · refine ⟨A.take q ++ z :: A.drop q, B, ?_, .inl ⟨rfl, rfl⟩⟩
    rw [List.take_append_of_le_length h, List.drop_append_of_le_length h]; simp
  · obtain ⟨r, rfl⟩ : ∃ r, q = A.length + (r + 1) := ⟨q - A.length - 1, by omega⟩
    refine ⟨A, B.take r ++ z :: B.drop r, ?_, .inr ⟨rfl, r, rfl⟩⟩
    rw [List.take_length_add_append, List.drop_length_add_append]; simp
theorem coL_split {all : NL} {i : Nat} (hb : 0 ≤ (nth all i).2 ∧ (nth all i).2 ≤ i) : ∀ n, i < n → ∃ A B, coL all n = A ++ goAt all i :: B ∧ B.countP (fun y => decide (y.2 < (i : Int))) = (nth all i).2.toNat
  | 0, h => by omega
  | n + 1, h => by
    by_cases q : i < n
    · obtain ⟨A, B, e, c⟩ := coL_split hb n q
      obtain ⟨A', B', e', k⟩ := insert_mid A B (goAt all i) (goAt all n) (n - (nth all n).2.toNat)
      refine ⟨A', B', by unfold coL; rw [e]; exact e', ?_⟩
      rcases k with ⟨_, rfl⟩ | ⟨_, r, rfl⟩
      · exact c
      · have hn : (decide ((goAt all n).2 < (i : Int))) = false := by simp [goAt]; omega
        rw [List.countP_append, List.countP_cons, hn]
        have := List.countP_append (p := fun y : Int × Int => decide (y.2 < (i : Int))) (l₁ := B.take r) (l₂ := B.drop r)
        rw [List.take_append_drop] at this
        simp; omega
    · have e : i = n := by omega
      subst e
      refine ⟨_, _, rfl, ?_⟩
      rw [List.countP_eq_length.mpr]
      · rw [List.length_drop, coL_len]; omega
      · intro y hy
        obtain ⟨j, hj, rfl⟩ := coL_mem.mp (List.mem_of_mem_drop hy)
        simp [goAt]; omega
theorem bk_eq {all : NL} {N i : Nat} (hb : 0 ≤ (nth all i).2 ∧ (nth all i).2 ≤ i) (hi : i < N) : bk (goAt all) (coL all N) i = (nth all i).2.toNat := by
  have T := two_of all N
  obtain ⟨A, B, e, c⟩ := coL_split hb N hi
  have hnd := T.nodup
  rw [e] at hnd
  have hnd' := hnd
  unfold List.Nodup at hnd'
  rw [List.pairwise_append, List.pairwise_cons] at hnd'
  obtain ⟨nA, ⟨nx, nB⟩, nAB⟩ := hnd'
  have hxA : goAt all i ∉ A := fun h => nAB _ h _ List.mem_cons_self rfl
  have hpi : ps (goAt all) (coL all N) i = A.length := by unfold ps; rw [e, List.idxOf_append, if_neg hxA]; simp
  rw [← c]
  have h1 : ∀ j, j < i → (decide (ps (goAt all) (coL all N) i < ps (goAt all) (coL all N) j) = decide (goAt all j ∈ B)) := fun j hj => by
    have hne : goAt all j ≠ goAt all i := fun h => by have := T.inj j i (by omega) hi h; omega
    rw [hpi]
    unfold ps
    rw [e, List.idxOf_append]
    by_cases q : goAt all j ∈ A
    · rw [if_pos q]
      have h2 := List.idxOf_lt_length_iff.mpr q
      have h3 : goAt all j ∉ B := fun h => nAB _ q _ (List.mem_cons_of_mem _ h) rfl
      simp [h3]; omega
    · rw [if_neg q]
      have h4 := T.mem (i := j) (by omega)
      rw [e] at h4
      have h5 : goAt all j ∈ B := by
        simp only [List.mem_append, List.mem_cons] at h4
        rcases h4 with h | h | h
        · exact absurd h q
        · exact absurd h hne
        · exact h
      have h6 : (goAt all i :: B).idxOf (goAt all j) = B.idxOf (goAt all j) + 1 := by
        rw [List.idxOf_cons]; simp [show (goAt all i == goAt all j) = false by simpa using Ne.symm hne]
      rw [h6]; simp [h5]
  have h2 : bk (goAt all) (coL all N) i = (List.range i).countP fun j => decide (goAt all j ∈ B) := by
    unfold bk
    exact List.countP_congr fun j hj => by rw [h1 j (List.mem_range.mp hj)]
  rw [h2, List.countP_eq_length_filter, List.countP_eq_length_filter, ← List.length_map (f := goAt all)]
  refine List.Perm.length_eq ((List.perm_ext_iff_of_nodup ?_ ?_).mpr fun y => ?_)
  · exact nodup_map_on (List.nodup_range.sublist List.filter_sublist) fun x hx y hy => T.inj x y (by have := List.mem_range.mp (List.mem_filter.mp hx).1; omega) (by have := List.mem_range.mp (List.mem_filter.mp hy).1; omega)
  · exact List.Pairwise.sublist List.filter_sublist nB
  · simp only [List.mem_map, List.mem_filter, List.mem_range, decide_eq_true_eq]
    constructor
    · rintro ⟨j, ⟨a1, a2⟩, rfl⟩; exact ⟨a2, by simp [goAt]; omega⟩
    · rintro ⟨a1, a2⟩
      have : y ∈ coL all N := by rw [e]; simp [a1]
      obtain ⟨j, hj, rfl⟩ := coL_mem.mp this
      exact ⟨j, ⟨by simp [goAt] at a2; omega, a1⟩, rfl⟩
/-- the spots -/
def spL (all : NL) (N : Nat) : List Int := (List.range N).map fun j => ((ps (goAt all) (coL all N) j : Nat) : Int)
theorem spL_get {all : NL} {N j : Nat} (h : j < N) : (spL all N).getD j 0 = ((ps (goAt all) (coL all N) j : Nat) : Int) := by simp [spL, h]
theorem backAt_sp {all : NL} {N i : Nat} (hi : i < N) : backAt (spL all N) i = bk (goAt all) (coL all N) i := by
  unfold backAt bk
  rw [spL_get hi]
  unfold spL
  rw [← List.map_take, List.take_range, Nat.min_eq_left (by omega), List.countP_map]
  refine List.countP_congr fun j hj => ?_
  simp

end
-- HqLa
section


variable {prog : Program} {w : World} {A : Around} {G : Gnd} {fs : List Frm} {env : Env} {m : Loc} {fn : Bool} {σ : Sto} {P : D → Sto → Prop} {PB : Bool → Sto → Prop} {PF : Fl → Loc → Sto → Prop} {PM : Loc → Sto → Prop}
/- the functions at hand -/
structure Fns (G : Gnd) where
  (aPush aPop aDown aUp aIns aBis : Addr) (t t' t'' : Tok)
  push : FnAt G "heappush" aPush (fnScope PW 1) (fnBody PW 1) ["heap", "item"] []
  pop : FnAt G "heappop" aPop (fnScope PW 2) (fnBody PW 2) ["heap"] []
  down : FnAt G "_siftdown" aDown (fnScope PW 3) (fnBody PW 3) ["heap", "startpos", "pos"] []
  up : FnAt G "_siftup" aUp (fnScope PW 4) (fnBody PW 4) ["heap", "pos"] []
  ins : FnAt G "insort_right" aIns (fnScope PW 6) (fnBody PW 6) ["a", "x", "lo", "hi", "key"] [.int 0 t, .none, .none]
  bis4 : FnAt G "bisect_right" aBis (fnScope PW 7) (fnBody PW 7) ["a", "x", "lo", "hi", "key"] [.none]
  bis : FnAt G "bisect_right" aBis (fnScope PW 7) (fnBody PW 7) ["a", "x", "lo", "hi", "key"] [.int 0 t', .none, .none]
  len : Bn G "len" (.builtin "len")
  range : Bn G "range" (.type "range")
  sorted : Bn G "sorted" (.builtin "sorted")
  divmod : Bn G "divmod" (.builtin "divmod")
  index : Bn G "IndexError" (.type "IndexError")
structure Fns1 (G : Gnd) extends Fns G where
  (aOrd aRb aSa aEm : Addr)
  ord : FnAt G "_law_orders" aOrd (fnScope PW 9) (fnBody PW 9) ["script"] []
  rb : FnAt G "_law_read_back" aRb (fnScope PW 10) (fnBody PW 10) ["spots"] []
  sa : FnAt G "_law_straight_ahead" aSa (fnScope PW 11) (fnBody PW 11) ["going", "turn"] []
  em : FnAt G "_law_empty" aEm (fnScope PW 12) (fnBody PW 12) ["heap"] []
  min : Bn G "min" (.builtin "min")
  max : Bn G "max" (.builtin "max")

def nthFor (ss : List Stmt) (i : Nat) : List Stmt := match ss[i]? with | some (.For _ _ b _ _) => b | _ => []
theorem sh_nm {l : NL} : ∀ d ∈ l.map nm, Sh d := fun d h => by obtain ⟨p, _, rfl⟩ := List.mem_map.mp h; exact Sh.nm _ _
theorem sh_int {l : List Int} : ∀ d ∈ l.map D.int, Sh d := fun d h => by obtain ⟨p, _, rfl⟩ := List.mem_map.mp h; exact Sh.int _
theorem deqs_self {ds : List D} (h : ∀ d ∈ ds, Sh d) : deqs ds ds = true := (deqs_iff h h).mpr rfl
theorem nm_inj {p q : Int × Int} (h : nm p = nm q) : p = q := by
  simp only [nm, D.tup.injEq, List.cons.injEq, D.int.injEq, and_true] at h; exact Prod.ext h.1 h.2

/- the lists of the law, by address -/
structure Ls (all : NL) (N : Nat) (aG aC aB aS aH aR : Addr) (τ : Sto) (hp row : NL) : Prop where
  g : τ aG = some ((goL all N).map nm)
  c : τ aC = some ((coL all N).map nm)
  b : τ aB = some ((beL all N).map D.int)
  s : τ aS = some ((spL all N).map D.int)
  h : τ aH = some (hp.map nm)
  r : τ aR = some (row.map nm)
  ap : aH ≠ aR ∧ aH ≠ aG ∧ aH ≠ aC ∧ aH ≠ aB ∧ aH ≠ aS ∧ aR ≠ aG ∧ aR ≠ aC ∧ aR ≠ aB ∧ aR ≠ aS
section
variable {all : NL} {N : Nat} {aG aC aB aS aH aR : Addr} {τ : Sto} {hp row : NL}
theorem ne_new {τ : Sto} {x y : Addr} {ds : List D} (h1 : τ x = some ds) (h2 : τ y = none) : x ≠ y := by rintro rfl; rw [h1] at h2; cases h2
theorem Ls.new (X : Ls all N aG aC aB aS aH aR τ hp row) {y : Addr} {ds : List D} (h : τ y = none) : Ls all N aG aC aB aS aH aR (τ.set y ds) hp row :=
  ⟨(Sto.set_ne _ _ (ne_new X.g h)).trans X.g, (Sto.set_ne _ _ (ne_new X.c h)).trans X.c, (Sto.set_ne _ _ (ne_new X.b h)).trans X.b, (Sto.set_ne _ _ (ne_new X.s h)).trans X.s, (Sto.set_ne _ _ (ne_new X.h h)).trans X.h, (Sto.set_ne _ _ (ne_new X.r h)).trans X.r, X.ap⟩
theorem Ls.at (X : Ls all N aG aC aB aS aH aR τ hp row) {y : Addr} {ds : List D} (h : aG ≠ y ∧ aC ≠ y ∧ aB ≠ y ∧ aS ≠ y ∧ aH ≠ y ∧ aR ≠ y) : Ls all N aG aC aB aS aH aR (τ.set y ds) hp row :=
  ⟨(Sto.set_ne _ _ h.1).trans X.g, (Sto.set_ne _ _ h.2.1).trans X.c, (Sto.set_ne _ _ h.2.2.1).trans X.b, (Sto.set_ne _ _ h.2.2.2.1).trans X.s, (Sto.set_ne _ _ h.2.2.2.2.1).trans X.h, (Sto.set_ne _ _ h.2.2.2.2.2).trans X.r, X.ap⟩
theorem Ls.apart (X : Ls all N aG aC aB aS aH aR τ hp row) {y : Addr} (h : τ y = none) : aG ≠ y ∧ aC ≠ y ∧ aB ≠ y ∧ aS ≠ y ∧ aH ≠ y ∧ aR ≠ y :=
  ⟨ne_new X.g h, ne_new X.c h, ne_new X.b h, ne_new X.s h, ne_new X.h h, ne_new X.r h⟩
theorem Ls.setH (X : Ls all N aG aC aB aS aH aR τ hp row) (hp' : NL) : Ls all N aG aC aB aS aH aR (τ.set aH (hp'.map nm)) hp' row := by
  obtain ⟨h1, h2, h3, h4, h5, h6, h7, h8, h9⟩ := X.ap
  exact ⟨(Sto.set_ne _ _ (Ne.symm h2)).trans X.g, (Sto.set_ne _ _ (Ne.symm h3)).trans X.c, (Sto.set_ne _ _ (Ne.symm h4)).trans X.b, (Sto.set_ne _ _ (Ne.symm h5)).trans X.s, Sto.set_self .., (Sto.set_ne _ _ (Ne.symm h1)).trans X.r, X.ap⟩
theorem Ls.setR (X : Ls all N aG aC aB aS aH aR τ hp row) (row' : NL) : Ls all N aG aC aB aS aH aR (τ.set aR (row'.map nm)) hp row' := by
  obtain ⟨h1, h2, h3, h4, h5, h6, h7, h8, h9⟩ := X.ap
  exact ⟨(Sto.set_ne _ _ (Ne.symm h6)).trans X.g, (Sto.set_ne _ _ (Ne.symm h7)).trans X.c, (Sto.set_ne _ _ (Ne.symm h8)).trans X.b, (Sto.set_ne _ _ (Ne.symm h9)).trans X.s, (Sto.set_ne _ _ h1).trans X.h, Sto.set_self .., X.ap⟩
end

def Clr (all : NL) (N u : Nat) : Prop := ∀ k i, k < N → u < k → i ≤ u → plt (goAt all k) (goAt all u) → ¬ ps (goAt all) (coL all N) k < ps (goAt all) (coL all N) i
abbrev locL (aG aC aB aS aH aR : Addr) (c : Nat) (b : Bool) : List (String × D) :=
  [("going", .lst aG), ("coming", .lst aC), ("behind", .lst aB), ("spots", .lst aS), ("heap", .lst aH), ("row", .lst aR), ("came", .int c), ("smooth", .bool b)]
def Inv (all : NL) (N : Nat) (aG aC aB aS aH aR : Addr) (t : Nat) (l : List (String × D)) (τ : Sto) : Prop := ∃ hp row c b, Ls all N aG aC aB aS aH aR τ hp row ∧ Hp hp ∧ hp.Perm (av N (goAt all) (coL all N) t c) ∧
  row.Perm (av N (goAt all) (coL all N) t c) ∧ row.Pairwise plt ∧ c ≤ N ∧ (∀ i, i < t → i < N → ps (goAt all) (coL all N) i < c) ∧ (c = 0 ∨ ∃ i, i < t ∧ ps (goAt all) (coL all N) i + 1 = c) ∧ (b = true ↔ ∀ u, u < t → Clr all N u) ∧ l = locL aG aC aB aS aH aR c b

theorem spL_len (all : NL) (N : Nat) : (spL all N).length = N := by simp [spL]
theorem filterMap_on {α β : Type} {f g : α → Option β} : ∀ {l : List α}, (∀ x ∈ l, f x = g x) → l.filterMap f = l.filterMap g
  | [], _ => rfl
  | a :: l, h => by rw [List.filterMap_cons, List.filterMap_cons, h a List.mem_cons_self, filterMap_on fun x hx => h x (List.mem_cons_of_mem _ hx)]
theorem ahead_F (all : NL) (N t r : Nat) : ∃ f : D → Option D, (∀ k : Nat, f (.int k) = if plt (goAt all k) (goAt all t) ∧ ps (goAt all) (coL all N) k < r then some (nm (goAt all k)) else none) ∧
    (rngL ((t : Int) + 1) N).filterMap f = (ahL N (goAt all) (coL all N) t r).map nm := by
  refine ⟨fun d => match d with | .int i => if plt (goAt all i.toNat) (goAt all t) ∧ ps (goAt all) (coL all N) i.toNat < r then some (nm (goAt all i.toNat)) else none | _ => none, fun k => by simp, ?_⟩
  have e : ((N : Int) - ((t : Int) + 1)).toNat = N - (t + 1) := by omega
  unfold rngL ahL
  rw [e, List.filterMap_map, List.map_filterMap]
  refine filterMap_on fun i _ => ?_
  have e2 : ((t : Int) + 1 + (i : Int)).toNat = t + 1 + i := by omega
  simp only [Function.comp_apply, e2]
  split <;> simp



end
-- HqLb
section


variable {prog : Program} {w : World} {A : Around} {G : Gnd} {fs : List Frm} {env : Env} {m : Loc} {fn : Bool} {σ : Sto} {P : D → Sto → Prop} {PB : Bool → Sto → Prop} {PF : Fl → Loc → Sto → Prop} {PM : Loc → Sto → Prop}
theorem turn_ok (W : Fns1 G) (hA : Rm 1 A) {qual : Str} {L fa : Addr} {cdv : Value} {all : NL} {N : Nat} {aG aC aB aS aH aR : Addr} (hN : N ≤ 14) {t : Nat} (ht : t < N) {l : List (String × D)} {τ : Sto}
    (hI : Inv all N aG aC aB aS aH aR t l τ) :
    Ex prog w A G (envOfC qual (fnScope PW 13) L fa cdv) true [] (nthFor (fnBody PW 13) 7) (locOf (("turn", .int t) :: l)) τ fun fl m₂ σ₂ => fl = .next ∧ ∃ l' σ', Kn m₂ l' ∧ Sub σ' σ₂ ∧ Inv all N aG aC aB aS aH aR (t + 1) l' σ' := by
  obtain ⟨hp, row, c, b, X, hH, hPh, hPr, hSr, hcN, hc1, hc2, hb, rfl⟩ := hI
  have T := two_of all N
  have hgl := goL_len all N
  have hcl := coL_len all N
  have hsl := spL_len all N
  -- wished
  walk_at "s"; walk_at "x"; walk_at "x"; walk_at "x"
  have hgt : ∀ k, k < N → ((goL all N).map nm)[k]? = some (nm (goAt all k)) := fun k hk => by simp [goL, hk]
  refine su_item (rd_own X.g) (by omega) (by omega) (d := nm (goAt all t)) (by rw [Int.toNat_natCast]; exact hgt t ht) ?_
  -- reach
  walk_at "s"; walk_at "x"
  refine ev_callB W.max callB ?_
  walk_at "a"
  refine ev_slice_upto ?_
  walk_at "x"; walk_at "x"; walk_at "x"; walk_at "x"; walk_at "x"
  refine ⟨aS, _, _, rfl, rfl, rd_own X.s, by simp [hsl]; omega, by omega, fun v hv hv' => ?_⟩
  have X1 := X.new (ds := ((spL all N).map D.int).take ((t : Int) + 1).toNat) hv
  walk_at "a"
  refine cl_maxL (ns := (spL all N).take (t + 1)) hA.1 (rd_own (by rw [Sto.set_self, show ((t : Int) + 1).toNat = t + 1 by omega, List.map_take])) ?_ fun M hM1 hM2 => ?_
  · intro h
    have := congrArg List.length h
    rw [List.length_take, hsl] at this; simp at this; omega
  have hspm : ∀ x, x ∈ (spL all N).take (t + 1) ↔ ∃ i, i ≤ t ∧ ((ps (goAt all) (coL all N) i : Nat) : Int) = x := fun x => by
    unfold spL
    rw [← List.map_take, List.take_range, Nat.min_eq_left (by omega), List.mem_map]
    constructor
    · rintro ⟨i, hi, e⟩; exact ⟨i, by have := List.mem_range.mp hi; omega, e⟩
    · rintro ⟨i, hi, e⟩; exact ⟨i, List.mem_range.mpr (by omega), e⟩
  obtain ⟨im, him, rfl⟩ := (hspm M).mp hM1
  have hM3 : ∀ i, i ≤ t → ps (goAt all) (coL all N) i < ps (goAt all) (coL all N) im + 1 := fun i hi => by
    have := hM2 _ ((hspm _).mpr ⟨i, hi, rfl⟩); omega
  walk_at "x"; walk_at "x"
  have hr1 : ∃ i, i ≤ t ∧ ps (goAt all) (coL all N) i + 1 = ps (goAt all) (coL all N) im + 1 := ⟨im, him, rfl⟩
  have hrN : ps (goAt all) (coL all N) im + 1 ≤ N := T.lt (by omega)
  have er : ((ps (goAt all) (coL all N) im : Nat) : Int) + 1 = ((ps (goAt all) (coL all N) im + 1 : Nat) : Int) := by omega
  rw [er]
  generalize ps (goAt all) (coL all N) im + 1 = r at *
  have hcr : c ≤ r := by
    rcases hc2 with rfl | ⟨i, hi, rfl⟩
    · omega
    · have := hM3 i (by omega); omega
  -- those that come
  refine ex_mid (fun l' τ' => ∃ hp' row', Ls all N aG aC aB aS aH aR τ' hp' row' ∧ Hp hp' ∧ hp'.Perm (av N (goAt all) (coL all N) t r) ∧ row'.Perm (av N (goAt all) (coL all N) t r) ∧ row'.Pairwise plt ∧
    l' = ("turn", .int t) :: ("wished", nm (goAt all t)) :: ("reach", .int r) :: locL aG aC aB aS aH aR c b) ?_ ?_
  · refine ex_forK hA.1 ?_
    refine ev_slice_run ?_
    walk_at "x"; walk_at "x"; walk_at "x"
    refine ⟨aC, _, _, _, rfl, rfl, rfl, rd_own X1.c, by simp [hcl]; omega, by omega, by omega, by simp [hcl]; omega, fun u hu hu' => ?_⟩
    have erun : (((coL all N).map nm).drop (c : Int).toNat).take ((r : Int) - (c : Int)).toNat = (((coL all N).drop c).take (r - c)).map nm := by
      rw [Int.toNat_natCast, show ((r : Int) - (c : Int)).toNat = r - c by omega, List.map_take, List.map_drop]
    rw [erun]
    have hcome := T.come (t := t) (c := c) (r := r) (fun i h1 h2 => hc1 i h1 h2) hcr
    have hnd := hcome.nodup_iff.mpr (T.nodupA t r)
    have hlen : (((coL all N).drop c).take (r - c) ++ av N (goAt all) (coL all N) t c).length ≤ 14 := by rw [hcome.length_eq]; have := av_len (N := N) (g := goAt all) (co := coL all N) (t := t) (r := r); omega
    generalize hrun : ((coL all N).drop c).take (r - c) = run at *
    have Xu := X1.new (ds := run.map nm) hu
    have hap := X1.apart hu
    refine ⟨run.map nm, fun i l' τ' => ∃ hp' row', Ls all N aG aC aB aS aH aR τ' hp' row' ∧ τ' u = some (run.map nm) ∧ Hp hp' ∧ hp'.Perm (run.take i ++ av N (goAt all) (coL all N) t c) ∧ row'.Perm (run.take i ++ av N (goAt all) (coL all N) t c) ∧ row'.Pairwise plt ∧
      l' = ("turn", .int t) :: ("wished", nm (goAt all t)) :: ("reach", .int r) :: locL aG aC aB aS aH aR c b, .inl ⟨_, _, rfl⟩, (by rintro ⟨_, _, _, h⟩; cases h), ⟨_, _, ?_, Sub.refl _, hp, row, Xu, Sto.set_self .., hH, by simpa using hPh, by simpa using hPr, hSr, rfl⟩, ?_, ?_, ?_⟩
    · walk_at "kn"
    · rintro i _ τ' ⟨_, _, _, h, _⟩; exact rd_own h
    · rintro i e _ τ' he ⟨hp', row', Y, hu2, h1, h2, h3, h4, rfl⟩
      have hi : i < run.length := by have := (List.getElem?_eq_some_iff.mp he).1; simpa using this
      have he' : e = nm (nth run i) := by rw [nm_get hi] at he; exact (Option.some.inj he).symm
      subst he'
      have etk : run.take (i + 1) = run.take i ++ [nth run i] := by rw [List.take_add_one, List.getElem?_eq_getElem hi, nth_get hi]; rfl
      have hl2 : (run.take i ++ av N (goAt all) (coL all N) t c).length ≤ 14 := by
        simp only [List.length_append, List.length_take] at hlen ⊢; omega
      have hnew : nth run i ∉ row' := fun hm => by
        have hm' := h3.mem_iff.mp hm
        unfold List.Nodup at hnd
        rw [List.pairwise_append] at hnd
        rcases List.mem_append.mp hm' with hm' | hm'
        · have h5 := hnd.1
          rw [← List.take_append_drop i run, List.pairwise_append] at h5
          refine h5.2.2 _ hm' (nth run i) ?_ rfl
          rw [nth_get hi]; exact List.mem_drop_iff_getElem.mpr ⟨0, by simpa using hi, by simp⟩
        · exact hnd.2.2 _ (nth_mem hi) _ hm' rfl
      refine sn_let ?_
      walk_at "s"
      refine ev_callF W.push ?_
      walk_at "a"; walk_at "x"; walk_at "a"; walk_at "x"; walk_at "a"
      refine heappush_ok W.push W.down W.len (k := 1) (by omega) hA (x := nth run i) Y.h (by rw [h2.length_eq]; omega) h1 fun hp2 hpp hh2 => ⟨rfl, ?_⟩
      have Y2 := Y.setH hp2
      walk_at "s"
      refine ev_callF W.ins ?_
      walk_at "a"; walk_at "x"; walk_at "a"; walk_at "x"; walk_at "a"
      refine insortN_ok W.ins W.bis4 W.len (k := 1) (by omega) hA (x := nth run i) Y2.r (by rw [h3.length_eq]; omega) h4 ⟨rfl, ?_⟩
      refine ex_nil ⟨_, _, ?_, Sub.refl _, hp2, _, Y2.setR _, ?_, hh2, ?_, ?_, putIn_sorted_nm h4 hnew, rfl⟩
      · walk_at "kn"
      · obtain ⟨q1, q2, q3, q4, q5, q6⟩ := hap
        rw [Sto.set_ne _ _ (Ne.symm q6), Sto.set_ne _ _ (Ne.symm q5)]; exact hu2
      · refine hpp.trans ((h2.cons _).trans ?_)
        rw [etk, List.append_assoc]; exact List.perm_middle.symm
      · refine (putIn_perm _ _ _).trans ((h3.cons _).trans ?_)
        rw [etk, List.append_assoc]; exact List.perm_middle.symm
    · rintro _ τ' ⟨hp', row', Y, hu2, h1, h2, h3, h4, rfl⟩
      rw [List.length_map, List.take_length] at h2 h3
      refine ⟨rfl, _, _, ?_, Sub.refl _, hp', row', Y, h1, h2.trans hcome, h3.trans hcome, h4, rfl⟩
      walk_at "kn"
  · rintro _ τ' ⟨hp', row', Y, h1, h2, h3, h4, rfl⟩
    have hav := av_len (N := N) (g := goAt all) (co := coL all N) (t := t) (r := r)
    have hgtm : goAt all t ∈ av N (goAt all) (coL all N) t r := mem_av.mpr ⟨t, ht, by omega, hM3 t (by omega), rfl⟩
    -- came, later
    walk_at "s"; walk_at "x"
    walk_at "s"
    refine ev_callB W.range callT ?_
    walk_at "a"; walk_at "x"; walk_at "x"; walk_at "x"; walk_at "x"; walk_at "a"
    refine ev_callB W.len callB ?_
    walk_at "a"; walk_at "x"; walk_at "a"
    refine cl_len (rd_own Y.g) (by rw [List.length_map, hgl]; omega) ?_
    rw [List.length_map, hgl]
    walk_at "a"
    refine cl_range2 ?_
    -- ahead
    walk_at "s"
    refine ev_callB W.sorted callB ?_
    walk_at "a"
    refine ev_comp hA.1 rfl ⟨rfl, rfl, rfl, rfl, trivial⟩ ?_
    walk_at "x"
    obtain ⟨f, hf, hfm⟩ := ahead_F all N t r
    refine ⟨rngL ((t : Int) + 1) N, f, [("came", .int r), ("going", .lst aG), ("spots", .lst aS), ("wished", nm (goAt all t))], .inl ⟨_, _, rfl⟩, (by rintro ⟨_, _, _, h⟩; cases h), ⟨rfl, by omega, by omega, by omega, by omega⟩, by simp [rngL]; omega, ?_, ?_, ?_⟩
    · intro C
      exact ⟨⟨by walk_at "lk", rfl, rfl, rfl⟩, ⟨by walk_at "lk", rfl, rfl, rfl⟩, ⟨by walk_at "lk", rfl, rfl, rfl⟩, ⟨by walk_at "lk", rfl, rfl, rfl⟩, trivial⟩
    · intro C e he
      obtain ⟨k, hk, rfl⟩ : ∃ k : Nat, k < N ∧ e = .int k := by
        unfold rngL at he
        obtain ⟨i, hi, rfl⟩ := List.mem_map.mp he
        have := List.mem_range.mp hi
        exact ⟨t + 1 + i, by omega, by congr 1⟩
      rw [hf]
      refine sn_let ?_
      refine ct_one ?_
      walk_at "t"; walk_at "t"; walk_at "t"; walk_at "x"; walk_at "x"; walk_at "x"
      refine su_item (rd_own Y.g) (by omega) (by omega) (d := nm (goAt all k)) (by rw [Int.toNat_natCast]; exact hgt k hk) ?_
      walk_at "x"
      refine lt_n (hA.units0 (by omega)) ?_
      rw [pltb_eq]
      walk_at "x"
      by_cases q1 : plt (goAt all k) (goAt all t)
      · rw [decide_eq_true (by exact q1), if_pos rfl]
        walk_at "t"; walk_at "t"; walk_at "x"; walk_at "x"; walk_at "x"
        refine su_item (rd_own Y.s) (by omega) (by omega) (d := .int (ps (goAt all) (coL all N) k : Nat)) (by rw [Int.toNat_natCast, List.getElem?_map]; simp [spL, hk]) ?_
        walk_at "x"; walk_at "x"; walk_at "x"
        by_cases q2 : ps (goAt all) (coL all N) k < r
        · rw [decide_eq_true (by omega), if_pos rfl]
          walk_at "t"
          rw [if_pos rfl]
          walk_at "x"; walk_at "x"; walk_at "x"
          refine su_item (rd_own Y.g) (by omega) (by omega) (d := nm (goAt all k)) (by rw [Int.toNat_natCast]; exact hgt k hk) ?_
          exact ⟨Sub.refl _, if_pos ⟨q1, q2⟩⟩
        · rw [decide_eq_false (by omega), if_neg (by simp), if_neg (by simp)]
          exact ⟨Sub.refl _, if_neg fun h => q2 h.2⟩
      · rw [decide_eq_false (by exact q1), if_neg (by simp), if_neg (by simp)]
        exact ⟨Sub.refl _, if_neg fun h => q1 h.1⟩
    · intro y hy hy'
      rw [hfm]
      have Y1 := Y.new (ds := (ahL N (goAt all) (coL all N) t r).map nm) hy
      have hahl : (ahL N (goAt all) (coL all N) t r).length ≤ N := by unfold ahL; exact Nat.le_trans (List.length_filterMap_le _ _) (by simp)
      walk_at "a"
      refine cl_sortedN (by show A.units + 100 < 9900; have := hA.2.2; omega) (rd_own (Sto.set_self ..)) (by omega) (T.nodupAh t r) fun ys hys1 hys2 z hz hz' => ?_
      have Y2 := Y1.new (ds := ys.map nm) hz
      have hysl : ys.length ≤ N := by rw [hys1.length_eq]; unfold ahL; exact Nat.le_trans (List.length_filterMap_le _ _) (by simp)
      -- told
      walk_at "s"
      refine ev_list ?_
      walk_at "a"
      refine ev_callF W.pop ?_
      walk_at "a"; walk_at "x"; walk_at "a"
      have hne0 : hp' ≠ [] := by rintro rfl; have := h2.mem_iff.mpr hgtm; simp at this
      refine heappop_ok W.pop W.up W.down W.len (k := 1) (by omega) hA Y2.h (by rw [h2.length_eq]; omega) hne0 h1 fun p ps' hpp hh' hmin => ?_
      have Y3 := Y2.setH ps'
      walk_at "a"
      refine ⟨by simp, fun d hd hd' => ?_⟩
      have Y4 := Y3.new (ds := [nm p]) hd
      have hnda := T.nodupA t r
      have hz4 : ((((τ'.set y ((ahL N (goAt all) (coL all N) t r).map nm)).set z (ys.map nm)).set aH (ps'.map nm)).set d [nm p]) z = some (ys.map nm) := by
        have q1 := (Y1.apart hz).2.2.2.2.1
        have q2 : z ≠ d := ne_new (ds := ys.map nm) (by rw [Sto.set_ne _ _ (Ne.symm q1), Sto.set_self]) hd
        rw [Sto.set_ne _ _ q2, Sto.set_ne _ _ (Ne.symm q1), Sto.set_self]
      have hd4 : ((((τ'.set y ((ahL N (goAt all) (coL all N) t r).map nm)).set z (ys.map nm)).set aH (ps'.map nm)).set d [nm p]) d = some (([] ++ [p]).map nm) := Sto.set_self ..
      have hdap := Y3.apart hd
      have hzd : z ≠ d := by
        have q1 := (Y1.apart hz).2.2.2.2.1
        exact ne_new (ds := ys.map nm) (by rw [Sto.set_ne _ _ (Ne.symm q1), Sto.set_self]) hd
      have hzH : aH ≠ z := (Y1.apart hz).2.2.2.2.1
      have hzR : aR ≠ z := (Y1.apart hz).2.2.2.2.2
      generalize ((((τ'.set y ((ahL N (goAt all) (coL all N) t r).map nm)).set z (ys.map nm)).set aH (ps'.map nm)).set d [nm p]) = τ4 at *
      have hpl : ∀ {a hq' : NL} {p : Int × Int} {hq : NL}, (a ++ hq).Perm (av N (goAt all) (coL all N) t r) → hq.Perm (p :: hq') → (∀ q ∈ hq, ple p q) → (a ++ [p] ++ hq').Perm (av N (goAt all) (coL all N) t r) ∧ ∀ q ∈ hq', plt p q := fun {a hq' p hq} e1 e2 e3 => by
        have e4 : (a ++ [p] ++ hq').Perm (av N (goAt all) (coL all N) t r) := by
          rw [List.append_assoc]; exact (List.Perm.append_left a e2.symm).trans e1
        refine ⟨e4, fun q hq1 => plt_of_ple_of_ne (e3 q (e2.mem_iff.mpr (List.mem_cons_of_mem _ hq1))) ?_⟩
        rintro rfl
        have := e4.nodup_iff.mpr hnda
        unfold List.Nodup at this
        rw [List.pairwise_append] at this
        exact this.2.2 p (by simp) p hq1 rfl
      refine ex_mid (fun l' τ5 => ∃ hq, Ls all N aG aC aB aS aH aR τ5 hq row' ∧ τ5 z = some (ys.map nm) ∧ τ5 d = some ((ys ++ [goAt all t]).map nm) ∧ Hp hq ∧ (ys ++ [goAt all t] ++ hq).Perm (av N (goAt all) (coL all N) t r) ∧
        l' = ("turn", .int t) :: ("wished", nm (goAt all t)) :: ("ahead", .lst z) :: ("told", .lst d) :: locL aG aC aB aS aH aR r b) ?_ ?_
      · refine ex_whileK (fun n l' τ5 => ∃ xs x hq, n = N - xs.length ∧ Ls all N aG aC aB aS aH aR τ5 hq row' ∧ τ5 z = some (ys.map nm) ∧ τ5 d = some ((xs ++ [x]).map nm) ∧ Hp hq ∧ (xs ++ [x] ++ hq).Perm (av N (goAt all) (coL all N) t r) ∧
          (xs ++ [x]).Pairwise plt ∧ (∀ a ∈ xs ++ [x], ∀ y ∈ hq, plt a y) ∧ goAt all t ∉ xs ∧ l' = ("turn", .int t) :: ("wished", nm (goAt all t)) :: ("ahead", .lst z) :: ("told", .lst d) :: locL aG aC aB aS aH aR r b) N ?_ ?_
        · obtain ⟨e1, e2⟩ := hpl (a := []) (by simpa using h2) hpp hmin
          refine ⟨_, ?_, [], p, ps', rfl, Y4, hz4, hd4, hh', by simpa using e1, by simp, by simpa using e2, by simp, rfl⟩
          walk_at "kn"
        · rintro n _ τ5 ⟨xs, x, hq, rfl, Z, hz5, hd5, hHq, hperm, hpw, hlt, hnot, rfl⟩
          have hlen5 := hperm.length_eq
          simp only [List.length_append, List.length_cons, List.length_nil] at hlen5
          walk_at "t"; walk_at "t"; walk_at "t"; walk_at "x"; walk_at "x"
          refine ev_neg ?_
          refine su_last (ds := xs.map nm) (d := nm x) (rd_own (by rw [hd5]; simp)) ?_
          walk_at "x"
          refine ne_d (hA.units (by omega)) (Sh.nm _ _) (Sh.nm _ _) ?_
          walk_at "x"
          by_cases q : x = goAt all t
          · have e0 : deq (nm x) (nm (goAt all t)) = true := (deq_iff (Sh.nm _ _) (Sh.nm _ _)).mpr (by rw [q])
            rw [show (!deq (D.tup [.int x.1, .int x.2]) (D.tup [.int (goAt all t).1, .int (goAt all t).2])) = false by rw [show deq _ _ = true from e0]; rfl, if_neg (by simp), if_neg (by simp)]
            subst q
            have exs := T.told ht hperm hpw hlt hys1 hys2
            subst exs
            refine ⟨rfl, _, _, ?_, Sub.refl _, hq, Z, hz5, hd5, hHq, hperm, rfl⟩
            walk_at "kn"
          · have e0 : ¬ deq (nm x) (nm (goAt all t)) = true := fun h => q (nm_inj ((deq_iff (Sh.nm _ _) (Sh.nm _ _)).mp h))
            rw [show (!deq (D.tup [.int x.1, .int x.2]) (D.tup [.int (goAt all t).1, .int (goAt all t).2])) = true by rw [show deq _ _ = false from by simpa using e0]; rfl, if_pos rfl]
            have hin : goAt all t ∈ hq := by
              have := hperm.mem_iff.mpr hgtm
              simp only [List.append_assoc, List.mem_append, List.mem_cons, List.not_mem_nil, or_false] at this
              rcases this with h | h | h
              · exact absurd h hnot
              · exact absurd h.symm q
              · exact h
            have hqne : hq ≠ [] := by rintro rfl; simp at hin
            have hqpos : 0 < hq.length := List.length_pos_iff.mpr hqne
            walk_at "t"; walk_at "t"
            refine ev_callB W.len callB ?_
            walk_at "a"; walk_at "x"; walk_at "a"
            refine cl_len (rd_own hd5) (by simp; omega) ?_
            refine ev_callB W.len callB ?_
            walk_at "a"; walk_at "x"; walk_at "a"
            refine cl_len (rd_own Z.g) (by rw [List.length_map, hgl]; omega) ?_
            walk_at "x"; walk_at "x"
            rw [decide_eq_true (by simp only [List.length_map, List.length_append, List.length_cons, List.length_nil, hgl]; omega), if_pos rfl]
            walk_at "t"
            rw [if_pos rfl]
            walk_at "s"
            refine ev_method1 PySem.F.slot_list_append PySem.F.type_list_append ?_
            walk_at "x"
            refine ⟨d, rfl, ⟨_, rd_own hd5⟩, ?_⟩
            walk_at "a"
            refine ev_callF W.pop ?_
            walk_at "a"; walk_at "x"; walk_at "a"
            refine heappop_ok W.pop W.up W.down W.len (k := 1) (by omega) hA Z.h (by omega) hqne hHq fun p2 hq2 hpp2 hh2 hmin2 => ?_
            have Z2 := Z.setH hq2
            walk_at "a"
            refine cl_append (ds := (xs ++ [x]).map nm) (by rw [Sto.set_ne _ _ (Ne.symm hdap.2.2.2.2.1)]; exact hd5) (by simp; omega) ⟨rfl, ?_⟩
            have Z3 := Z2.at (ds := (xs ++ [x]).map nm ++ [nm p2]) hdap
            obtain ⟨e1, e2⟩ := hpl (a := xs ++ [x]) hperm hpp2 hmin2
            refine ex_nil ⟨N - (xs ++ [x]).length, by simp; omega, _, _, ?_, Sub.refl _, xs ++ [x], p2, hq2, rfl, Z3, ?_, ?_, hh2, e1, ?_, ?_, ?_, rfl⟩
            · walk_at "kn"
            · rw [Sto.set_ne _ _ hzd, Sto.set_ne _ _ (Ne.symm hzH)]; exact hz5
            · rw [Sto.set_self]; simp
            · rw [List.pairwise_append]
              refine ⟨hpw, by simp, fun a ha b hb => ?_⟩
              simp at hb; subst hb
              exact hlt a ha _ (hpp2.mem_iff.mpr List.mem_cons_self)
            · intro a ha y hy
              rcases List.mem_append.mp ha with ha | ha
              · exact hlt a ha y (hpp2.mem_iff.mpr (List.mem_cons_of_mem _ hy))
              · simp at ha; subst ha; exact e2 y hy
            · simp only [List.mem_append, List.mem_cons, List.not_mem_nil, or_false, not_or]
              exact ⟨hnot, fun h => q h.symm⟩
      · rintro _ τ5 ⟨hq, Z, hz5, hd5, hHq, hperm, rfl⟩
        have hlen5 := hperm.length_eq
        simp only [List.length_append, List.length_cons, List.length_nil] at hlen5
        -- told against ahead
        refine ex_cons ?_
        refine ex_if ?_
        walk_at "t"; walk_at "x"; walk_at "x"; walk_at "x"
        refine ev_list ?_
        walk_at "a"; walk_at "x"; walk_at "a"
        refine ⟨by simp, fun e he he' => ?_⟩
        have Z1 := Z.new (ds := [nm (goAt all t)]) he
        have hze : z ≠ e := ne_new hz5 he
        have hde : d ≠ e := ne_new hd5 he
        refine add_l (ds := ys.map nm) (es := [nm (goAt all t)]) (rd_own (by rw [Sto.set_ne _ _ hze]; exact hz5)) (rd_own (Sto.set_self ..)) (by simp; omega) fun e2 he2 he2' => ?_
        have Z2 := Z1.new (ds := ys.map nm ++ [nm (goAt all t)]) he2
        have hz6 : (((τ5.set e [nm (goAt all t)]).set e2 (ys.map nm ++ [nm (goAt all t)]))) z = some (ys.map nm) := by
          rw [Sto.set_ne _ _ (ne_new (ds := ys.map nm) (by rw [Sto.set_ne _ _ hze]; exact hz5) he2), Sto.set_ne _ _ hze]; exact hz5
        have hd6 : (((τ5.set e [nm (goAt all t)]).set e2 (ys.map nm ++ [nm (goAt all t)]))) d = some ((ys ++ [goAt all t]).map nm) := by
          rw [Sto.set_ne _ _ (ne_new (ds := (ys ++ [goAt all t]).map nm) (by rw [Sto.set_ne _ _ hde]; exact hd5) he2), Sto.set_ne _ _ hde]; exact hd5
        have ex1 : ys.map nm ++ [nm (goAt all t)] = (ys ++ [goAt all t]).map nm := by simp
        refine ne_l (hA.units (by omega)) (rd_own hd6) (rd_own (by rw [Sto.set_self, ex1])) sh_nm sh_nm ?_
        rw [deqs_self sh_nm]
        walk_at "x"
        rw [if_neg (by simp)]
        refine ex_nil ?_
        generalize ((τ5.set e [nm (goAt all t)]).set e2 (ys.map nm ++ [nm (goAt all t)])) = τ6 at *
        -- pushed again
        refine ex_mid (fun l' τ7 => ∃ hq, Ls all N aG aC aB aS aH aR τ7 hq row' ∧ τ7 z = some (ys.map nm) ∧ τ7 d = some ((ys ++ [goAt all t]).map nm) ∧ Hp hq ∧ hq.Perm (av N (goAt all) (coL all N) (t + 1) r) ∧
          l' = ("turn", .int t) :: ("wished", nm (goAt all t)) :: ("ahead", .lst z) :: ("told", .lst d) :: locL aG aC aB aS aH aR r b) ?_ ?_
        · refine ex_forK hA.1 ?_
          walk_at "x"
          refine ⟨ys.map nm, fun i l' τ7 => ∃ hq2, Ls all N aG aC aB aS aH aR τ7 hq2 row' ∧ τ7 z = some (ys.map nm) ∧ τ7 d = some ((ys ++ [goAt all t]).map nm) ∧ Hp hq2 ∧ hq2.Perm (ys.take i ++ hq) ∧
            l' = ("turn", .int t) :: ("wished", nm (goAt all t)) :: ("ahead", .lst z) :: ("told", .lst d) :: locL aG aC aB aS aH aR r b, .inl ⟨_, _, rfl⟩, (by rintro ⟨_, _, _, h⟩; cases h), ⟨_, _, ?_, Sub.refl _, hq, Z2, hz6, hd6, hHq, by simp, rfl⟩, ?_, ?_, ?_⟩
          · walk_at "kn"
          · rintro i _ τ7 ⟨_, _, h, _⟩; exact rd_own h
          · rintro i e3 _ τ7 he3 ⟨hq2, V, hz7, hd7, g1, g2, rfl⟩
            have hi : i < ys.length := by have := (List.getElem?_eq_some_iff.mp he3).1; simpa using this
            have he' : e3 = nm (nth ys i) := by rw [nm_get hi] at he3; exact (Option.some.inj he3).symm
            subst he'
            have etk : ys.take (i + 1) = ys.take i ++ [nth ys i] := by rw [List.take_add_one, List.getElem?_eq_getElem hi, nth_get hi]; rfl
            refine sn_let ?_
            walk_at "s"
            refine ev_callF W.push ?_
            walk_at "a"; walk_at "x"; walk_at "a"; walk_at "x"; walk_at "a"
            refine heappush_ok W.push W.down W.len (k := 1) (by omega) hA (x := nth ys i) V.h (by rw [g2.length_eq]; simp; omega) g1 fun hq3 hpp hh2 => ⟨rfl, ?_⟩
            refine ex_nil ⟨_, _, ?_, Sub.refl _, hq3, V.setH hq3, ?_, ?_, hh2, ?_, rfl⟩
            · walk_at "kn"
            · rw [Sto.set_ne _ _ (Ne.symm hzH)]; exact hz7
            · rw [Sto.set_ne _ _ (Ne.symm hdap.2.2.2.2.1)]; exact hd7
            · refine hpp.trans ((g2.cons _).trans ?_)
              rw [etk, List.append_assoc]; exact List.perm_middle.symm
          · rintro _ τ7 ⟨hq2, V, hz7, hd7, g1, g2, rfl⟩
            rw [List.length_map, List.take_length] at g2
            refine ⟨rfl, _, _, ?_, Sub.refl _, hq2, V, hz7, hd7, g1, g2.trans (T.back ht (hM3 t (by omega)) hperm), rfl⟩
            walk_at "kn"
        · rintro _ τ7 ⟨hq2, V, hz7, hd7, g1, g2, rfl⟩
          obtain ⟨zs, er1, er2, er3, er4⟩ := T.row ht (hM3 t (by omega)) h3 h4 hys1 hys2
          have hrl : row'.length ≤ 14 := by rw [h3.length_eq]; omega
          walk_at "s"; walk_at "x"
          refine ev_callF W.bis ?_
          walk_at "a"; walk_at "x"; walk_at "a"; walk_at "x"; walk_at "a"
          refine bisectN_ok W.bis W.len (k := 1) (by omega) hA (rd_own V.r) (by omega) h4 ?_
          walk_at "x"; walk_at "x"
          rw [er4]
          have ep : ((ys.length + 1 : Nat) : Int) - 1 = (ys.length : Nat) := by omega
          rw [ep]
          refine ex_cons ?_
          refine ex_if ?_
          refine ts_or (ol_cons ?_)
          walk_at "t"
          refine ev_slice_upto ?_
          walk_at "x"; walk_at "x"
          refine ⟨aR, _, _, rfl, rfl, rd_own V.r, by simp; omega, by omega, fun y8 hy8 hy8' => ?_⟩
          have V1 := V.new (ds := (row'.map nm).take ((ys.length : Nat) : Int).toNat) hy8
          have hz8 := (Sto.set_ne τ7 ((row'.map nm).take ((ys.length : Nat) : Int).toNat) (ne_new hz7 hy8)).trans hz7
          have hd8 := (Sto.set_ne τ7 ((row'.map nm).take ((ys.length : Nat) : Int).toNat) (ne_new hd7 hy8)).trans hd7
          have et : (row'.map nm).take ((ys.length : Nat) : Int).toNat = ys.map nm := by rw [er1]; simp
          walk_at "x"
          refine ne_l (ds := ys.map nm) (hA.units (by omega)) (rd_own (by rw [Sto.set_self, et])) (rd_own hz8) sh_nm sh_nm ?_
          rw [deqs_self sh_nm]
          walk_at "x"
          rw [if_neg (by simp)]
          refine ol_cons ?_
          walk_at "t"
          refine ev_method1 PySem.F.slot_list_pop PySem.F.type_list_pop ?_
          walk_at "x"
          refine ⟨aR, rfl, ⟨_, rd_own V1.r⟩, ?_⟩
          walk_at "a"; walk_at "x"; walk_at "a"
          refine cl_popAt (d := nm (goAt all t)) V1.r (by simp; omega) (by omega) (by rw [er1, Int.toNat_natCast]; simp) ?_
          have ee : (row'.map nm).eraseIdx ((ys.length : Nat) : Int).toNat = (ys ++ zs).map nm := by
            rw [er1, Int.toNat_natCast, List.map_append, List.map_cons, List.eraseIdx_append_of_length_le (by simp)]; simp
          rw [ee]
          have V2 := V1.setR (ys ++ zs)
          walk_at "x"
          refine ne_d (hA.units (by omega)) (Sh.nm _ _) (Sh.nm _ _) ?_
          have e0 : deq (nm (goAt all t)) (nm (goAt all t)) = true := (deq_iff (Sh.nm _ _) (Sh.nm _ _)).mpr rfl
          rw [show deq (D.tup [.int (goAt all t).1, .int (goAt all t).2]) (D.tup [.int (goAt all t).1, .int (goAt all t).2]) = true from e0]
          walk_at "x"
          rw [if_neg (by simp)]
          refine ol_nil ?_
          rw [if_neg (by simp)]
          refine ex_nil ?_
          -- smooth
          have hclr : ys = [] ↔ Clr all N t := by
            unfold Clr
            rw [← T.ahead_nil ht hr1 hM3]
            constructor
            · intro h; subst h; exact List.nil_perm.mp hys1
            · intro h; rw [h] at hys1; exact List.perm_nil.mp hys1
          walk_at "s"
          refine ev_and2 ?_
          walk_at "x"; walk_at "x"
          cases b with
          | false =>
            rw [if_neg (by simp)]
            refine ex_nil ⟨rfl, _, _, ?_, Sub.refl _, hq2, ys ++ zs, r, false, V2, g1, g2, er3, er2, hrN, fun i h5 h6 => hM3 i (by omega), .inr ?_, ?_, rfl⟩
            · walk_at "kn"
            · obtain ⟨i, h5, h6⟩ := hr1; exact ⟨i, by omega, h6⟩
            · refine ⟨fun h => (by cases h), fun h => hb.mpr fun u hu => h u (by omega)⟩
          | true =>
            rw [if_pos rfl]
            refine ev_and1 ?_
            walk_at "x"
            refine ev_callB W.len callB ?_
            walk_at "a"; walk_at "x"; walk_at "a"
            refine cl_len (ds := (ys ++ [goAt all t]).map nm) (rd_own (by rw [Sto.set_ne _ _ (Ne.symm hdap.2.2.2.2.2)]; exact hd8)) (by simp; omega) ?_
            walk_at "x"
            refine eq_i ?_
            refine ex_nil ⟨rfl, _, _, ?_, Sub.refl _, hq2, ys ++ zs, r, (((((ys ++ [goAt all t]).map nm).length : Nat) : Int) == 1), V2, g1, g2, er3, er2, hrN, fun i h5 h6 => hM3 i (by omega), .inr ?_, ?_, rfl⟩
            · walk_at "kn"
            · obtain ⟨i, h5, h6⟩ := hr1; exact ⟨i, by omega, h6⟩
            · rw [beq_iff_eq]
              simp only [List.length_map, List.length_append, List.length_cons, List.length_nil]
              constructor
              · intro h u hu
                rcases Nat.lt_succ_iff_lt_or_eq.mp hu with h5 | h5
                · exact hb.mp rfl u h5
                · subst h5; exact hclr.mp (List.length_eq_zero_iff.mp (by omega))
              · intro h
                have := hclr.mpr (h t (by omega))
                subst this; simp


end
-- HqLc
section


variable {prog : Program} {w : World} {A : Around} {G : Gnd} {fs : List Frm} {env : Env} {m : Loc} {fn : Bool} {σ : Sto} {P : D → Sto → Prop} {PB : Bool → Sto → Prop} {PF : Fl → Loc → Sto → Prop} {PM : Loc → Sto → Prop}
def idxF (co : NL) : D → Option D
  | .tup [.int x, .int y] => some (.int (co.idxOf (x, y) : Nat))
  | _ => none
open Classical in
noncomputable def wideF (all : NL) : D → Option D
  | .int k => if ∃ s, Run (goAt all) k.toNat s ∧ s < (nth all k.toNat).2.toNat then some (.int k) else none
  | _ => none
open Classical in
theorem wideF_nat (all : NL) (k : Nat) : wideF all (.int (k : Nat)) = if ∃ s, Run (goAt all) k s ∧ s < (nth all k).2.toNat then some (.int (k : Nat)) else none := by
  show (if ∃ s, Run (goAt all) (k : Int).toNat s ∧ s < (nth all (k : Int).toNat).2.toNat then some (D.int (k : Nat)) else none) = _
  rw [Int.toNat_natCast]
theorem isRun_run {all : NL} {N t s : Nat} (ht : t < N) (h : IsRun (goL all N) t s) : Run (goAt all) t s := by
  have e : ∀ k, k < N → nth (goL all N) k = goAt all k := fun k hk => by simp [nth, goL, hk]
  obtain ⟨h1, h2, h3⟩ := h
  refine ⟨h1, fun j hj => ?_, fun hj => ?_⟩
  · have := h2 j hj; rwa [e _ (by omega), e _ ht] at this
  · have := h3 hj; rwa [e _ (by omega), e _ ht] at this

theorem law1_ok (W : Fns1 G) (hA : Rm 1 A) {qual : Str} {L fa : Addr} {cdv : Value} (hS : ∀ m, Stk A [⟨envOfC qual (fnScope PW 13) L fa cdv, m, true⟩]) {a : Addr} {ns : List Int} (ha : rd G σ a = some (ns.map D.int)) (hl : ns.length ≤ 900) :
    Ex prog w A G (envOfC qual (fnScope PW 13) L fa cdv) true [] (fnBody PW 13) (locOf [("script", .lst a)]) σ fun fl m' σ' => fl = .ret (.bool true) := by
  refine ex_cons ?_
  refine ex_unpack ?_
  refine ev_callF W.ord ?_
  walk_at "a"; walk_at "x"; walk_at "a"
  refine orders_ok W.ord W.len W.divmod W.range W.min (k := 1) (by omega) hA ha hl fun aG aC aB τ hg hc hb => ?_
  obtain ⟨hN4, hN14, hback⟩ := allL_ok ns
  generalize allL ns = all at *
  generalize hNe : all.length = N at *
  have T := two_of all N
  have hgl := goL_len all N
  have hcl := coL_len all N
  have hsl := spL_len all N
  have hbl := beL_len all N
  refine sn_tuple hA.1 ?_
  refine sn_let ?_
  refine sn_let ?_
  refine sn_let ?_
  -- spots
  walk_at "s"
  refine ev_comp hA.1 rfl ⟨rfl, trivial⟩ ?_
  walk_at "x"
  refine ⟨(goL all N).map nm, idxF (coL all N), [("coming", .lst aC)], .inl ⟨_, _, rfl⟩, (by rintro ⟨_, _, _, h⟩; cases h), rd_own hg, by simp [hgl]; omega, ?_, ?_, ?_⟩
  · intro C
    exact ⟨⟨by walk_at "lk", rfl, rfl, rfl⟩, trivial⟩
  · intro C e he
    obtain ⟨p, hp, rfl⟩ := List.mem_map.mp he
    have hpc : p ∈ coL all N := (coL_perm all N).mem_iff.mpr hp
    have hlt := List.idxOf_lt_length_iff.mpr hpc
    refine sn_let ?_
    refine ct_nil ?_
    rw [if_pos rfl]
    refine ev_method1 PySem.F.slot_list_index PySem.F.type_list_index ?_
    walk_at "x"
    refine ⟨aC, rfl, ⟨_, rd_own hc⟩, ?_⟩
    walk_at "a"; walk_at "x"; walk_at "a"
    refine cl_index (j := (coL all N).idxOf p) (hA.units (by omega)) (rd_own hc) (by simp [hcl]; omega) sh_nm (Sh.nm _ _) ?_ ?_ ⟨Sub.refl _, rfl⟩
    · rw [List.getElem?_map, List.getElem?_eq_getElem hlt, List.getElem_idxOf]; rfl
    · intro i hi h
      rw [List.getElem?_map, List.getElem?_eq_getElem (by omega)] at h
      have h5 : (coL all N)[i]'(by omega) = p := nm_inj (Option.some.inj h)
      have := T.nodup.idxOf_getElem i (by omega)
      rw [h5] at this; omega
  · intro aS hs hs'
    have esp : ((goL all N).map nm).filterMap (idxF (coL all N)) = (spL all N).map D.int := by
      rw [List.filterMap_map, goL, List.filterMap_map, spL, List.map_map, ← List.filterMap_eq_map]; rfl
    rw [esp]
    have hg1 := (Sto.set_ne τ ((spL all N).map D.int) (ne_new hg hs)).trans hg
    have hc1 := (Sto.set_ne τ ((spL all N).map D.int) (ne_new hc hs)).trans hc
    have hb1 := (Sto.set_ne τ ((spL all N).map D.int) (ne_new hb hs)).trans hb
    have hs1 : (τ.set aS ((spL all N).map D.int)) aS = some ((spL all N).map D.int) := Sto.set_self ..
    generalize τ.set aS ((spL all N).map D.int) = τ1 at *
    -- read back
    refine ex_cons ?_
    refine ex_if ?_
    walk_at "t"
    refine ev_callF W.rb ?_
    walk_at "a"; walk_at "x"; walk_at "a"
    refine readback_ok W.rb W.ins W.bis4 W.bis W.len (k := 1) (by omega) hA (rd_own hs1) (by omega) fun y hy hy' => ?_
    walk_at "x"
    have ebk : (List.range (spL all N).length).map (fun i => D.int (backAt (spL all N) i)) = (beL all N).map D.int := by
      rw [hsl, beL, List.map_map]
      refine List.map_congr_left fun i hi => ?_
      have hi := List.mem_range.mp hi
      rw [backAt_sp hi, bk_eq (hback i (by omega)) hi]
      have := hback i (by omega)
      simp only [Function.comp_apply]; congr 1; omega
    rw [ebk]
    have hg2 := (Sto.set_ne τ1 ((beL all N).map D.int) (ne_new hg1 hy)).trans hg1
    have hc2 := (Sto.set_ne τ1 ((beL all N).map D.int) (ne_new hc1 hy)).trans hc1
    have hb2 := (Sto.set_ne τ1 ((beL all N).map D.int) (ne_new hb1 hy)).trans hb1
    have hs2 := (Sto.set_ne τ1 ((beL all N).map D.int) (ne_new hs1 hy)).trans hs1
    refine ne_l (hA.units (by omega)) (rd_own (Sto.set_self ..)) (rd_own hb2) sh_int sh_int ?_
    rw [deqs_self sh_int]
    walk_at "x"
    rw [if_neg (by simp)]
    refine ex_nil ?_
    generalize τ1.set y ((beL all N).map D.int) = τ2 at *
    -- heap, row, came, smooth
    walk_at "s"
    refine ev_list ?_
    walk_at "a"
    refine ⟨by simp, fun aH hH hH' => ?_⟩
    walk_at "s"
    refine ev_list ?_
    walk_at "a"
    refine ⟨by simp, fun aR hR hR' => ?_⟩
    have hRH : aR ≠ aH := fun e => by subst e; rw [Sto.set_self] at hR; cases hR
    have hR2 : τ2 aR = none := by rw [Sto.set_ne _ _ hRH] at hR; exact hR
    have X : Ls all N aG aC aB aS aH aR ((τ2.set aH []).set aR []) [] [] := by
      refine ⟨?_, ?_, ?_, ?_, ?_, ?_, Ne.symm hRH, Ne.symm (ne_new hg2 hH), Ne.symm (ne_new hc2 hH), Ne.symm (ne_new hb2 hH), Ne.symm (ne_new hs2 hH), Ne.symm (ne_new hg2 hR2), Ne.symm (ne_new hc2 hR2), Ne.symm (ne_new hb2 hR2), Ne.symm (ne_new hs2 hR2)⟩
      · rw [Sto.set_ne _ _ (ne_new hg2 hR2), Sto.set_ne _ _ (ne_new hg2 hH)]; exact hg2
      · rw [Sto.set_ne _ _ (ne_new hc2 hR2), Sto.set_ne _ _ (ne_new hc2 hH)]; exact hc2
      · rw [Sto.set_ne _ _ (ne_new hb2 hR2), Sto.set_ne _ _ (ne_new hb2 hH)]; exact hb2
      · rw [Sto.set_ne _ _ (ne_new hs2 hR2), Sto.set_ne _ _ (ne_new hs2 hH)]; exact hs2
      · rw [Sto.set_ne _ _ (Ne.symm hRH), Sto.set_self]; rfl
      · rw [Sto.set_self]; rfl
    generalize (τ2.set aH []).set aR [] = τ3 at *
    walk_at "s"; walk_at "x"
    walk_at "s"; walk_at "x"
    -- the turns
    refine ex_mid (fun l' τ' => Inv all N aG aC aB aS aH aR N l' τ') ?_ ?_
    · refine ex_forK hA.1 ?_
      refine ev_callB W.range callT ?_
      walk_at "a"
      refine ev_callB W.len callB ?_
      walk_at "a"; walk_at "x"; walk_at "a"
      refine cl_len (rd_own X.g) (by rw [List.length_map, hgl]; omega) ?_
      rw [List.length_map, hgl]
      walk_at "a"
      refine cl_range1 ?_
      have eav : av N (goAt all) (coL all N) 0 0 = [] := by
        rw [List.eq_nil_iff_forall_not_mem]; intro x hx; obtain ⟨k, _, _, h, _⟩ := mem_av.mp hx; omega
      refine ⟨rngL 0 (N : Nat), fun i l' τ' => Inv all N aG aC aB aS aH aR i l' τ', .inl ⟨_, _, rfl⟩, (by rintro ⟨_, _, _, h⟩; cases h), ⟨_, _, ?_, Sub.refl _, [], [], 0, true, X, Hp.nil, by rw [eav], by rw [eav], by simp, by omega, by intro i hi; omega, .inl rfl, by simp, rfl⟩, ?_, ?_, ?_⟩
      · walk_at "kn"
      · intro i l' τ' _; exact ⟨rfl, by omega, by omega, by omega, by omega⟩
      · intro i e l' τ' he hI
        rw [range_all] at he
        have hi : i < N := by have := (List.getElem?_eq_some_iff.mp he).1; simpa using this
        have he' : e = .int i := by
          rw [List.getElem?_map, List.getElem?_range hi] at he; exact (Option.some.inj he).symm
        subst he'
        refine sn_let ?_
        refine Wf.mono (turn_ok W hA (by omega) hi hI) ?_
        rintro fl m₂ σ₂ ⟨rfl, h⟩
        exact h
      · intro l' τ' hI
        rw [range_all, List.length_map, List.length_range] at hI
        obtain ⟨hp, row, c, b, X, r1, r2, r3, r4, r5, r6, r7, r8, rfl⟩ := id hI
        refine ⟨rfl, _, _, ?_, Sub.refl _, hI⟩
        walk_at "kn"
    · intro l' τ' hI
      obtain ⟨hp, row, c, b, X, r1, r2, r3, r4, r5, r6, r7, r8, rfl⟩ := hI
      have eav : av N (goAt all) (coL all N) N c = [] := by
        rw [List.eq_nil_iff_forall_not_mem]; intro x hx; obtain ⟨k, _, _, h, _⟩ := mem_av.mp hx; omega
      rw [eav] at r2 r3
      obtain rfl := List.perm_nil.mp r2
      obtain rfl := List.perm_nil.mp r3
      refine ex_cons ?_
      refine ex_letcomp hA.1 rfl ⟨rfl, rfl, trivial⟩ ?_
      refine ev_callB W.range callT ?_
      walk_at "a"
      refine ev_callB W.len callB ?_
      walk_at "a"; walk_at "x"; walk_at "a"
      refine cl_len (rd_own X.g) (by rw [List.length_map, hgl]; omega) ?_
      rw [List.length_map, hgl]
      walk_at "a"
      refine cl_range1 ?_
      refine ⟨rngL 0 (N : Nat), wideF all, [("behind", .lst aB), ("going", .lst aG)], .inl ⟨_, _, rfl⟩, (by rintro ⟨_, _, _, h⟩; cases h), ⟨rfl, by omega, by omega, by omega, by omega⟩, by rw [range_all]; simp; omega, ?_, ?_, ?_⟩
      · intro C
        exact ⟨⟨by walk_at "lk", rfl, rfl, rfl⟩, ⟨by walk_at "lk", rfl, rfl, rfl⟩, trivial⟩
      · intro C e he
        rw [range_all] at he
        obtain ⟨k, hk, rfl⟩ := List.mem_map.mp he
        have hk := List.mem_range.mp hk
        refine sn_let ?_
        refine ct_one ?_
        walk_at "t"; walk_at "x"; walk_at "x"; walk_at "x"
        refine su_item (rd_own X.b) (by omega) (by omega) (d := .int (nth all k).2) (by rw [Int.toNat_natCast, List.getElem?_map]; simp [beL, hk]) ?_
        refine ev_callF W.sa ?_
        walk_at "a"; walk_at "x"; walk_at "a"; walk_at "x"; walk_at "a"
        refine straight_ok W.sa (k := 1) (by omega) hA (rd_own X.g) (by rw [hgl]; omega) (by rw [hgl]; exact hk) fun s hrun => ?_
        have hrun := isRun_run hk hrun
        have hbk := hback k (by omega)
        walk_at "x"; walk_at "x"
        by_cases q : s < (nth all k).2.toNat
        · rw [decide_eq_true (by omega), if_pos rfl]
          walk_at "x"
          refine ⟨Sub.refl _, ?_⟩
          rw [wideF_nat, if_pos ⟨s, hrun, q⟩]
        · rw [decide_eq_false (by omega), if_neg (by simp)]
          refine ⟨Sub.refl _, ?_⟩
          rw [wideF_nat, if_neg]
          rintro ⟨s', h1, h2⟩
          have := run_un hrun h1; omega
      · intro aW hW hW'
        have X1 := X.new (ds := (rngL 0 (N : Nat)).filterMap (wideF all)) hW
        have hwide : (rngL 0 (N : Nat)).filterMap (wideF all) = [] ↔ b = true := by
          rw [r8]
          have h9 : (∀ u, u < N → Clr all N u) ↔ ∀ t k i, k < N → t < k → i ≤ t → plt (goAt all k) (goAt all t) → ¬ ps (goAt all) (coL all N) k < ps (goAt all) (coL all N) i := by
            constructor
            · intro h t k i hk ht hi; exact h t (by omega) k i hk ht hi
            · intro h u _ k i hk ht hi; exact h u k i hk ht hi
          rw [h9, T.main, range_all, List.filterMap_map, List.filterMap_eq_nil_iff]
          constructor
          · intro h k s hk hr
            have := h k (List.mem_range.mpr hk)
            refine Nat.le_of_not_lt fun hlt => ?_
            rw [bk_eq (hback k (by omega)) hk] at hlt
            rw [Function.comp_apply, wideF_nat] at this
            rw [if_pos ⟨s, hr, hlt⟩] at this; cases this
          · intro h k hk
            have hk := List.mem_range.mp hk
            rw [Function.comp_apply, wideF_nat]
            rw [if_neg]
            rintro ⟨s, h1, h2⟩
            have := h k s hk h1
            rw [bk_eq (hback k (by omega)) hk] at this; omega
        have hw1 : (τ'.set aW ((rngL 0 (N : Nat)).filterMap (wideF all))) aW = some ((rngL 0 (N : Nat)).filterMap (wideF all)) := Sto.set_self ..
        have hwsh : ∀ d ∈ (rngL 0 (N : Nat)).filterMap (wideF all), Sh d := by
          intro d hd
          obtain ⟨e, he, e2⟩ := List.mem_filterMap.mp hd
          unfold wideF at e2
          split at e2
          · split at e2
            · cases e2; exact Sh.int _
            · cases e2
          · cases e2
        generalize (rngL 0 (N : Nat)).filterMap (wideF all) = ws at *
        generalize τ'.set aW ws = τ4 at *
        walk_at "s"
        refine ev_and2 ?_
        walk_at "x"; walk_at "x"; walk_at "x"; walk_at "x"
        refine ev_list ?_
        walk_at "a"
        refine ⟨by simp, fun y hy hy' => ?_⟩
        have X2 := X1.new (ds := []) hy
        refine eq_l (hA.units (by omega)) (rd_own ((Sto.set_ne _ _ (ne_new hw1 hy)).trans hw1)) (rd_own (Sto.set_self ..)) hwsh (by simp) ?_
        refine eq_b ?_
        have e1 : (b == deqs ws []) = true := by
          have h9 := deqs_iff (ds := ws) (es := []) hwsh (by simp)
          rw [hwide] at h9
          cases b <;> cases hq : deqs ws [] <;> simp_all
        rw [e1]
        walk_at "x"
        rw [if_pos rfl]
        refine ev_and2 ?_
        walk_at "x"; walk_at "x"
        refine ev_list ?_
        walk_at "a"
        refine ⟨by simp, fun y2 hy2 hy2' => ?_⟩
        have X3 := X2.new (ds := []) hy2
        refine eq_l (hA.units (by omega)) (rd_own X3.r) (rd_own (Sto.set_self ..)) (by simp) (by simp) ?_
        walk_at "x"
        rw [show deqs (List.map nm []) [] = true by rfl, if_pos rfl]
        refine ev_and1 ?_
        refine ev_callF W.em ?_
        walk_at "a"; walk_at "x"; walk_at "a"
        refine empty_ok W.em W.pop W.index (k := 1) (by omega) hA (hS _) X3.h ?_
        rfl


end
-- HqN
end Hq
open PySem PySem.W PyProof.Rows
set_option Elab.async false
set_option linter.unusedVariables false
namespace Hq
variable {G : Gnd}
theorem fnAt_of {K : Frag} {x : String} {f : Addr} {oc : Value} {od : Option Addr} {osl : Array (Option Value)} {name qual : Str} {params : Arguments} {body : List Stmt} {scope : Scope} {dV kV doc pm cdv ct : Value} {an : Option Addr} {ps : List String} {dv : List Value}
    (X : K.In G.h₀) (e1 : nsIn K mainGlobals (Str.ofString x) = some (some (.ref f))) (ho : K.lookup f = some ⟨oc, od, .func (fnX name qual params body scope [] dV kV doc pm an cdv ct), osl⟩) (hcd : codeIn K cdv qual = true)
    (hb : ∀ S vs, vs.length + dv.length = ps.length → peek K S (bindArgs (fnX name qual params body scope [] dV kV doc pm an cdv ct) ⟨vs, []⟩) = some ((ps.map Str.ofString).zip (vs ++ dv))) : FnAt G x f scope body ps dv :=
  ⟨mg_of X G.g e1, name, qual, params, dV, kV, doc, pm, an, cdv, ct, _, X _ _ ho, rfl, codeRec_of X hcd, fun s vs hk hl => kp_binds (fun b o e => hk b o (X b o e)) fun S => hb S vs hl⟩
theorem bn_of {K : Frag} {x : String} {v : Value} (X : K.In G.h₀) (e1 : nsIn K mainGlobals (Str.ofString x) = some none) (hv : bootBuiltins (Str.ofString x) = some v) (hn : Str.ofString x ≠ "__name__") : Bn G x v := ⟨mg_none_of X G.g e1, hv, hn⟩
theorem len1 {α : Type} {vs : List α} (h : vs.length = 1) : ∃ a, vs = [a] := by match vs, h with | [a], _ => exact ⟨a, rfl⟩
theorem len2 {α : Type} {vs : List α} (h : vs.length = 2) : ∃ a b, vs = [a, b] := by match vs, h with | [a, b], _ => exact ⟨a, b, rfl⟩
theorem len3 {α : Type} {vs : List α} (h : vs.length = 3) : ∃ a b c, vs = [a, b, c] := by match vs, h with | [a, b, c], _ => exact ⟨a, b, c, rfl⟩
theorem len4 {α : Type} {vs : List α} (h : vs.length = 4) : ∃ a b c d, vs = [a, b, c, d] := by match vs, h with | [a, b, c, d], _ => exact ⟨a, b, c, d, rfl⟩
end Hq

-- HqO
open PySem PySem.W PyProof.Rows
set_option Elab.async false
set_option linter.unusedVariables false
set_option maxRecDepth 100000
namespace Hq
theorem wellAll_ints {P : Params} {h : Heap} : ∀ {ns : List Int} {vs : List Value}, WellAll P h vs (ofPys (ns.map PyData.int)) → IsAll h (ns.map D.int) vs
  | [], vs, x => by
    rw [show ofPys (List.map PyData.int []) = [] by simp [ofPys]] at x
    cases x; exact IsAll.nil
  | n :: ns, vs, x => by
    rw [show ofPys (List.map PyData.int (n :: ns)) = WData.int n :: ofPys (List.map PyData.int ns) by simp [ofPys, ofPy]] at x
    cases x with
    | cons a b =>
      cases a
      exact IsAll.cons (is_int.mpr ⟨_, rfl⟩) (wellAll_ints b)
theorem well_list {P : Params} {h : Heap} {a : Addr} {ns : List Int} (x : Well P h (.ref a) (ofPy (.list (ns.map PyData.int)))) : ∃ vs n, h.get? a = some (lstO vs n) ∧ IsAll h (ns.map D.int) vs := by
  rw [show ofPy (.list (ns.map PyData.int)) = .list (ofPys (ns.map PyData.int)) by simp [ofPy]] at x
  cases x with
  | list ho hall => exact ⟨_, _, ho, wellAll_ints hall⟩
def gnd {p : Program} {loose : List Str} {mean : ExcName → Option Value} {mg mb : Str → Option Value} {s₁ : Shared} (T : Top p loose mean mg mb s₁.heap) {a : Addr} {ds : List D} (hb : ∃ vs n, s₁.heap.get? a = some (lstO vs n) ∧ IsAll s₁.heap ds vs) : Gnd :=
  ⟨s₁.heap, s₁.os, mg, mb, fun x => if x = a then some ds else none, T.g, T.b, T.builtins, T.nolimit, fun x es e => by
    split at e
    · rename_i q; subst q; cases e; exact hb
    · cases e⟩
theorem cells_of {cm : Str → Option Value} {h₀ h : Heap} {L : Addr} : ∀ {cs : List (Str × Addr)} {cells : List (Addr × Obj)}, CellsAre cm cs cells → News h₀ L h cells → ∀ p ∈ cs, (∃ v, h.IsCell p.2 v) ∧ h₀.get? p.2 = none
  | _, _, .nil, _, p, hp => nomatch hp
  | _, _, .cons hd r, N, p, hp => by
    rcases List.mem_cons.mp hp with rfl | hp
    · obtain ⟨a, b, c⟩ := N _ List.mem_cons_self
      exact ⟨⟨_, _, a, hd⟩, c⟩
    · exact cells_of r (fun q hq => N q (List.mem_cons_of_mem _ hq)) p hp
/-- the start of the law -/
theorem start_st {p : Program} {loose : List Str} {mean : ExcName → Option Value} {mg mb : Str → Option Value} {s₁ : Shared} (T : Top p loose mean mg mb s₁.heap) (hg : s₁.gens = #[]) {a : Addr} {ds : List D} (hb : ∃ vs n, s₁.heap.get? a = some (lstO vs n) ∧ IsAll s₁.heap ds vs)
    {h₁ : Heap} {tk : Nat} {mv cm : Str → Option Value} {qual : Str} {scope : Scope} {L fa : Addr} {cdv : Value} {cells : List (Addr × Obj)} (F : Fr s₁.heap L h₁ mv) (hm : mv (Str.ofString "script") = some (.ref a)) (hk : scope.names.lookup (Str.ofString "script") = some .local)
    (N : News s₁.heap L h₁ cells) (X : CellsAre cm (cellsFrom (L + 1) scope.names []) cells) (hp : (cellsFrom (L + 1) scope.names []).Pairwise fun p q => p.2 ≠ q.2) :
    St (gnd T hb) (fun _ => none) [⟨envOfC qual scope L fa cdv, locOf [("script", .lst a)], true⟩] (fun _ => none) { heap := h₁, gens := s₁.gens, drawn := s₁.drawn, toks := tk, os := s₁.os } := by
  have hc := cells_of X N
  refine ⟨F.keep, hg, rfl, (fun _ _ e => by cases e), fun f hf => ?_, ⟨(fun g hg => by cases hg), fun _ => ⟨hp, (fun g hg => by cases hg)⟩, trivial⟩, (fun _ _ e => by cases e)⟩
  rcases List.mem_cons.mp hf with rfl | hf
  · refine ⟨⟨⟨mv, F.ns, fun x d e => ?_⟩, fun p hp => (hc p hp).1⟩, Heap.get?_none_of_le F.above, fun p hp => (hc p hp).2⟩
    have : x = "script" ∧ d = .lst a := by
      by_cases q : x = "script"
      · subst q
        have e' : locOf [("script", .lst a)] "script" = some d := e
        rw [lk_hit] at e'; cases e'; exact ⟨rfl, rfl⟩
      · have hb : (x == "script") = false := by simpa using q
        simp [locOf, List.lookup_cons, hb] at e
    obtain ⟨rfl, rfl⟩ := this
    exact .inl ⟨hk, _, hm, is_lst.mpr rfl⟩
  · exact nomatch hf
end Hq

-- HqHd
open PySem PySem.W PyProof.Rows
set_option Elab.async false
set_option linter.unusedVariables false
set_option maxRecDepth 100000
set_option maxHeartbeats 8000000
open_top hd for PySem.Challenge.rw_lg0027_01
namespace Hq
theorem fn_push (G : Gnd) (w : World) (X : (hd.heap_39 w.params).In G.h₀) : ∃ f, FnAt G "heappush" f (fnScope PW 1) (fnBody PW 1) ["heap", "item"] [] := by
  refine' ⟨_, fnAt_of X ?e1 ?ho ?hcd ?hb⟩
  case e1 => k_is
  case ho => k_is
  case hcd => k_is
  case hb =>
    intro S vs hl
    obtain ⟨a, b, rfl⟩ := len2 (by simpa using hl)
    rfl
theorem fn_pop (G : Gnd) (w : World) (X : (hd.heap_39 w.params).In G.h₀) : ∃ f, FnAt G "heappop" f (fnScope PW 2) (fnBody PW 2) ["heap"] [] := by
  refine' ⟨_, fnAt_of X ?e1 ?ho ?hcd ?hb⟩
  case e1 => k_is
  case ho => k_is
  case hcd => k_is
  case hb =>
    intro S vs hl
    obtain ⟨a, rfl⟩ := len1 (by simpa using hl)
    rfl
theorem fn_down (G : Gnd) (w : World) (X : (hd.heap_39 w.params).In G.h₀) : ∃ f, FnAt G "_siftdown" f (fnScope PW 3) (fnBody PW 3) ["heap", "startpos", "pos"] [] := by
  refine' ⟨_, fnAt_of X ?e1 ?ho ?hcd ?hb⟩
  case e1 => k_is
  case ho => k_is
  case hcd => k_is
  case hb =>
    intro S vs hl
    obtain ⟨a, b, c, rfl⟩ := len3 (by simpa using hl)
    rfl
theorem fn_up (G : Gnd) (w : World) (X : (hd.heap_39 w.params).In G.h₀) : ∃ f, FnAt G "_siftup" f (fnScope PW 4) (fnBody PW 4) ["heap", "pos"] [] := by
  refine' ⟨_, fnAt_of X ?e1 ?ho ?hcd ?hb⟩
  case e1 => k_is
  case ho => k_is
  case hcd => k_is
  case hb =>
    intro S vs hl
    obtain ⟨a, b, rfl⟩ := len2 (by simpa using hl)
    rfl
theorem fn_ord (G : Gnd) (w : World) (X : (hd.heap_39 w.params).In G.h₀) : ∃ f, FnAt G "_law_orders" f (fnScope PW 9) (fnBody PW 9) ["script"] [] := by
  refine' ⟨_, fnAt_of X ?e1 ?ho ?hcd ?hb⟩
  case e1 => k_is
  case ho => k_is
  case hcd => k_is
  case hb =>
    intro S vs hl
    obtain ⟨a, rfl⟩ := len1 (by simpa using hl)
    rfl
theorem fn_rb (G : Gnd) (w : World) (X : (hd.heap_39 w.params).In G.h₀) : ∃ f, FnAt G "_law_read_back" f (fnScope PW 10) (fnBody PW 10) ["spots"] [] := by
  refine' ⟨_, fnAt_of X ?e1 ?ho ?hcd ?hb⟩
  case e1 => k_is
  case ho => k_is
  case hcd => k_is
  case hb =>
    intro S vs hl
    obtain ⟨a, rfl⟩ := len1 (by simpa using hl)
    rfl
theorem fn_sa (G : Gnd) (w : World) (X : (hd.heap_39 w.params).In G.h₀) : ∃ f, FnAt G "_law_straight_ahead" f (fnScope PW 11) (fnBody PW 11) ["going", "turn"] [] := by
  refine' ⟨_, fnAt_of X ?e1 ?ho ?hcd ?hb⟩
  case e1 => k_is
  case ho => k_is
  case hcd => k_is
  case hb =>
    intro S vs hl
    obtain ⟨a, b, rfl⟩ := len2 (by simpa using hl)
    rfl
theorem fn_em (G : Gnd) (w : World) (X : (hd.heap_39 w.params).In G.h₀) : ∃ f, FnAt G "_law_empty" f (fnScope PW 12) (fnBody PW 12) ["heap"] [] := by
  refine' ⟨_, fnAt_of X ?e1 ?ho ?hcd ?hb⟩
  case e1 => k_is
  case ho => k_is
  case hcd => k_is
  case hb =>
    intro S vs hl
    obtain ⟨a, rfl⟩ := len1 (by simpa using hl)
    rfl
theorem fn_ins (G : Gnd) (w : World) (X : (hd.heap_39 w.params).In G.h₀) : ∃ f t, FnAt G "insort_right" f (fnScope PW 6) (fnBody PW 6) ["a", "x", "lo", "hi", "key"] [.int 0 t, .none, .none] := by
  refine' ⟨_, _, fnAt_of X ?e2 ?ho2 ?hcd2 ?hb2⟩
  case e2 => k_is
  case ho2 => k_is
  case hcd2 => k_is
  case hb2 =>
    intro S vs hl
    obtain ⟨a, b, rfl⟩ := len2 (by simpa using hl)
    rfl
theorem fn_bis (G : Gnd) (w : World) (X : (hd.heap_39 w.params).In G.h₀) : ∃ f t, FnAt G "bisect_right" f (fnScope PW 7) (fnBody PW 7) ["a", "x", "lo", "hi", "key"] [.none] ∧ FnAt G "bisect_right" f (fnScope PW 7) (fnBody PW 7) ["a", "x", "lo", "hi", "key"] [.int 0 t, .none, .none] := by
  refine' ⟨_, _, fnAt_of X ?e1 ?ho ?hcd ?hb, fnAt_of X ?e2 ?ho2 ?hcd2 ?hb2⟩
  case e1 => k_is
  case ho => k_is
  case hcd => k_is
  case e2 => k_is
  case ho2 => k_is
  case hcd2 => k_is
  case hb =>
    intro S vs hl
    obtain ⟨a, b, c, d, rfl⟩ := len4 (by simpa using hl)
    rfl
  case hb2 =>
    intro S vs hl
    obtain ⟨a, b, rfl⟩ := len2 (by simpa using hl)
    rfl
theorem fns1 (G : Gnd) (w : World) (X : (hd.heap_39 w.params).In G.h₀) : Nonempty (Fns1 G) := by
  obtain ⟨a1, push⟩ := fn_push G w X
  obtain ⟨a2, pop⟩ := fn_pop G w X
  obtain ⟨a3, down⟩ := fn_down G w X
  obtain ⟨a4, up⟩ := fn_up G w X
  obtain ⟨a5, ord⟩ := fn_ord G w X
  obtain ⟨a6, rb⟩ := fn_rb G w X
  obtain ⟨a7, sa⟩ := fn_sa G w X
  obtain ⟨a8, em⟩ := fn_em G w X
  obtain ⟨a9, t, ins⟩ := fn_ins G w X
  obtain ⟨a10, t', bis4, bis⟩ := fn_bis G w X
  exact ⟨⟨⟨a1, a2, a3, a4, a9, a10, t, t', t, push, pop, down, up, ins, bis4, bis, bn_of X (by k_is) (by decide +kernel) (by decide +kernel), bn_of X (by k_is) (by decide +kernel) (by decide +kernel), bn_of X (by k_is) (by decide +kernel) (by decide +kernel), bn_of X (by k_is) (by decide +kernel) (by decide +kernel), bn_of X (by k_is) (by decide +kernel) (by decide +kernel)⟩, a5, a6, a7, a8, ord, rb, sa, em, bn_of X (by k_is) (by decide +kernel) (by decide +kernel), bn_of X (by k_is) (by decide +kernel) (by decide +kernel)⟩⟩
theorem head1 {prog : Program} {w : World} {p : Program} {loose : List Str} {mean : ExcName → Option Value} {mg mb : Str → Option Value} {s₁ : Shared} {P : Params} (KX : (hd.heap_39 w.params).In s₁.heap) (T : Top p loose mean mg mb s₁.heap) (hg : s₁.gens = #[]) {a : Addr} {ns : List Int}
    (w1 : Well P s₁.heap (.ref a) (ofPy (.list (ns.map PyData.int)))) (hl : ¬ ((63 : Int) < (ns.length : Nat))) {h₁ : Heap} {tk : Nat} {mv cm : Str → Option Value} {qual : Str} {L fa : Addr} {cdv : Value} {cells : List (Addr × Obj)} (F : Fr s₁.heap L h₁ mv)
    (N : News s₁.heap L h₁ cells) (X : CellsAre cm (cellsFrom (L + 1) (fnScope PW 13).names []) cells) (hm : mv (Str.ofString "script") = some (.ref a)) :
    wpAny (model prog w) (callerA.deeper (envOfC qual (fnScope PW 13) L fa cdv)) (execs (fnBody PW 13) (envOfC qual (fnScope PW 13) L fa cdv))
      (fun f s' => f = .ret (.bool true) ∧ (∀ b o, s₁.heap.get? b = some o → s'.heap.get? b = some o) ∧ s'.os = s₁.os ∧ s'.gens = #[]) (fun _ _ => False)
      { heap := h₁, gens := s₁.gens, drawn := s₁.drawn, toks := tk, os := s₁.os } := by
  have hb := well_list w1
  have S := start_st (tk := tk) (qual := qual) (scope := fnScope PW 13) (fa := fa) (cdv := cdv) T hg hb F hm rfl N X (by
    show List.Pairwise _ [_, _, _, _, _, _]
    simp
    omega)
  obtain ⟨W⟩ := fns1 (gnd T hb) w KX
  have hA : Rm 1 (callerA.deeper (envOfC qual (fnScope PW 13) L fa cdv)) := ⟨rfl, by show callerA.depth + 1 ≤ 302; decide, by show callerA.units + 3 ≤ 24; decide⟩
  refine wpAny_mono (law1_ok (prog := prog) (w := w) (σ := fun _ => none) W hA (fun m => ⟨rfl, fun f hf => ?_⟩) (a := a) (ns := ns) ?_ (by omega) _ _ S) (fun f s' ⟨_, fl, m', σ', i, S', e⟩ => ?_) fun _ _ x => x
  · rcases List.mem_cons.mp hf with rfl | hf
    · exact ⟨rfl, rfl⟩
    · cases hf
  · show ((none : Option (List D)).or (if a = a then some (ns.map D.int) else none)) = _
    simp
  · subst e
    obtain ⟨v, rfl, iv⟩ := i
    rw [is_bool.mp iv]
    exact ⟨rfl, S'.keep, S'.os, S'.gens⟩
end Hq
theorem PySem.Challenge.cw_lg0027_01_holds : PySem.Challenge.rw_lg0027_01.Holds :=
  hd (by
  k_go0
  refine wpAny_mono (Hq.head1 (by assumption) (by assumption) (by assumption) (by assumption) (by assumption) (by assumption) (by assumption) (by assumption) rfl) (fun f s' h => ?_) (fun _ _ x => x.elim)
  obtain ⟨rfl, h1, h2, h3⟩ := h
  exact ⟨.inl ⟨.bool true, .bool true, [], rfl, fun _ => rfl, .bool true, by first | rfl | decide | (with_unfolding_all rfl) | (simp; done) | kernel_rfl, fun _ => ⟨List.nodup_nil, fun _ h => by cases h⟩⟩, h1, h2, h3⟩)

