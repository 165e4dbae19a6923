import PyProof.Rows.All
import Wide.All
import OpenK.AllK
import Wide.FinOn
import KE.KIntText
import KE.KParD
import KE.KRevIter
import KE.KMulAny
import KE.KSortTup
import PySem.Challenge.RW_dn0263_12
open PySem PySem.W PyProof.Rows PySem.Calls
set_option Elab.async false
set_option maxRecDepth 100000

namespace Mine

/-! ## Abstract values, objects, states -/

inductive V where
  | none | bool (b : Bool) | int (i : Int) | str (s : Str)
  | tup (l : List V) | lst (l : List V)
  | ref (i : Nat) | inst (c i : Nat) | glob (v : Value) | fzo (o : Obj) | dct (i : Nat)

inductive O where
  | list (l : List V)
  | attrs (l : List (Str × V))

inductive Fl where
  | next | brk | cont | ret (v : V)

structure St where
  loc : List (Option V)
  objs : List O

abbrev W (α : Type) := (α → St → Prop) → St → Prop

def lget : List (Option V) → Nat → Option V
  | [], _ => .none
  | a :: _, 0 => a
  | _ :: l, n + 1 => lget l n
def lset : List (Option V) → Nat → V → List (Option V)
  | [], _, _ => []
  | _ :: l, 0, v => some v :: l
  | a :: l, n + 1, v => a :: lset l n v

theorem lget_lset_self : ∀ (l : List (Option V)) (k : Nat) (v : V), k < l.length → lget (lset l k v) k = some v
  | _ :: _, 0, _, _ => rfl
  | _ :: l, n + 1, v, h => lget_lset_self l n v (Nat.lt_of_succ_lt_succ h)
theorem lget_lset_ne : ∀ (l : List (Option V)) (k j : Nat) (v : V), j ≠ k → lget (lset l k v) j = lget l j
  | [], _, _, _, _ => rfl
  | _ :: _, 0, 0, _, h => absurd rfl h
  | _ :: _, 0, _ + 1, _, _ => rfl
  | _ :: _, _ + 1, 0, _, _ => rfl
  | _ :: l, k + 1, j + 1, v, h => lget_lset_ne l k j v fun e => h (by rw [e])
theorem lget_some_lt : ∀ {l : List (Option V)} {k : Nat} {v : V}, lget l k = some v → k < l.length
  | [], _, _, h => by cases h
  | _ :: _, 0, _, _ => Nat.succ_pos _
  | _ :: l, n + 1, _, h => Nat.succ_lt_succ (lget_some_lt (l := l) (k := n) h)
theorem lset_self_or {l : List (Option V)} {k j : Nat} {v u : V} (h : lget (lset l k v) j = some u) : (j = k ∧ u = v) ∨ (j ≠ k ∧ lget l j = some u) := by
  by_cases e : j = k
  · subst e
    have hl : j < l.length := by
      have := lget_some_lt h
      clear h
      induction l generalizing j with
      | nil => exact absurd this (Nat.not_lt_zero _)
      | cons a l ih => cases j with
        | zero => exact Nat.succ_pos _
        | succ n => exact Nat.succ_lt_succ (ih (Nat.lt_of_succ_lt_succ this))
    rw [lget_lset_self _ _ _ hl] at h
    exact .inl ⟨rfl, (Option.some.inj h).symm⟩
  · rw [lget_lset_ne _ _ _ _ e] at h
    exact .inr ⟨e, h⟩

/-! ## Ghost and relations -/

structure G where
  fz : List (Addr × Obj)
  tr : List Addr

def G.le (g g' : G) : Prop := (∀ p ∈ g.fz, p ∈ g'.fz) ∧ ∃ r, g'.tr = g.tr ++ r
theorem G.le.refl (g : G) : g.le g := ⟨fun _ h => h, [], by simp⟩
theorem G.le.trans {a b c : G} (x : a.le b) (y : b.le c) : a.le c := by
  obtain ⟨r, hr⟩ := x.2
  obtain ⟨r', hr'⟩ := y.2
  exact ⟨fun p h => y.1 p (x.1 p h), r ++ r', by rw [hr', hr, List.append_assoc]⟩
theorem G.le.tr {g g' : G} (x : g.le g') {i : Nat} {a : Addr} (h : g.tr[i]? = some a) : g'.tr[i]? = some a := by
  obtain ⟨r, hr⟩ := x.2
  rw [hr, List.getElem?_append_left (List.getElem?_eq_some_iff.mp h).1]; exact h

abbrev listO (xs : List Value) (n : Nat) : Obj := { cls := .type "list", data := .seq xs.toArray n }
abbrev tupO (xs : List Value) (n : Nat) : Obj := { cls := .type "tuple", data := .seq xs.toArray n }
abbrev instO (c dx : Addr) (sl : Array (Option Value)) : Obj := ⟨.ref c, some dx, .plain, sl⟩

mutual
def VR (g : G) : V → Value → Prop
  | .none, x => x = .none
  | .bool b, x => x = .bool b
  | .int i, x => ∃ t, x = .int i t
  | .str s, x => ∃ t, x = .str s t
  | .tup l, x => ∃ a xs n, x = .ref a ∧ (a, tupO xs n) ∈ g.fz ∧ VRs g l xs
  | .lst l, x => ∃ a xs n, x = .ref a ∧ (a, listO xs n) ∈ g.fz ∧ VRs g l xs
  | .ref i, x => ∃ a, x = .ref a ∧ g.tr[i]? = some a
  | .inst c i, x => ∃ a dx sl, x = .ref a ∧ g.tr[i]? = some dx ∧ (a, instO c dx sl) ∈ g.fz
  | .glob v, x => x = v
  | .fzo o, x => ∃ a, x = .ref a ∧ (a, o) ∈ g.fz
  | .dct i, x => ∃ a, x = .ref a ∧ g.tr[i]? = some a ∧ sysModules < a
def VRs (g : G) : List V → List Value → Prop
  | [], xs => xs = []
  | v :: vs, xs => ∃ y ys, xs = y :: ys ∧ VR g v y ∧ VRs g vs ys
end

mutual
theorem VR.mono {g g' : G} (le : g.le g') : ∀ (v : V) {x : Value}, VR g v x → VR g' v x
  | .none, _, h => h
  | .bool _, _, h => h
  | .int _, _, h => h
  | .str _, _, h => h
  | .tup l, _, h => by
    simp only [VR] at h ⊢
    obtain ⟨a, xs, n, e, m, r⟩ := h
    exact ⟨a, xs, n, e, le.1 _ m, VRs.mono le l r⟩
  | .lst l, _, h => by
    simp only [VR] at h ⊢
    obtain ⟨a, xs, n, e, m, r⟩ := h
    exact ⟨a, xs, n, e, le.1 _ m, VRs.mono le l r⟩
  | .ref i, _, h => by
    simp only [VR] at h ⊢
    obtain ⟨a, e, m⟩ := h
    exact ⟨a, e, le.tr m⟩
  | .inst c i, _, h => by
    simp only [VR] at h ⊢
    obtain ⟨a, dx, sl, e, m, r⟩ := h
    exact ⟨a, dx, sl, e, le.tr m, le.1 _ r⟩
  | .glob _, _, h => h
  | .fzo o, _, h => by
    simp only [VR] at h ⊢
    obtain ⟨a, e, m⟩ := h
    exact ⟨a, e, le.1 _ m⟩
  | .dct i, _, h => by
    simp only [VR] at h ⊢
    obtain ⟨a, e, m, r⟩ := h
    exact ⟨a, e, le.tr m, r⟩
theorem VRs.mono {g g' : G} (le : g.le g') : ∀ (l : List V) {xs : List Value}, VRs g l xs → VRs g' l xs
  | [], _, h => h
  | v :: vs, _, h => by
    simp only [VRs] at h ⊢
    obtain ⟨y, ys, e, a, b⟩ := h
    exact ⟨y, ys, e, VR.mono le v a, VRs.mono le vs b⟩
end

theorem VRs.length {g : G} : ∀ {l : List V} {xs : List Value}, VRs g l xs → xs.length = l.length
  | [], _, h => by simp only [VRs] at h; subst h; rfl
  | v :: vs, _, h => by
    simp only [VRs] at h
    obtain ⟨y, ys, rfl, _, b⟩ := h
    simp [VRs.length b]
theorem VRs.get {g : G} : ∀ {l : List V} {xs : List Value}, VRs g l xs → ∀ {i : Nat} {v : V}, l[i]? = some v → ∃ x, xs[i]? = some x ∧ VR g v x
  | [], _, _, i, v, e => by simp at e
  | u :: vs, _, h, i, v, e => by
    simp only [VRs] at h
    obtain ⟨y, ys, rfl, a, b⟩ := h
    cases i with
    | zero => simp at e; subst e; exact ⟨y, by simp, a⟩
    | succ n => simp at e ⊢; exact VRs.get b e
theorem VRs.get' {g : G} {l : List V} {xs : List Value} (h : VRs g l xs) {i : Nat} {x : Value} (e : xs[i]? = some x) : ∃ v, l[i]? = some v ∧ VR g v x := by
  have hl := h.length
  have hi : i < l.length := by rw [← hl]; exact (List.getElem?_eq_some_iff.mp e).1
  obtain ⟨x', e', r⟩ := h.get (List.getElem?_eq_getElem hi)
  rw [e] at e'; cases e'
  exact ⟨_, List.getElem?_eq_getElem hi, r⟩
theorem VRs.append {g : G} : ∀ {l l' : List V} {xs xs' : List Value}, VRs g l xs → VRs g l' xs' → VRs g (l ++ l') (xs ++ xs')
  | [], _, _, _, h, h' => by simp only [VRs] at h; subst h; exact h'
  | v :: vs, _, _, _, h, h' => by
    simp only [VRs] at h
    obtain ⟨y, ys, rfl, a, b⟩ := h
    simp only [List.cons_append, VRs]
    exact ⟨y, _, rfl, a, VRs.append b h'⟩
theorem VRs.of_get {g : G} : ∀ {l : List V} {xs : List Value}, xs.length = l.length → (∀ (i : Nat) v x, l[i]? = some v → xs[i]? = some x → VR g v x) → VRs g l xs
  | [], xs, h, _ => by simp only [VRs]; exact List.eq_nil_of_length_eq_zero h
  | v :: vs, [], h, _ => by simp at h
  | v :: vs, y :: ys, h, k => by
    simp only [VRs]
    exact ⟨y, ys, rfl, k 0 v y rfl rfl, VRs.of_get (by simpa using h) fun i v x a b => k (i + 1) v x (by simpa using a) (by simpa using b)⟩
theorem VRs.nil {g : G} : VRs g [] [] := by simp only [VRs]
theorem VRs.cons {g : G} {v : V} {vs : List V} {x : Value} {xs : List Value} (h : VR g v x) (h' : VRs g vs xs) : VRs g (v :: vs) (x :: xs) := by simp only [VRs]; exact ⟨x, xs, rfl, h, h'⟩
theorem VRs.one {g : G} {v : V} {x : Value} (h : VR g v x) : VRs g [v] [x] := .cons h .nil

/-- an attribute table -/
def AR (P : Params) (g : G) (l : List (Str × V)) (es : List DictEntry) : Prop :=
  es.length = l.length ∧ ∀ (i : Nat) k v e, l[i]? = some (k, v) → es[i]? = some e → (∃ t, e.key = .str k t) ∧ e.hash = PyData.keyHash P k ∧ VR g v e.val
def OR (P : Params) (g : G) : O → Obj → Prop
  | .list l, ob => ∃ xs n, ob = listO xs n ∧ VRs g l xs
  | .attrs l, ob => ∃ es n, ob = dictOf es n ∧ n = l.length ∧ AR P g l es
theorem AR.mono {P : Params} {g g' : G} (le : g.le g') {l : List (Str × V)} {es : List DictEntry} (h : AR P g l es) : AR P g' l es :=
  ⟨h.1, fun i k v e a b => ⟨(h.2 i k v e a b).1, (h.2 i k v e a b).2.1, VR.mono le v (h.2 i k v e a b).2.2⟩⟩
theorem OR.mono {P : Params} {g g' : G} (le : g.le g') : ∀ {o : O} {ob : Obj}, OR P g o ob → OR P g' o ob
  | .list l, _, ⟨xs, n, e, r⟩ => ⟨xs, n, e, VRs.mono le l r⟩
  | .attrs l, _, ⟨es, n, e, en, r⟩ => ⟨es, n, e, en, r.mono le⟩
theorem OR.notFreed {P : Params} {g : G} : ∀ {o : O} {ob : Obj}, OR P g o ob → ob.isFreed = false
  | .list _, _, ⟨_, _, e, _⟩ => by rw [e]; rfl
  | .attrs _, _, ⟨_, _, e, _, _⟩ => by rw [e]; rfl

/-- static facts of the program text -/
structure Prg where
  prog : Program
  K : Params → Frag
  glob : List (Str × Value)

/-- static facts of a frame -/
structure Kap where
  P : Prg
  names : List (Str × NameKind)
  vars : List Str
  D : Nat
  fn : Bool

structure Ctx where
  w : World
  h₀ : Heap
  A : Around
  env : Env
  cw : List Addr
  pins : List (Addr × Obj)
  os : OsState
  forb : List Addr

abbrev KeepsH (h h' : Heap) : Prop := ∀ b o, h.get? b = some o → h'.get? b = some o

def Ctx.muts (Φ : Ctx) (g : G) : List Addr := Φ.env.locals :: (Φ.cw ++ g.tr)

structure Ctx.Ok (κ : Kap) (Φ : Ctx) : Prop where
  kinds : ∀ x, Φ.env.kindOf x = κ.names.lookup x
  kind : Φ.env.scope.kind = .function
  globals : Φ.env.globals = mainGlobals
  builtins : Φ.env.builtins = builtinsNs
  handled : Φ.A.handled = none
  KIn : (κ.P.K Φ.w.params).In Φ.h₀
  nolim : Φ.h₀.NoLimit
  globs : ∃ mg mb, Φ.h₀.Ns mainGlobals mg ∧ Φ.h₀.Ns builtinsNs mb ∧ ∀ x v, κ.P.glob.lookup x = some v → mg x = some v ∨ (mg x = .none ∧ mb x = some v)
  depth : Φ.A.depth + 2 * κ.D < recursionLimit
  cwr : κ.fn = true → ∀ x, κ.names.lookup x = some .cell → ∃ c, Φ.env.cells.lookup x = some c ∧ c ∈ Φ.cw
  above : Φ.h₀.objs.size ≤ Φ.env.locals
  cinj : ∀ x y c, Φ.env.cells.lookup x = some c → Φ.env.cells.lookup y = some c → x = y
  units : Φ.A.units + 20 * κ.D + 100 < cLine

def slot : List Str → Str → Option Nat
  | [], _ => .none
  | y :: ys, x => if x == y then some 0 else (slot ys x).map (· + 1)

def LocR (κ : Kap) (Φ : Ctx) (g : G) (loc : List (Option V)) (m : Str → Option Value) (h : Heap) : Prop :=
  ∀ x k v, slot κ.vars x = some k → lget loc k = some v → match Φ.env.kindOf x with
    | some .local => ∃ val, m x = some val ∧ VR g v val
    | some .cell => ∃ c val, Φ.env.cells.lookup x = some c ∧ h.IsCell c (some val) ∧ VR g v val
    | _ => True

def TrR (P : Params) (g : G) (objs : List O) (h : Heap) : Prop :=
  g.tr.length = objs.length ∧ ∀ (i : Nat) (a : Addr) (o : O), g.tr[i]? = some a → objs[i]? = some o → ∃ ob, h.get? a = some ob ∧ OR P g o ob

structure Rel (κ : Kap) (Φ : Ctx) (g : G) (σ : St) (s : Shared) : Prop where
  ns : ∃ m, s.heap.Ns Φ.env.locals m ∧ LocR κ Φ g σ.loc m s.heap
  cells : ∀ a ∈ Φ.cw, ∃ v, s.heap.IsCell a v
  keep : KeepsH Φ.h₀ s.heap
  fz : ∀ p ∈ g.fz, s.heap.get? p.1 = some p.2
  pins : ∀ p ∈ Φ.pins, s.heap.get? p.1 = some p.2
  tr : TrR Φ.w.params g σ.objs s.heap
  muts : ∀ a ∈ Φ.muts g, Φ.h₀.get? a = none ∧ (∀ p ∈ g.fz, p.1 ≠ a) ∧ ∀ p ∈ Φ.pins, p.1 ≠ a
  nodup : (Φ.muts g).Nodup
  pinsOk : ∀ p ∈ Φ.pins, Φ.h₀.get? p.1 = none ∧ ∀ q ∈ g.fz, q.1 ≠ p.1
  cellsOk : ∀ x c, Φ.env.kindOf x = some .cell → Φ.env.cells.lookup x = some c → c ∈ Φ.cw ∨ (Φ.h₀.get? c).isSome = true
  gens : s.gens = #[]
  os : s.os = Φ.os
  forb : ∀ a ∈ Φ.forb, (Φ.h₀.get? a).isSome = true ∧ ∀ p ∈ g.fz, p.1 ≠ a

def Known (Φ : Ctx) (g : G) (b : Addr) : Prop := b ∈ Φ.muts g ∨ (∃ p ∈ g.fz, p.1 = b) ∨ (∃ p ∈ Φ.pins, p.1 = b) ∨ (Φ.h₀.get? b).isSome = true

theorem TrR.at {P : Params} {g : G} {objs : List O} {h : Heap} (T : TrR P g objs h) {i : Nat} {a : Addr} (e : g.tr[i]? = some a) : ∃ o ob, objs[i]? = some o ∧ h.get? a = some ob ∧ OR P g o ob := by
  have hi : i < objs.length := by rw [← T.1]; exact (List.getElem?_eq_some_iff.mp e).1
  obtain ⟨ob, h1, h2⟩ := T.2 i a _ e (List.getElem?_eq_getElem hi)
  exact ⟨_, ob, List.getElem?_eq_getElem hi, h1, h2⟩

theorem Rel.known {κ : Kap} {Φ : Ctx} {g : G} {σ : St} {s : Shared} (R : Rel κ Φ g σ s) {b : Addr} (k : Known Φ g b) : ∃ o, s.heap.get? b = some o := by
  rcases k with k | ⟨p, hp, rfl⟩ | ⟨p, hp, rfl⟩ | k
  · rcases List.mem_cons.mp k with rfl | k
    · obtain ⟨m, ⟨o, _, _, ho, _⟩, _⟩ := R.ns; exact ⟨o, ho⟩
    · rcases List.mem_append.mp k with k | k
      · obtain ⟨v, o, ho, _⟩ := R.cells b k; exact ⟨o, ho⟩
      · obtain ⟨i, hi⟩ := List.getElem?_of_mem k
        obtain ⟨_, ob, _, h, _⟩ := R.tr.at hi
        exact ⟨ob, h⟩
  · exact ⟨_, R.fz p hp⟩
  · exact ⟨_, R.pins p hp⟩
  · obtain ⟨o, ho⟩ := Option.isSome_iff_exists.mp k
    exact ⟨o, R.keep b o ho⟩

theorem Rel.fresh {κ : Kap} {Φ : Ctx} {g : G} {σ : St} {s : Shared} (R : Rel κ Φ g σ s) : ¬ Known Φ g s.heap.objs.size := fun k => by
  obtain ⟨o, ho⟩ := R.known k
  exact absurd (Heap.lt_size ho) (Nat.lt_irrefl _)

/-- all that is known is kept: the relation stays -/
theorem Rel.ext {κ : Kap} {Φ : Ctx} {g : G} {σ : St} {s : Shared} (R : Rel κ Φ g σ s) {h' : Heap} {tk : Nat}
    (hk : ∀ b o, Known Φ g b → s.heap.get? b = some o → h'.get? b = some o) : Rel κ Φ g σ { s with heap := h', toks := tk } := by
  obtain ⟨m, ⟨o, es, ep, ho, r⟩, lr⟩ := R.ns
  refine ⟨⟨m, ⟨o, es, ep, hk _ _ (.inl (.head _)) ho, r⟩, fun x k v hs hl => ?_⟩, fun a ha => ?_, fun b o e => hk b o (.inr (.inr (.inr (by rw [e]; rfl)))) (R.keep b o e), fun p hp => hk _ _ (.inr (.inl ⟨p, hp, rfl⟩)) (R.fz p hp),
    fun p hp => hk _ _ (.inr (.inr (.inl ⟨p, hp, rfl⟩))) (R.pins p hp), ⟨R.tr.1, fun i a o e1 e2 => ?_⟩, R.muts, R.nodup, R.pinsOk, R.cellsOk, R.gens, R.os, R.forb⟩
  · have := lr x k v hs hl
    split at this
    · exact this
    · rename_i hc
      obtain ⟨c, val, h1, ⟨oc, hoc, hd⟩, h3⟩ := this
      refine ⟨c, val, h1, ⟨oc, hk _ _ ?_ hoc, hd⟩, h3⟩
      rcases R.cellsOk x c hc h1 with h | h
      · exact .inl (.tail _ (List.mem_append_left _ h))
      · exact .inr (.inr (.inr h))
    · trivial
  · obtain ⟨v, oc, hoc, hd⟩ := R.cells a ha
    exact ⟨v, oc, hk _ _ (.inl (.tail _ (List.mem_append_left _ ha))) hoc, hd⟩
  · obtain ⟨ob, h1, h2⟩ := R.tr.2 i a o e1 e2
    exact ⟨ob, hk _ _ (.inl (.tail _ (List.mem_append_right _ (List.mem_of_getElem? e1)))) h1, h2⟩

theorem Rel.keeps {κ : Kap} {Φ : Ctx} {g : G} {σ : St} {s : Shared} (R : Rel κ Φ g σ s) {h' : Heap} {tk : Nat} (hk : KeepsH s.heap h') : Rel κ Φ g σ { s with heap := h', toks := tk } :=
  R.ext fun b o _ e => hk b o e
theorem Rel.tok {κ : Kap} {Φ : Ctx} {g : G} {σ : St} {s : Shared} (R : Rel κ Φ g σ s) (tk : Nat) : Rel κ Φ g σ { s with toks := tk } := R.keeps (h' := s.heap) fun _ _ e => e

/-- a new frozen object -/
theorem Rel.freeze {κ : Kap} {Φ : Ctx} {g : G} {σ : St} {s : Shared} (R : Rel κ Φ g σ s) {a : Addr} {o : Obj} (ha : s.heap.get? a = some o) (hn : ¬ Known Φ g a) :
    Rel κ Φ ⟨(a, o) :: g.fz, g.tr⟩ σ s ∧ g.le ⟨(a, o) :: g.fz, g.tr⟩ := by
  have le : g.le ⟨(a, o) :: g.fz, g.tr⟩ := ⟨fun p h => .tail _ h, [], by simp⟩
  refine ⟨?_, le⟩
  obtain ⟨m, hm, lr⟩ := R.ns
  refine ⟨⟨m, hm, fun x k v hs hl => ?_⟩, R.cells, R.keep, fun p hp => ?_, R.pins, ⟨R.tr.1, fun i a o e1 e2 => ?_⟩, fun b hb => ⟨(R.muts b hb).1, fun p hp => ?_, (R.muts b hb).2.2⟩, R.nodup, fun p hp => ⟨(R.pinsOk p hp).1, fun q hq => ?_⟩, R.cellsOk, R.gens, R.os, fun b hb => ⟨(R.forb b hb).1, fun q hq => ?_⟩⟩
  · have := lr x k v hs hl
    split at this
    · obtain ⟨val, h1, h2⟩ := this; exact ⟨val, h1, VR.mono le v h2⟩
    · obtain ⟨c, val, h1, h2, h3⟩ := this; exact ⟨c, val, h1, h2, VR.mono le v h3⟩
    · trivial
  · rcases List.mem_cons.mp hp with rfl | hp
    · exact ha
    · exact R.fz p hp
  · obtain ⟨ob, h1, h2⟩ := R.tr.2 i a o e1 e2
    exact ⟨ob, h1, h2.mono le⟩
  · rcases List.mem_cons.mp hp with rfl | hp
    · intro e; exact hn (.inl ((show a = b from e) ▸ hb))
    · exact (R.muts b hb).2.1 p hp
  · rcases List.mem_cons.mp hq with rfl | hq
    · intro e; exact hn (.inr (.inr (.inl ⟨p, hp, e.symm⟩)))
    · exact (R.pinsOk p hp).2 q hq
  · rcases List.mem_cons.mp hq with rfl | hq
    · intro e; exact hn (.inr (.inr (.inr ((show a = b from e) ▸ (R.forb b hb).1))))
    · exact (R.forb b hb).2 q hq

/-- a new tracked object -/
theorem Rel.track {κ : Kap} {Φ : Ctx} {g : G} {σ : St} {s : Shared} (R : Rel κ Φ g σ s) {a : Addr} {ob : Obj} {o : O} (ha : s.heap.get? a = some ob) (hn : ¬ Known Φ g a) (ho : OR Φ.w.params g o ob) :
    Rel κ Φ ⟨g.fz, g.tr ++ [a]⟩ { σ with objs := σ.objs ++ [o] } s ∧ g.le ⟨g.fz, g.tr ++ [a]⟩ := by
  have le : g.le ⟨g.fz, g.tr ++ [a]⟩ := ⟨fun p h => h, [a], rfl⟩
  refine ⟨?_, le⟩
  obtain ⟨m, hm, lr⟩ := R.ns
  have hmem : ∀ b, b ∈ Φ.muts ⟨g.fz, g.tr ++ [a]⟩ → b ∈ Φ.muts g ∨ b = a := fun b hb => by
    simp only [Ctx.muts, List.mem_cons, List.mem_append, List.mem_nil_iff, or_false] at hb ⊢
    rcases hb with h | h | h | h
    · exact .inl (.inl h)
    · exact .inl (.inr (.inl h))
    · exact .inl (.inr (.inr h))
    · exact .inr h
  refine ⟨⟨m, hm, fun x k v hs hl => ?_⟩, R.cells, R.keep, R.fz, R.pins, ⟨by simp [R.tr.1], fun i b o' e1 e2 => ?_⟩, fun b hb => ?_, ?_, R.pinsOk, R.cellsOk, R.gens, R.os, R.forb⟩
  · have := lr x k v hs hl
    split at this
    · obtain ⟨val, h1, h2⟩ := this; exact ⟨val, h1, VR.mono le v h2⟩
    · obtain ⟨c, val, h1, h2, h3⟩ := this; exact ⟨c, val, h1, h2, VR.mono le v h3⟩
    · trivial
  · simp only at e1 e2
    by_cases hi : i < g.tr.length
    · rw [List.getElem?_append_left hi] at e1
      rw [List.getElem?_append_left (by rw [← R.tr.1]; exact hi)] at e2
      obtain ⟨ob', h1, h2⟩ := R.tr.2 i b o' e1 e2
      exact ⟨ob', h1, h2.mono le⟩
    · rw [List.getElem?_append_right (by omega)] at e1
      rw [List.getElem?_append_right (by rw [← R.tr.1]; omega), ← R.tr.1] at e2
      have : i - g.tr.length = 0 := by
        have := (List.getElem?_eq_some_iff.mp e1).1
        simp at this; omega
      rw [this] at e1 e2
      simp at e1 e2
      subst e1 e2
      exact ⟨ob, ha, ho.mono le⟩
  · rcases hmem b hb with h | rfl
    · exact R.muts b h
    · refine ⟨?_, fun p hp e => hn (.inr (.inl ⟨p, hp, e⟩)), fun p hp e => hn (.inr (.inr (.inl ⟨p, hp, e⟩)))⟩
      cases q : Φ.h₀.get? b with
      | none => rfl
      | some o => exact absurd (.inr (.inr (.inr (by rw [q]; rfl)))) hn
  · show (Φ.env.locals :: (Φ.cw ++ (g.tr ++ [a]))).Nodup
    rw [← List.append_assoc, ← List.cons_append]
    refine List.nodup_append.mpr ⟨R.nodup, (List.nodup_cons.mpr ⟨by simp, List.nodup_nil⟩), fun x hx y hy e => ?_⟩
    rw [List.mem_singleton.mp hy] at e
    exact hn (.inl (e ▸ hx))

/-- a tracked object is turned -/
theorem Rel.turn {κ : Kap} {Φ : Ctx} {g : G} {σ : St} {s : Shared} (R : Rel κ Φ g σ s) {i : Nat} {a : Addr} {ob : Obj} {o : O} {h' : Heap} {tk : Nat} (hi : g.tr[i]? = some a)
    (h1 : h'.get? a = some ob) (ho : OR Φ.w.params g o ob) (hk : ∀ b o, b ≠ a → s.heap.get? b = some o → h'.get? b = some o) :
    Rel κ Φ g { σ with objs := σ.objs.set i o } { s with heap := h', toks := tk } := by
  have hmem : a ∈ Φ.muts g := .tail _ (List.mem_append_right _ (List.mem_of_getElem? hi))
  have nd := R.nodup
  have hne : ∀ b, b ∈ Φ.env.locals :: Φ.cw → b ≠ a := fun b hb e => by
    subst e
    rw [show Φ.muts g = (Φ.env.locals :: Φ.cw) ++ g.tr from rfl] at nd
    exact (List.nodup_append.mp nd).2.2 b hb b (List.mem_of_getElem? hi) rfl
  have hil : i < g.tr.length := (List.getElem?_eq_some_iff.mp hi).1
  obtain ⟨m, ⟨oL, es, ep, hoL, r⟩, lr⟩ := R.ns
  refine ⟨⟨m, ⟨oL, es, ep, hk _ _ (hne _ (.head _)) hoL, r⟩, fun x k v hs hl => ?_⟩, fun c hc => ?_, fun b o e => hk b o (fun q => ?_) (R.keep b o e), fun p hp => hk _ _ ((R.muts a hmem).2.1 p hp) (R.fz p hp),
    fun p hp => hk _ _ ((R.muts a hmem).2.2 p hp) (R.pins p hp), ⟨by simp [R.tr.1], fun j b o' e1 e2 => ?_⟩, R.muts, R.nodup, R.pinsOk, R.cellsOk, R.gens, R.os, R.forb⟩
  · have := lr x k v hs hl
    split at this
    · exact this
    · rename_i hc
      obtain ⟨c, val, h1, ⟨oc, hoc, hd⟩, h3⟩ := this
      refine ⟨c, val, h1, ⟨oc, hk _ _ ?_ hoc, hd⟩, h3⟩
      rcases R.cellsOk x c hc h1 with h | h
      · exact hne c (.tail _ h)
      · intro e; rw [e, (R.muts a hmem).1] at h; cases h
    · trivial
  · obtain ⟨v, oc, hoc, hd⟩ := R.cells c hc
    exact ⟨v, oc, hk _ _ (hne c (.tail _ hc)) hoc, hd⟩
  · rw [q, (R.muts a hmem).1] at e; cases e
  · by_cases hj : j = i
    · subst hj
      rw [hi] at e1; cases e1
      rw [List.getElem?_set_self (by rw [← R.tr.1]; exact hil)] at e2
      cases e2
      exact ⟨ob, h1, ho⟩
    · rw [List.getElem?_set_ne (Ne.symm hj)] at e2
      obtain ⟨ob', h2, h3⟩ := R.tr.2 j b o' e1 e2
      refine ⟨ob', hk _ _ (fun q => hj ?_) h2, h3⟩
      subst q
      have ndt := (List.nodup_append.mp (show ((Φ.env.locals :: Φ.cw) ++ g.tr).Nodup from nd)).2.1
      exact (List.getElem?_inj (List.getElem?_eq_some_iff.mp e1).1 ndt).mp (e1.trans hi.symm)

/-- the library's own ledger for what is known -/
theorem Rel.ledgerK {κ : Kap} {Φ : Ctx} {g : G} {σ : St} {s : Shared} (R : Rel κ Φ g σ s) (above : Φ.h₀.objs.size ≤ Φ.env.locals) :
    ∃ m news, Fr Φ.h₀ Φ.env.locals s.heap m ∧ News Φ.h₀ Φ.env.locals s.heap news ∧
      (∀ h' tk, Fr Φ.h₀ Φ.env.locals h' m → News Φ.h₀ Φ.env.locals h' news → Rel κ Φ g σ { s with heap := h', toks := tk }) ∧
      ∀ b, Known Φ g b → b = Φ.env.locals ∨ (Φ.h₀.get? b).isSome = true ∨ ∃ o, (b, o) ∈ news := by
  obtain ⟨m, hm, lr⟩ := R.ns
  let as : List Addr := Φ.cw ++ (g.fz.map (·.1) ++ (Φ.pins.map (·.1) ++ g.tr))
  let news : List (Addr × Obj) := as.filterMap fun a => match s.heap.get? a with
    | some o => if (Φ.h₀.get? a).isNone && a != Φ.env.locals then some (a, o) else none
    | none => none
  have hin : ∀ a o, a ∈ as → a ≠ Φ.env.locals → s.heap.get? a = some o → (a, o) ∈ news ∨ Φ.h₀.get? a = some o := fun a o ha hne ho => by
    cases q : Φ.h₀.get? a with
    | some o' => exact .inr (by rw [R.keep a o' q] at ho; exact ho)
    | none => exact .inl (List.mem_filterMap.mpr ⟨a, ha, by simp [ho, q, hne]⟩)
  have hN : News Φ.h₀ Φ.env.locals s.heap news := fun p hp => by
    obtain ⟨a, ha, e⟩ := List.mem_filterMap.mp hp
    split at e
    · rename_i o ho
      split at e
      · rename_i c
        cases e
        simp only [Bool.and_eq_true, Option.isNone_iff_eq_none, bne_iff_ne] at c
        exact ⟨ho, c.2, c.1⟩
      · cases e
    · cases e
  refine ⟨m, news, ⟨hm, R.keep, above⟩, hN, fun h' tk F N => ?_, fun b k => ?_⟩
  rotate_left
  · by_cases hbL : b = Φ.env.locals
    · exact .inl hbL
    · obtain ⟨o, ho⟩ := R.known k
      rcases k with k | ⟨p, hp, rfl⟩ | ⟨p, hp, rfl⟩ | k
      · rcases List.mem_cons.mp k with k | k
        · exact absurd k hbL
        · rcases List.mem_append.mp k with k | k
          · rcases hin b o (List.mem_append_left _ k) hbL ho with q | q
            · exact .inr (.inr ⟨o, q⟩)
            · exact .inr (.inl (by rw [q]; rfl))
          · rcases hin b o (List.mem_append_right _ (List.mem_append_right _ (List.mem_append_right _ k))) hbL ho with q | q
            · exact .inr (.inr ⟨o, q⟩)
            · exact .inr (.inl (by rw [q]; rfl))
      · rcases hin p.1 o (List.mem_append_right _ (List.mem_append_left _ (List.mem_map_of_mem hp))) hbL ho with q | q
        · exact .inr (.inr ⟨o, q⟩)
        · exact .inr (.inl (by rw [q]; rfl))
      · rcases hin p.1 o (List.mem_append_right _ (List.mem_append_right _ (List.mem_append_left _ (List.mem_map_of_mem hp)))) hbL ho with q | q
        · exact .inr (.inr ⟨o, q⟩)
        · exact .inr (.inl (by rw [q]; rfl))
      · exact .inr (.inl k)
  have hk : ∀ b o, b ≠ Φ.env.locals → Known Φ g b → s.heap.get? b = some o → h'.get? b = some o := fun b o hb k ho => by
    have hb' : b ∈ as ∨ Φ.h₀.get? b = some o := by
      rcases k with k | ⟨p, hp, rfl⟩ | ⟨p, hp, rfl⟩ | k
      · rcases List.mem_cons.mp k with k | k
        · exact absurd k hb
        · rcases List.mem_append.mp k with k | k
          · exact .inl (List.mem_append_left _ k)
          · exact .inl (List.mem_append_right _ (List.mem_append_right _ (List.mem_append_right _ k)))
      · exact .inl (List.mem_append_right _ (List.mem_append_left _ (List.mem_map_of_mem hp)))
      · exact .inl (List.mem_append_right _ (List.mem_append_right _ (List.mem_append_left _ (List.mem_map_of_mem hp))))
      · obtain ⟨o', ho'⟩ := Option.isSome_iff_exists.mp k
        have := R.keep b o' ho'
        rw [ho] at this; cases this
        exact .inr ho'
    rcases hb' with hb' | hb'
    · rcases hin b o hb' hb ho with q | q
      · exact (N _ q).1
      · exact F.keep b o q
    · exact F.keep b o hb'
  have nd := List.nodup_cons.mp (show (Φ.env.locals :: (Φ.cw ++ g.tr)).Nodup from R.nodup)
  have hL := R.muts Φ.env.locals (.head _)
  refine ⟨⟨m, F.ns, fun x k v hs hl => ?_⟩, fun a ha => ?_, F.keep, fun p hp => hk _ _ (hL.2.1 p hp) (.inr (.inl ⟨p, hp, rfl⟩)) (R.fz p hp), fun p hp => hk _ _ (hL.2.2 p hp) (.inr (.inr (.inl ⟨p, hp, rfl⟩))) (R.pins p hp),
    ⟨R.tr.1, fun i a o e1 e2 => ?_⟩, R.muts, R.nodup, R.pinsOk, R.cellsOk, R.gens, R.os, R.forb⟩
  · have := lr x k v hs hl
    split at this
    · exact this
    · rename_i hc
      obtain ⟨c, val, h1, ⟨oc, hoc, hd⟩, h3⟩ := this
      refine ⟨c, val, h1, ⟨oc, ?_, hd⟩, h3⟩
      rcases R.cellsOk x c hc h1 with h | h
      · exact hk _ _ (fun e => nd.1 (e ▸ List.mem_append_left _ h)) (.inl (.tail _ (List.mem_append_left _ h))) hoc
      · exact hk _ _ (fun e => by rw [e, hL.1] at h; cases h) (.inr (.inr (.inr h))) hoc
    · trivial
  · obtain ⟨v, oc, hoc, hd⟩ := R.cells a ha
    exact ⟨v, oc, hk _ _ (fun e => nd.1 (e ▸ List.mem_append_left _ ha)) (.inl (.tail _ (List.mem_append_left _ ha))) hoc, hd⟩
  · obtain ⟨ob, h1, h2⟩ := R.tr.2 i a o e1 e2
    have hm := List.mem_of_getElem? e1
    exact ⟨ob, hk _ _ (fun e => nd.1 (e ▸ List.mem_append_right _ hm)) (.inl (.tail _ (List.mem_append_right _ hm))) h1, h2⟩

theorem Rel.ledger {κ : Kap} {Φ : Ctx} {g : G} {σ : St} {s : Shared} (R : Rel κ Φ g σ s) (above : Φ.h₀.objs.size ≤ Φ.env.locals) :
    ∃ m news, Fr Φ.h₀ Φ.env.locals s.heap m ∧ News Φ.h₀ Φ.env.locals s.heap news ∧
      ∀ h' tk, Fr Φ.h₀ Φ.env.locals h' m → News Φ.h₀ Φ.env.locals h' news → Rel κ Φ g σ { s with heap := h', toks := tk } := by
  obtain ⟨m, news, F, N, back, _⟩ := R.ledgerK above
  exact ⟨m, news, F, N, back⟩
theorem ntail {h₀ h : Heap} {L : Addr} {p : Addr × Obj} {news : List (Addr × Obj)} (N : News h₀ L h (p :: news)) : News h₀ L h news := fun q hq => N q (.tail _ hq)

end Mine

open PySem PySem.W PyProof.Rows PySem.Calls
set_option Elab.async false
set_option maxRecDepth 100000
set_option linter.unusedVariables false

namespace Mine

/-! ## The judgements -/

abbrev NoE : Value → Shared → Prop := fun _ _ => False

def PE (κ : Kap) (Φ : Ctx) (g : G) (Q : V → St → Prop) (x : Value) (s' : Shared) : Prop := ∃ g' v σ', g.le g' ∧ Rel κ Φ g' σ' s' ∧ VR g' v x ∧ Q v σ'
def PEs (κ : Kap) (Φ : Ctx) (g : G) (Q : List V → St → Prop) (xs : List Value) (s' : Shared) : Prop := ∃ g' vs σ', g.le g' ∧ Rel κ Φ g' σ' s' ∧ VRs g' vs xs ∧ Q vs σ'
def PU (κ : Kap) (Φ : Ctx) (g : G) (Q : Unit → St → Prop) (_ : Unit) (s' : Shared) : Prop := ∃ g' σ', g.le g' ∧ Rel κ Φ g' σ' s' ∧ Q () σ'
def PB (κ : Kap) (Φ : Ctx) (g : G) (Q : Bool → St → Prop) (b : Bool) (s' : Shared) : Prop := ∃ g' σ', g.le g' ∧ Rel κ Φ g' σ' s' ∧ Q b σ'
def FlR (g : G) : Fl → Flow → Prop
  | .next, f => f = .next
  | .brk, f => f = .brk
  | .cont, f => f = .cont
  | .ret v, f => ∃ x, f = .ret x ∧ VR g v x
def PF (κ : Kap) (Φ : Ctx) (g : G) (Q : Fl → St → Prop) (f : Flow) (s' : Shared) : Prop := ∃ g' fl σ', g.le g' ∧ Rel κ Φ g' σ' s' ∧ FlR g' fl f ∧ Q fl σ'

/-- an operation that makes a value, over a state -/
def Op (κ : Kap) (Φ : Ctx) (g : G) (t : Sem Value) (f : W V) : Prop :=
  ∀ g', g.le g' → ∀ σ s Q, Rel κ Φ g' σ s → f Q σ → wpAny (model κ.P.prog Φ.w) Φ.A t (PE κ Φ g' Q) NoE s

def SE (κ : Kap) (e : Expr) (f : W V) : Prop :=
  ∀ Φ, Ctx.Ok κ Φ → ∀ g σ s Q, Rel κ Φ g σ s → f Q σ → wpAny (model κ.P.prog Φ.w) Φ.A (eval e Φ.env) (PE κ Φ g Q) NoE s
def ST (κ : Kap) (e : Expr) (f : W Bool) : Prop :=
  ∀ Φ, Ctx.Ok κ Φ → ∀ g σ s Q, Rel κ Φ g σ s → f Q σ → wpAny (model κ.P.prog Φ.w) Φ.A (isTrue e Φ.env (eval e Φ.env)) (PB κ Φ g Q) NoE s
def SEs (κ : Kap) (es : List Expr) (f : W (List V)) : Prop :=
  ∀ Φ, Ctx.Ok κ Φ → ∀ pos g σ s Q, Rel κ Φ g σ s → f Q σ → wpAny (model κ.P.prog Φ.w) Φ.A (spliced (backTo pos (starEach es Φ.env))) (PEs κ Φ g Q) NoE s
def SS (κ : Kap) (st : Stmt) (f : W Fl) : Prop :=
  ∀ Φ, Ctx.Ok κ Φ → ∀ g σ s Q, Rel κ Φ g σ s → f Q σ → wpAny (model κ.P.prog Φ.w) Φ.A (exec st Φ.env) (PF κ Φ g Q) NoE s
def SB (κ : Kap) (sts : List Stmt) (f : W Fl) : Prop :=
  ∀ Φ, Ctx.Ok κ Φ → ∀ g σ s Q, Rel κ Φ g σ s → f Q σ → wpAny (model κ.P.prog Φ.w) Φ.A (execs sts Φ.env) (PF κ Φ g Q) NoE s
/-- a target that takes a value -/
def SA (κ : Kap) (t : Expr) (f : V → W Unit) : Prop :=
  ∀ Φ, Ctx.Ok κ Φ → ∀ g σ s Q v x, Rel κ Φ g σ s → VR g v x → f v Q σ → wpAny (model κ.P.prog Φ.w) Φ.A (assign t Φ.env x) (PU κ Φ g Q) NoE s

def ret {α : Type} (v : α) : W α := fun Q σ => Q v σ
def bnd {α β : Type} (m : W α) (k : α → W β) : W β := fun Q σ => m (fun a σ' => k a Q σ') σ

section
variable {κ : Kap}

theorem PE.le {Φ : Ctx} {g g' : G} {Q : V → St → Prop} {x : Value} {s : Shared} (le : g.le g') (h : PE κ Φ g' Q x s) : PE κ Φ g Q x s := by
  obtain ⟨g'', v, σ, l, r⟩ := h; exact ⟨g'', v, σ, le.trans l, r⟩
theorem PEs.le {Φ : Ctx} {g g' : G} {Q : List V → St → Prop} {x : List Value} {s : Shared} (le : g.le g') (h : PEs κ Φ g' Q x s) : PEs κ Φ g Q x s := by
  obtain ⟨g'', v, σ, l, r⟩ := h; exact ⟨g'', v, σ, le.trans l, r⟩
theorem PB.le {Φ : Ctx} {g g' : G} {Q : Bool → St → Prop} {x : Bool} {s : Shared} (le : g.le g') (h : PB κ Φ g' Q x s) : PB κ Φ g Q x s := by
  obtain ⟨g'', σ, l, r⟩ := h; exact ⟨g'', σ, le.trans l, r⟩
theorem PU.le {Φ : Ctx} {g g' : G} {Q : Unit → St → Prop} {x : Unit} {s : Shared} (le : g.le g') (h : PU κ Φ g' Q x s) : PU κ Φ g Q x s := by
  obtain ⟨g'', σ, l, r⟩ := h; exact ⟨g'', σ, le.trans l, r⟩
theorem PF.le {Φ : Ctx} {g g' : G} {Q : Fl → St → Prop} {x : Flow} {s : Shared} (le : g.le g') (h : PF κ Φ g' Q x s) : PF κ Φ g Q x s := by
  obtain ⟨g'', v, σ, l, r⟩ := h; exact ⟨g'', v, σ, le.trans l, r⟩
theorem FlR.mono {g g' : G} (le : g.le g') : ∀ {fl : Fl} {f : Flow}, FlR g fl f → FlR g' fl f
  | .next, _, h => h
  | .brk, _, h => h
  | .cont, _, h => h
  | .ret v, _, ⟨x, e, r⟩ => ⟨x, e, VR.mono le v r⟩

/-- widen the ghost behind a step -/
theorem wPE {Φ : Ctx} {g g' : G} {t : Sem Value} {Q : V → St → Prop} {s : Shared} {M : Model} {A : Around} (le : g.le g') (h : wpAny M A t (PE κ Φ g' Q) NoE s) : wpAny M A t (PE κ Φ g Q) NoE s :=
  wpAny_mono h (fun _ _ p => p.le le) fun _ _ e => e
theorem wPEs {Φ : Ctx} {g g' : G} {t : Sem (List Value)} {Q : List V → St → Prop} {s : Shared} {M : Model} {A : Around} (le : g.le g') (h : wpAny M A t (PEs κ Φ g' Q) NoE s) : wpAny M A t (PEs κ Φ g Q) NoE s :=
  wpAny_mono h (fun _ _ p => p.le le) fun _ _ e => e
theorem wPB {Φ : Ctx} {g g' : G} {t : Sem Bool} {Q : Bool → St → Prop} {s : Shared} {M : Model} {A : Around} (le : g.le g') (h : wpAny M A t (PB κ Φ g' Q) NoE s) : wpAny M A t (PB κ Φ g Q) NoE s :=
  wpAny_mono h (fun _ _ p => p.le le) fun _ _ e => e
theorem wPU {Φ : Ctx} {g g' : G} {t : Sem Unit} {Q : Unit → St → Prop} {s : Shared} {M : Model} {A : Around} (le : g.le g') (h : wpAny M A t (PU κ Φ g' Q) NoE s) : wpAny M A t (PU κ Φ g Q) NoE s :=
  wpAny_mono h (fun _ _ p => p.le le) fun _ _ e => e
theorem wPF {Φ : Ctx} {g g' : G} {t : Sem Flow} {Q : Fl → St → Prop} {s : Shared} {M : Model} {A : Around} (le : g.le g') (h : wpAny M A t (PF κ Φ g' Q) NoE s) : wpAny M A t (PF κ Φ g Q) NoE s :=
  wpAny_mono h (fun _ _ p => p.le le) fun _ _ e => e

/-! ## Names and constants -/

def getv (k : Nat) : W V := fun Q σ => match lget σ.loc k with
  | some v => Q v σ
  | none => False
def setv (k : Nat) (v : V) : W Unit := fun Q σ => k < σ.loc.length ∧ Q () { σ with loc := lset σ.loc k v }

theorem getv_def {k : Nat} {Q : V → St → Prop} {σ : St} (h : getv k Q σ) : ∃ v, lget σ.loc k = some v ∧ Q v σ := by
  unfold getv at h
  split at h
  · rename_i v e; exact ⟨v, e, h⟩
  · exact h.elim

def lcl (κ : Kap) (x : Str) (k : Nat) : Bool := (κ.names.lookup x == some .local || κ.names.lookup x == some .cell) && slot κ.vars x == some k && !(x == ("__debug__" : Str))
theorem lcl_slot {x : Str} {k : Nat} (h : lcl κ x k = true) : slot κ.vars x = some k := by
  simp only [lcl, Bool.and_eq_true, beq_iff_eq] at h; exact h.1.2
theorem lcl_kind {x : Str} {k : Nat} (h : lcl κ x k = true) : κ.names.lookup x = some .local ∨ κ.names.lookup x = some .cell := by
  simp only [lcl, Bool.and_eq_true, Bool.or_eq_true, beq_iff_eq] at h; exact h.1.1
theorem lcl_dbg {x : Str} {k : Nat} (h : lcl κ x k = true) : (x == ("__debug__" : Str)) = false := by
  simp only [lcl, Bool.and_eq_true, Bool.not_eq_true'] at h; exact h.2

theorem loadv {Φ : Ctx} (ok : Ctx.Ok κ Φ) {g : G} {σ : St} {s : Shared} {Q : V → St → Prop} {x : Str} {k : Nat} (R : Rel κ Φ g σ s) (hx : lcl κ x k = true) (h : getv k Q σ) :
    wpAny (model κ.P.prog Φ.w) Φ.A (loadName Φ.env x) (PE κ Φ g Q) NoE s := by
  obtain ⟨v, e, q⟩ := getv_def h
  obtain ⟨m, hm, lr⟩ := R.ns
  have := lr x k v (lcl_slot hx) e
  rcases lcl_kind hx with hk | hk
  · rw [← ok.kinds x] at hk
    simp only [hk] at this
    obtain ⟨val, h1, h2⟩ := this
    exact wpAny_loadName_local ok.kind hk hm h1 ⟨g, v, σ, .refl g, R, h2, q⟩
  · rw [← ok.kinds x] at hk
    simp only [hk] at this
    obtain ⟨c, val, h1, h2, h3⟩ := this
    exact wpAny_loadName_cell ok.kind hk h1 h2 ⟨g, v, σ, .refl g, R, h3, q⟩

theorem r_Name {x : Str} {k : Nat} {pos : Pos} (hx : lcl κ x k = true) : SE κ (.Name x pos) (getv k) :=
  fun Φ ok g σ s Q R h => wpAny_Name (loadv ok R hx h) (lcl_dbg hx)

def gbl (κ : Kap) (x : Str) (v : Value) : Bool := κ.names.lookup x == some .globalImplicit && κ.P.glob.lookup x == some v && !(x == ("__debug__" : Str))
theorem r_Glob {x : Str} {v : Value} {pos : Pos} (hx : gbl κ x v = true) : SE κ (.Name x pos) (ret (.glob v)) := fun Φ ok g σ s Q R h => by
  simp only [gbl, Bool.and_eq_true, Bool.not_eq_true', beq_iff_eq] at hx
  obtain ⟨⟨h1, h2⟩, h3⟩ := hx
  obtain ⟨mg, mb, hg, hb, look⟩ := ok.globs
  have fin : PE κ Φ g Q v s := ⟨g, .glob v, σ, .refl g, R, by simp only [VR], h⟩
  have hg' : s.heap.Ns Φ.env.globals mg := by rw [ok.globals]; exact hg.keeps R.keep
  have hb' : s.heap.Ns Φ.env.builtins mb := by rw [ok.builtins]; exact hb.keeps R.keep
  refine Name_function_global ok.kind ((ok.kinds x).trans h1) ?_ h3
  rcases look x v h2 with e | ⟨e, e'⟩
  · exact loadGlobal_global hg' e fin
  · exact loadGlobal_builtin hg' e hb' e' fin

theorem slot_inj : ∀ {vars : List Str} {x y : Str} {k : Nat}, slot vars x = some k → slot vars y = some k → x = y
  | [], _, _, _, h, _ => by cases h
  | z :: zs, x, y, k, h, h' => by
    simp only [slot] at h h'
    by_cases e : x == z
    · rw [if_pos e] at h
      cases h
      by_cases e' : y == z
      · rw [beq_iff_eq.mp e, beq_iff_eq.mp e']
      · rw [if_neg e'] at h'
        cases q : slot zs y <;> rw [q] at h' <;> simp at h'
    · rw [if_neg e] at h
      by_cases e' : y == z
      · rw [if_pos e'] at h'
        cases h'
        cases q : slot zs x <;> rw [q] at h <;> simp at h
      · rw [if_neg e'] at h'
        cases q : slot zs x with
        | none => rw [q] at h; cases h
        | some i =>
          cases q' : slot zs y with
          | none => rw [q'] at h'; cases h'
          | some j =>
            rw [q] at h; rw [q'] at h'
            simp at h h'
            subst h
            have : j = i := by omega
            subst this
            exact slot_inj q q'

def stl (κ : Kap) (x : Str) (k : Nat) : Bool := lcl κ x k && (κ.names.lookup x == some .local || κ.fn)
theorem stl_lcl {x : Str} {k : Nat} (h : stl κ x k = true) : lcl κ x k = true := (Bool.and_eq_true_iff.mp h).1
theorem stl_fn {x : Str} {k : Nat} (h : stl κ x k = true) (hc : κ.names.lookup x = some .cell) : κ.fn = true := by
  have := (Bool.and_eq_true_iff.mp h).2
  rw [hc] at this
  simpa using this

theorem storev {Φ : Ctx} (ok : Ctx.Ok κ Φ) {g : G} {σ : St} {s : Shared} {Q : Unit → St → Prop} {x : Str} {k : Nat} {v : V} {val : Value} (R : Rel κ Φ g σ s) (hx' : stl κ x k = true)
    (hv : VR g v val) (h : setv k v Q σ) :
    wpAny (model κ.P.prog Φ.w) Φ.A (storeName Φ.env x val) (PU κ Φ g Q) NoE s := by
  have hx := stl_lcl hx'
  have hcd : ∀ y c, Φ.env.cells.lookup y = some c → Φ.env.cells.lookup x = some c → y = x := fun y c a b => ok.cinj y x c a b
  obtain ⟨hl, q⟩ := h
  obtain ⟨m, hm, lr⟩ := R.ns
  have hmem : Φ.env.locals ∈ Φ.muts g := .head _
  rcases lcl_kind hx with hk | hk
  · have hk' := hk
    rw [← ok.kinds x] at hk'
    refine wpAny_storeName_local hk' hm (fun h' hn hs => ⟨g, _, .refl g, ?_, q⟩) (by rw [ok.kind]; rfl)
    have hkeep : ∀ b o, b ≠ Φ.env.locals → s.heap.get? b = some o → h'.get? b = some o := fun b o hb e => hs.extBut b o hb e
    have nd := List.nodup_cons.mp (show (Φ.env.locals :: (Φ.cw ++ g.tr)).Nodup from R.nodup)
    refine ⟨⟨_, hn, fun y j u hs' hl' => ?_⟩, fun a ha => ?_, fun b o e => hkeep b o (fun z => ?_) (R.keep b o e), fun p hp => hkeep _ _ ((R.muts _ hmem).2.1 p hp) (R.fz p hp), fun p hp => hkeep _ _ ((R.muts _ hmem).2.2 p hp) (R.pins p hp),
      ⟨R.tr.1, fun i a o e1 e2 => ?_⟩, R.muts, R.nodup, R.pinsOk, R.cellsOk, R.gens, R.os, R.forb⟩
    · rcases lset_self_or hl' with ⟨rfl, rfl⟩ | ⟨hj, hu⟩
      · have := slot_inj hs' (lcl_slot hx)
        subst this
        rw [hk']
        exact ⟨val, by simp, hv⟩
      · have hyx : y ≠ x := fun e => by subst e; rw [lcl_slot hx] at hs'; exact hj (Option.some.inj hs').symm
        have := lr y j u hs' hu
        split at this
        · obtain ⟨w, h1, h2⟩ := this; exact ⟨w, by rw [if_neg hyx]; exact h1, h2⟩
        · rename_i hc
          obtain ⟨c, w, h1, ⟨oc, hoc, hd⟩, h3⟩ := this
          refine ⟨c, w, h1, ⟨oc, hkeep _ _ ?_ hoc, hd⟩, h3⟩
          rcases R.cellsOk y c hc h1 with z | z
          · exact fun e => nd.1 (e ▸ List.mem_append_left _ z)
          · intro e; rw [e, (R.muts _ hmem).1] at z; cases z
        · trivial
    · obtain ⟨u, oc, hoc, hd⟩ := R.cells a ha
      exact ⟨u, oc, hkeep _ _ (fun e => nd.1 (e ▸ List.mem_append_left _ ha)) hoc, hd⟩
    · rw [z, (R.muts _ hmem).1] at e; cases e
    · obtain ⟨ob, h1, h2⟩ := R.tr.2 i a o e1 e2
      exact ⟨ob, hkeep _ _ (fun e => nd.1 (e ▸ List.mem_append_right _ (List.mem_of_getElem? e1))) h1, h2⟩
  · obtain ⟨c, hc, hcm⟩ := ok.cwr (stl_fn hx' hk) x hk
    have hk' := hk
    rw [← ok.kinds x] at hk'
    have hcM : c ∈ Φ.muts g := .tail _ (List.mem_append_left _ hcm)
    obtain ⟨u₀, hu₀⟩ := R.cells c hcm
    refine wpAny_storeName_cell ok.kind hk' hc hu₀ (fun h' hn hs => ⟨g, _, .refl g, ?_, q⟩)
    have hkeep : ∀ b o, b ≠ c → s.heap.get? b = some o → h'.get? b = some o := fun b o hb e => hs.extBut b o hb e
    have nd : (Φ.env.locals :: (Φ.cw ++ g.tr)).Nodup := R.nodup
    have ndL : Φ.env.locals ≠ c := fun e => (List.nodup_cons.mp nd).1 (e ▸ List.mem_append_left _ hcm)
    have ndT : ∀ a ∈ g.tr, a ≠ c := fun a ha e => (List.nodup_append.mp (List.nodup_cons.mp nd).2).2.2 c hcm a ha e.symm
    obtain ⟨oL, es, ep, hoL, rL⟩ := hm
    have hR : Rel κ Φ g { σ with loc := lset σ.loc k v } { s with heap := h' } := by
      refine ⟨⟨m, ⟨oL, es, ep, hkeep _ _ ndL hoL, rL⟩, fun y j u hs' hl' => ?_⟩, fun a ha => ?_, fun b o e => hkeep b o (fun z => ?_) (R.keep b o e), fun p hp => hkeep _ _ ((R.muts _ hcM).2.1 p hp) (R.fz p hp), fun p hp => hkeep _ _ ((R.muts _ hcM).2.2 p hp) (R.pins p hp),
        ⟨R.tr.1, fun i a o e1 e2 => ?_⟩, R.muts, R.nodup, R.pinsOk, R.cellsOk, R.gens, R.os, R.forb⟩
      · rcases lset_self_or hl' with ⟨rfl, rfl⟩ | ⟨hj, hu⟩
        · have := slot_inj hs' (lcl_slot hx)
          subst this
          rw [hk']
          exact ⟨c, val, hc, hn, hv⟩
        · have hyx : y ≠ x := fun e => by subst e; rw [lcl_slot hx] at hs'; exact hj (Option.some.inj hs').symm
          have := lr y j u hs' hu
          split at this
          · exact this
          · rename_i hcy
            obtain ⟨c', w, h1, ⟨oc, hoc, hd⟩, h3⟩ := this
            exact ⟨c', w, h1, ⟨oc, hkeep _ _ (fun e => hyx (hcd y c (e ▸ h1) hc)) hoc, hd⟩, h3⟩
          · trivial
      · by_cases e : a = c
        · subst e; exact ⟨_, hn⟩
        · obtain ⟨u, oc, hoc, hd⟩ := R.cells a ha
          exact ⟨u, oc, hkeep _ _ e hoc, hd⟩
      · rw [z, (R.muts _ hcM).1] at e; cases e
      · obtain ⟨ob, h1, h2⟩ := R.tr.2 i a o e1 e2
        exact ⟨ob, hkeep _ _ (ndT a (List.mem_of_getElem? e1)) h1, h2⟩
    exact hR

end
end Mine

open PySem PySem.W PyProof.Rows PySem.Calls
set_option Elab.async false
set_option maxRecDepth 100000
set_option linter.unusedVariables false

namespace Mine
open PySem.SeqAt

/-! ## Reading the store -/

def lstAt (objs : List O) (i : Nat) : Option (List V) := match objs[i]? with
  | some (.list l) => some l
  | _ => none
/-- the items of a list, frozen or tracked -/
def seqOf (objs : List O) : V → Option (List V)
  | .lst l => some l
  | .ref i => lstAt objs i
  | _ => none
def attrAt (objs : List O) (i : Nat) (x : Str) : Option V := match objs[i]? with
  | some (.attrs l) => l.lookup x
  | _ => none

section
variable {κ : Kap} {Φ : Ctx} {g : G} {σ : St} {s : Shared}

theorem Rel.lst_at (R : Rel κ Φ g σ s) {l : List V} {x : Value} (h : VR g (.lst l) x) : ∃ a xs n, x = .ref a ∧ s.heap.get? a = some (listO xs n) ∧ VRs g l xs ∧ (a, listO xs n) ∈ g.fz := by
  simp only [VR] at h
  obtain ⟨a, xs, n, e, m, r⟩ := h
  exact ⟨a, xs, n, e, R.fz _ m, r, m⟩
theorem Rel.tup_at (R : Rel κ Φ g σ s) {l : List V} {x : Value} (h : VR g (.tup l) x) : ∃ a xs n, x = .ref a ∧ s.heap.get? a = some (tupO xs n) ∧ VRs g l xs := by
  simp only [VR] at h
  obtain ⟨a, xs, n, e, m, r⟩ := h
  exact ⟨a, xs, n, e, R.fz _ m, r⟩
theorem lstAt_some {objs : List O} {i : Nat} {l : List V} (h : lstAt objs i = some l) : objs[i]? = some (.list l) := by
  unfold lstAt at h
  split at h
  · rename_i e; cases h; exact e
  · cases h
theorem Rel.ref_at (R : Rel κ Φ g σ s) {i : Nat} {l : List V} {x : Value} (h : VR g (.ref i) x) (hl : lstAt σ.objs i = some l) :
    ∃ a xs n, x = .ref a ∧ g.tr[i]? = some a ∧ s.heap.get? a = some (listO xs n) ∧ VRs g l xs := by
  simp only [VR] at h
  obtain ⟨a, e, m⟩ := h
  obtain ⟨ob, h1, h2⟩ := R.tr.2 i a _ m (lstAt_some hl)
  obtain ⟨xs, n, rfl, r⟩ := h2
  exact ⟨a, xs, n, e, m, h1, r⟩
theorem Rel.seq_at (R : Rel κ Φ g σ s) {v : V} {l : List V} {x : Value} (h : VR g v x) (hl : seqOf σ.objs v = some l) : ∃ a xs n, x = .ref a ∧ s.heap.get? a = some (listO xs n) ∧ VRs g l xs := by
  cases v <;> simp only [seqOf] at hl <;> try (cases hl; done)
  · cases hl
    obtain ⟨a, xs, n, e, h1, h2, _⟩ := R.lst_at h
    exact ⟨a, xs, n, e, h1, h2⟩
  · obtain ⟨a, xs, n, e, _, h1, h2⟩ := R.ref_at h hl
    exact ⟨a, xs, n, e, h1, h2⟩
theorem isList_of {h : Heap} {a : Addr} {xs : List Value} {n : Nat} (e : h.get? a = some (listO xs n)) : h.IsList a xs.toArray := ⟨_, e, rfl, n, rfl⟩
theorem isTuple_of {h : Heap} {a : Addr} {xs : List Value} {n : Nat} (e : h.get? a = some (tupO xs n)) : h.IsTuple a xs.toArray := ⟨_, e, rfl, n, rfl⟩
end

/-! ## Equality -/

def seqOpt {α : Type} : List (Option α) → Option (List α)
  | [] => some []
  | none :: _ => none
  | some a :: r => (seqOpt r).map (a :: ·)
def nrm (objs : List O) : Nat → V → Option V
  | 0, _ => none
  | n + 1, v => match v with
    | .none => some .none
    | .bool b => some (.int (if b then 1 else 0))
    | .int i => some (.int i)
    | .str x => some (.str x)
    | .tup l => (seqOpt (l.map (nrm objs n))).map .tup
    | .lst l => (seqOpt (l.map (nrm objs n))).map .lst
    | .ref i => match lstAt objs i with
      | some l => (seqOpt (l.map (nrm objs n))).map .lst
      | none => none
    | .inst _ _ => none
    | .glob _ => none
    | .fzo _ => none
    | .dct _ => none
mutual
def veq : V → V → Option Bool
  | .none, .none => some true
  | .none, .str _ => some false
  | .str _, .none => some false
  | .int i, .int j => some (i == j)
  | .str x, .str y => some (x == y)
  | .tup l, .tup m => veqs l m
  | .lst l, .lst m => veqs l m
  | _, _ => none
def veqs : List V → List V → Option Bool
  | [], [] => some true
  | [], _ :: _ => some false
  | _ :: _, [] => some false
  | a :: l, b :: m => match veq a b, veqs l m with
    | some p, some q => some (p && q)
    | _, _ => none
end

theorem seqOpt_get {α : Type} : ∀ {l : List (Option α)} {r : List α}, seqOpt l = some r → r.length = l.length ∧ ∀ (i : Nat) (a : α), r[i]? = some a → l[i]? = some (some a)
  | [], _, h => by cases h; exact ⟨rfl, fun i a e => by simp at e⟩
  | none :: _, _, h => by cases h
  | some a :: l, _, h => by
    simp only [seqOpt, Option.map_eq_some_iff] at h
    obtain ⟨r, hr, rfl⟩ := h
    obtain ⟨h1, h2⟩ := seqOpt_get hr
    refine ⟨by simp [h1], fun i b e => ?_⟩
    cases i with
    | zero => simpa using e
    | succ n => simp at e ⊢; exact h2 n b e

theorem veqs_len : ∀ {l m : List V} {b : Bool}, veqs l m = some b → l.length ≠ m.length → b = false
  | [], [], _, _, h => absurd rfl h
  | [], _ :: _, _, h, _ => by simp [veqs] at h; exact h
  | _ :: _, [], _, h, _ => by simp [veqs] at h; exact h
  | a :: l, b :: m, _, h, hn => by
    simp only [veqs] at h
    split at h
    · rename_i p q hp hq
      cases h
      rw [veqs_len hq (by simpa using hn)]
      exact Bool.and_false _
    · cases h

theorem veqs_each : ∀ {l m : List V} {b : Bool}, veqs l m = some b → ∀ (j : Nat) x y, l[j]? = some x → m[j]? = some y → ∃ p, veq x y = some p
  | [], _, _, _, j, x, y, hx, _ => by simp at hx
  | _ :: _, [], _, _, j, x, y, _, hy => by simp at hy
  | a :: l, b :: m, r, h, j, x, y, hx, hy => by
    simp only [veqs] at h
    split at h
    · rename_i p q hp hq
      cases j with
      | zero => simp at hx hy; subst hx hy; exact ⟨p, hp⟩
      | succ n => simp at hx hy; exact veqs_each hq n x y hx hy
    · cases h
/-- the list of item answers -/
theorem veqs_items : ∀ {l m : List V} {b : Bool}, veqs l m = some b → l.length = m.length → ∃ e : Nat → Bool, (∀ (j : Nat) x y, l[j]? = some x → m[j]? = some y → veq x y = some (e j)) ∧ (List.range l.length).all e = b
  | [], [], _, h, _ => by simp only [veqs] at h; cases h; exact ⟨fun _ => true, fun j x y e => by simp at e, rfl⟩
  | [], _ :: _, _, _, h => by simp at h
  | _ :: _, [], _, _, h => by simp at h
  | a :: l, b :: m, r, h, hn => by
    simp only [veqs] at h
    split at h
    · rename_i p q hp hq
      cases h
      obtain ⟨e, h1, h2⟩ := veqs_items hq (by simpa using hn)
      refine ⟨fun j => match j with | 0 => p | n + 1 => e n, fun j x y ex ey => ?_, ?_⟩
      · cases j with
        | zero => simp at ex ey; subst ex ey; exact hp
        | succ n => simp at ex ey; exact h1 n x y ex ey
      · rw [List.length_cons, List.range_succ_eq_map, List.all_cons, List.all_map]
        show (p && (List.range l.length).all e) = (p && q)
        rw [h2]
    · cases h

section
variable {κ : Kap} {Φ : Ctx} {g : G} {σ : St} {s : Shared}

theorem nrm_seq {n : Nat} {l l' : List V} (h : seqOpt (l.map (nrm σ.objs n)) = some l') {xs : List Value} (r : VRs g l xs) :
    xs.length = l'.length ∧ ∀ (j : Nat) x u, xs[j]? = some x → l'[j]? = some u → ∃ v, VR g v x ∧ nrm σ.objs n v = some u := by
  obtain ⟨h1, h2⟩ := seqOpt_get h
  refine ⟨by rw [r.length, h1, List.length_map], fun j x u hx hu => ?_⟩
  obtain ⟨v, e, rv⟩ := r.get' hx
  have := h2 j u hu
  rw [List.getElem?_map, e] at this
  exact ⟨v, rv, by simpa using this⟩

theorem nrm_view (R : Rel κ Φ g σ s) {n : Nat} {v u : V} {x : Value} (h : VR g v x) (e : nrm σ.objs (n + 1) v = some u) :
    (u = .none ∧ x = .none) ∨ (∃ b : Bool, u = .int (if b then 1 else 0) ∧ x = .bool b) ∨ (∃ i t, u = .int i ∧ x = .int i t) ∨ (∃ z t, u = .str z ∧ x = .str z t) ∨
    (∃ a xs k l l', u = .lst l' ∧ x = .ref a ∧ s.heap.get? a = some (listO xs k) ∧ VRs g l xs ∧ seqOpt (l.map (nrm σ.objs n)) = some l') ∨
    (∃ a xs k l l', u = .tup l' ∧ x = .ref a ∧ s.heap.get? a = some (tupO xs k) ∧ VRs g l xs ∧ seqOpt (l.map (nrm σ.objs n)) = some l') := by
  cases v with
  | none => simp only [nrm] at e; cases e; exact .inl ⟨rfl, by simpa only [VR] using h⟩
  | bool b => simp only [nrm] at e; cases e; exact .inr (.inl ⟨b, rfl, by simpa only [VR] using h⟩)
  | int i => simp only [nrm] at e; cases e; simp only [VR] at h; obtain ⟨t, rfl⟩ := h; exact .inr (.inr (.inl ⟨i, t, rfl, rfl⟩))
  | str z => simp only [nrm] at e; cases e; simp only [VR] at h; obtain ⟨t, rfl⟩ := h; exact .inr (.inr (.inr (.inl ⟨z, t, rfl, rfl⟩)))
  | tup l =>
    simp only [nrm, Option.map_eq_some_iff] at e
    obtain ⟨l', hl, rfl⟩ := e
    obtain ⟨a, xs, k, rfl, h1, h2⟩ := R.tup_at h
    exact .inr (.inr (.inr (.inr (.inr ⟨a, xs, k, l, l', rfl, rfl, h1, h2, hl⟩))))
  | lst l =>
    simp only [nrm, Option.map_eq_some_iff] at e
    obtain ⟨l', hl, rfl⟩ := e
    obtain ⟨a, xs, k, rfl, h1, h2, _⟩ := R.lst_at h
    exact .inr (.inr (.inr (.inr (.inl ⟨a, xs, k, l, l', rfl, rfl, h1, h2, hl⟩))))
  | ref i =>
    simp only [nrm] at e
    split at e
    · rename_i l hi
      simp only [Option.map_eq_some_iff] at e
      obtain ⟨l', hl, rfl⟩ := e
      obtain ⟨a, xs, k, rfl, _, h1, h2⟩ := R.ref_at h hi
      exact .inr (.inr (.inr (.inr (.inl ⟨a, xs, k, l, l', rfl, rfl, h1, h2, hl⟩))))
    · cases e
  | inst c i => simp only [nrm] at e; cases e
  | glob v => simp only [nrm] at e; cases e
  | fzo o => simp only [nrm] at e; cases e
  | dct o => simp only [nrm] at e; cases e

theorem nrm_fun (R : Rel κ Φ g σ s) : ∀ (n : Nat) {v v' u u' : V} {x : Value}, VR g v x → VR g v' x → nrm σ.objs n v = some u → nrm σ.objs n v' = some u' → u = u'
  | 0, _, _, _, _, _, _, _, h, _ => by cases h
  | n + 1, v, v', u, u', x, h, h', e, e' => by
    have items : ∀ {l m l' m' : List V} {xs : List Value}, VRs g l xs → VRs g m xs → seqOpt (l.map (nrm σ.objs n)) = some l' → seqOpt (m.map (nrm σ.objs n)) = some m' → l' = m' := by
      intro l m l' m' xs rl rm hl hm
      obtain ⟨e1, i1⟩ := nrm_seq hl rl
      obtain ⟨e2, i2⟩ := nrm_seq hm rm
      apply List.ext_getElem?
      intro j
      by_cases hj : j < xs.length
      · obtain ⟨v1, r1, w1⟩ := i1 j _ _ (List.getElem?_eq_getElem hj) (List.getElem?_eq_getElem (by rw [← e1]; exact hj))
        obtain ⟨v2, r2, w2⟩ := i2 j _ _ (List.getElem?_eq_getElem hj) (List.getElem?_eq_getElem (by rw [← e2]; exact hj))
        rw [List.getElem?_eq_getElem (by rw [← e1]; exact hj), List.getElem?_eq_getElem (by rw [← e2]; exact hj), nrm_fun R n r1 r2 w1 w2]
      · rw [List.getElem?_eq_none (by rw [← e1]; omega), List.getElem?_eq_none (by rw [← e2]; omega)]
    rcases nrm_view R h e with ⟨rfl, rfl⟩ | ⟨b, rfl, rfl⟩ | ⟨i, t, rfl, rfl⟩ | ⟨z, t, rfl, rfl⟩ | ⟨a, xs, k, l, l', rfl, rfl, h1, h2, h3⟩ | ⟨a, xs, k, l, l', rfl, rfl, h1, h2, h3⟩ <;>
    rcases nrm_view R h' e' with ⟨rfl, q⟩ | ⟨b', rfl, q⟩ | ⟨i', t', rfl, q⟩ | ⟨z', t', rfl, q⟩ | ⟨a', xs', k', m, m', rfl, q, g1, g2, g3⟩ | ⟨a', xs', k', m, m', rfl, q, g1, g2, g3⟩ <;>
    first
      | (cases q; done)
      | (cases q; rfl)
      | (cases q
         rw [h1] at g1
         cases g1
         rw [items h2 g2 h3 g3])
      | (cases q
         rw [h1] at g1
         exact absurd (congrArg (fun o => (Option.map Obj.cls o)) g1) (by simp))

mutual
theorem veq_self : ∀ (u : V) {r : Bool}, veq u u = some r → r = true
  | .none, _, h => by simp only [veq] at h; cases h; rfl
  | .bool _, _, h => by simp only [veq] at h; cases h
  | .int i, _, h => by simp only [veq] at h; cases h; simp
  | .str z, _, h => by simp only [veq] at h; cases h; simp
  | .tup l, _, h => by simp only [veq] at h; exact veqs_self l h
  | .lst l, _, h => by simp only [veq] at h; exact veqs_self l h
  | .ref _, _, h => by simp only [veq] at h; cases h
  | .inst _ _, _, h => by simp only [veq] at h; cases h
  | .glob _, _, h => by simp only [veq] at h; cases h
  | .fzo _, _, h => by simp only [veq] at h; cases h
  | .dct _, _, h => by simp only [veq] at h; cases h
theorem veqs_self : ∀ (l : List V) {r : Bool}, veqs l l = some r → r = true
  | [], _, h => by simp only [veqs] at h; cases h; rfl
  | a :: l, _, h => by
    simp only [veqs] at h
    split at h
    · rename_i p q hp hq
      cases h
      rw [veq_self a hp, veqs_self l hq]; rfl
    · cases h
end

theorem eqAt_of (R : Rel κ Φ g σ s) : ∀ (n : Nat) (A : Around), A.units + n < cLine → ∀ {a b a' b' : V} {x y : Value} {r : Bool}, VR g a x → VR g b y → nrm σ.objs n a = some a' → nrm σ.objs n b = some b' → veq a' b' = some r → EqAt A s x y r
  | 0, _, _, _, _, _, _, _, _, _, _, _, h, _, _ => by cases h
  | n + 1, A, hu, a, b, a', b', x, y, r, ha, hb, na, nb, hr => by
    have hu' : (A.in1).units + n < cLine := by show A.units + 1 + n < cLine; omega
    rcases nrm_view R ha na with ⟨rfl, rfl⟩ | ⟨b, rfl, rfl⟩ | ⟨i, t, rfl, rfl⟩ | ⟨z, t, rfl, rfl⟩ | ⟨p, xs, k, l, l', rfl, rfl, h1, h2, h3⟩ | ⟨p, xs, k, l, l', rfl, rfl, h1, h2, h3⟩ <;>
    rcases nrm_view R hb nb with ⟨rfl, rfl⟩ | ⟨b', rfl, rfl⟩ | ⟨i', t', rfl, rfl⟩ | ⟨z', t', rfl, rfl⟩ | ⟨q, ys, k', m, m', rfl, rfl, g1, g2, g3⟩ | ⟨q, ys, k', m, m', rfl, rfl, g1, g2, g3⟩ <;>
    simp only [veq] at hr <;> try (cases hr; done)
    · cases hr; exact EqAt.same _
    · cases hr; exact EqAt.none_str _ _
    · cases hr
      have := EqAt.bool_bool (A := A) (s := s) b b'
      cases b <;> cases b' <;> exact this
    · cases hr
      have := EqAt.bool_int (A := A) (s := s) b i' t'
      cases b <;> exact this
    · cases hr
      have := EqAt.int_bool (A := A) (s := s) i t b'
      cases b' <;> exact this
    · cases hr; exact EqAt.int_int _ _ _ _
    · cases hr; exact EqAt.str_none _ _
    · cases hr; exact EqAt.str_str _ _ _ _
    · by_cases hpq : p = q
      · subst hpq
        have e := nrm_fun R (n + 1) ha hb na nb
        injection e with e
        subst e
        rw [veqs_self _ hr]
        exact EqAt.same _
      · refine EqAt.of_refs hpq ?_
        obtain ⟨e1, i1⟩ := nrm_seq h3 h2
        obtain ⟨e2, i2⟩ := nrm_seq g3 g2
        by_cases hlen : xs.length = ys.length
        · obtain ⟨e, f1, f2⟩ := veqs_items hr (by rw [← e1, ← e2, hlen])
          have := RcAt.lists (A := A) (e := e) (isList_of h1) (isList_of g1) (by simpa using hlen) (by omega) fun j j1 j2 => by
            simp at j1 j2
            obtain ⟨v1, r1, w1⟩ := i1 j _ _ (List.getElem?_eq_getElem j1) (List.getElem?_eq_getElem (by rw [← e1]; exact j1))
            obtain ⟨v2, r2, w2⟩ := i2 j _ _ (List.getElem?_eq_getElem j2) (List.getElem?_eq_getElem (by rw [← e2]; exact j2))
            simpa using eqAt_of R n A.in1 hu' r1 r2 w1 w2 (f1 j _ _ (List.getElem?_eq_getElem (by rw [← e1]; exact j1)) (List.getElem?_eq_getElem (by rw [← e2]; exact j2)))
          rw [show xs.toArray.size = l'.length by simp [e1], f2] at this
          exact this
        · have : r = false := veqs_len hr (by rw [← e1, ← e2]; exact hlen)
          subst this
          exact RcAt.lists_lengths (isList_of h1) (isList_of g1) (by simpa using hlen) (by omega)
    · by_cases hpq : p = q
      · subst hpq
        have e := nrm_fun R (n + 1) ha hb na nb
        injection e with e
        subst e
        rw [veqs_self _ hr]
        exact EqAt.same _
      · refine EqAt.of_refs hpq ?_
        obtain ⟨e1, i1⟩ := nrm_seq h3 h2
        obtain ⟨e2, i2⟩ := nrm_seq g3 g2
        by_cases hlen : xs.length = ys.length
        · obtain ⟨e, f1, f2⟩ := veqs_items hr (by rw [← e1, ← e2, hlen])
          have := RcAt.tuples (A := A) (e := e) (isTuple_of h1) (isTuple_of g1) (by omega) fun j j1 j2 => by
            simp at j1 j2
            obtain ⟨v1, r1, w1⟩ := i1 j _ _ (List.getElem?_eq_getElem j1) (List.getElem?_eq_getElem (by rw [← e1]; exact j1))
            obtain ⟨v2, r2, w2⟩ := i2 j _ _ (List.getElem?_eq_getElem j2) (List.getElem?_eq_getElem (by rw [← e2]; exact j2))
            simpa using eqAt_of R n A.in1 hu' r1 r2 w1 w2 (f1 j _ _ (List.getElem?_eq_getElem (by rw [← e1]; exact j1)) (List.getElem?_eq_getElem (by rw [← e2]; exact j2)))
          rw [show min xs.toArray.size ys.toArray.size = l'.length by simp [← e1, hlen], f2, show (xs.toArray.size == ys.toArray.size) = true by simp [hlen], Bool.and_true] at this
          exact this
        · have : r = false := veqs_len hr (by rw [← e1, ← e2]; exact hlen)
          subst this
          have := RcAt.tuples (A := A) (e := fun j => (veq (l'.getD j .none) (m'.getD j .none)).getD false) (isTuple_of h1) (isTuple_of g1) (by omega) fun j j1 j2 => by
            simp at j1 j2
            obtain ⟨v1, r1, w1⟩ := i1 j _ _ (List.getElem?_eq_getElem j1) (List.getElem?_eq_getElem (by rw [← e1]; exact j1))
            obtain ⟨v2, r2, w2⟩ := i2 j _ _ (List.getElem?_eq_getElem j2) (List.getElem?_eq_getElem (by rw [← e2]; exact j2))
            obtain ⟨b, hb'⟩ := veqs_each hr j _ _ (List.getElem?_eq_getElem (by rw [← e1]; exact j1)) (List.getElem?_eq_getElem (by rw [← e2]; exact j2))
            have := eqAt_of R n A.in1 hu' r1 r2 w1 w2 hb'
            simp only [List.getD_eq_getElem?_getD, List.getElem?_eq_getElem (show j < l'.length by rw [← e1]; exact j1), List.getElem?_eq_getElem (show j < m'.length by rw [← e2]; exact j2), Option.getD_some, hb']
            simpa using this
          rw [show (xs.toArray.size == ys.toArray.size) = false by simpa using hlen, Bool.and_false] at this
          exact this

theorem rc_of (R : Rel κ Φ g σ s) (n : Nat) (A : Around) (hu : A.units + (n + 1) < cLine) {a b a' b' : V} {x y : Value} {r : Bool} (ha : VR g a x) (hb : VR g b y) (na : nrm σ.objs (n + 1) a = some a') (nb : nrm σ.objs (n + 1) b = some b')
    (hr : veq a' b' = some r) : RcAt A s x y r ∧ RcNeAt A s x y (!r) := by
  have hu' : (A.in1).units + n < cLine := by show A.units + 1 + n < cLine; omega
  rcases nrm_view R ha na with ⟨rfl, rfl⟩ | ⟨b, rfl, rfl⟩ | ⟨i, t, rfl, rfl⟩ | ⟨z, t, rfl, rfl⟩ | ⟨p, xs, k, l, l', rfl, rfl, h1, h2, h3⟩ | ⟨p, xs, k, l, l', rfl, rfl, h1, h2, h3⟩ <;>
  rcases nrm_view R hb nb with ⟨rfl, rfl⟩ | ⟨b', rfl, rfl⟩ | ⟨i', t', rfl, rfl⟩ | ⟨z', t', rfl, rfl⟩ | ⟨q, ys, k', m, m', rfl, rfl, g1, g2, g3⟩ | ⟨q, ys, k', m, m', rfl, rfl, g1, g2, g3⟩ <;>
  simp only [veq] at hr <;> try (cases hr; done)
  · cases hr; exact ⟨RcAt.none_none, RcNeAt.none_none⟩
  · cases hr; exact ⟨RcAt.none_str _ _, RcNeAt.none_str _ _⟩
  · cases hr
    have h1 := RcAt.bool_bool (A := A) (s := s) b b'
    have h2 := RcNeAt.bool_bool (A := A) (s := s) b b'
    cases b <;> cases b' <;> exact ⟨h1, h2⟩
  · cases hr; exact ⟨RcAt.bool_int _ _ _, RcNeAt.bool_int _ _ _⟩
  · cases hr; exact ⟨RcAt.int_bool _ _ _, RcNeAt.int_bool _ _ _⟩
  · cases hr; exact ⟨RcAt.int_int _ _ _ _, RcNeAt.int_int _ _ _ _⟩
  · cases hr; exact ⟨RcAt.str_none _ _, RcNeAt.str_none _ _⟩
  · cases hr; exact ⟨RcAt.str_str _ _ _ _, RcNeAt.str_str _ _ _ _⟩
  · obtain ⟨e1, i1⟩ := nrm_seq h3 h2
    obtain ⟨e2, i2⟩ := nrm_seq g3 g2
    by_cases hlen : xs.length = ys.length
    · obtain ⟨e, f1, f2⟩ := veqs_items hr (by rw [← e1, ← e2, hlen])
      have each : ∀ j (j1 : j < xs.toArray.size) (j2 : j < ys.toArray.size), EqAt A.in1 s xs.toArray[j] ys.toArray[j] (e j) := fun j j1 j2 => by
        simp at j1 j2
        obtain ⟨v1, r1, w1⟩ := i1 j _ _ (List.getElem?_eq_getElem j1) (List.getElem?_eq_getElem (by rw [← e1]; exact j1))
        obtain ⟨v2, r2, w2⟩ := i2 j _ _ (List.getElem?_eq_getElem j2) (List.getElem?_eq_getElem (by rw [← e2]; exact j2))
        simpa using eqAt_of R n A.in1 hu' r1 r2 w1 w2 (f1 j _ _ (List.getElem?_eq_getElem (by rw [← e1]; exact j1)) (List.getElem?_eq_getElem (by rw [← e2]; exact j2)))
      have c1 := RcAt.lists (A := A) (e := e) (isList_of h1) (isList_of g1) (by simpa using hlen) (by omega) each
      have c2 := RcNeAt.lists (A := A) (e := e) (isList_of h1) (isList_of g1) (by simpa using hlen) (by omega) each
      rw [show xs.toArray.size = l'.length by simp [e1], f2] at c1 c2
      exact ⟨c1, c2⟩
    · have : r = false := veqs_len hr (by rw [← e1, ← e2]; exact hlen)
      subst this
      exact ⟨RcAt.lists_lengths (isList_of h1) (isList_of g1) (by simpa using hlen) (by omega), RcNeAt.lists_lengths (isList_of h1) (isList_of g1) (by simpa using hlen) (by omega)⟩
  · obtain ⟨e1, i1⟩ := nrm_seq h3 h2
    obtain ⟨e2, i2⟩ := nrm_seq g3 g2
    have each : ∀ j (j1 : j < xs.toArray.size) (j2 : j < ys.toArray.size), EqAt A.in1 s xs.toArray[j] ys.toArray[j] ((fun j => (veq (l'.getD j .none) (m'.getD j .none)).getD false) j) := fun j j1 j2 => by
      simp at j1 j2
      obtain ⟨v1, r1, w1⟩ := i1 j _ _ (List.getElem?_eq_getElem j1) (List.getElem?_eq_getElem (by rw [← e1]; exact j1))
      obtain ⟨v2, r2, w2⟩ := i2 j _ _ (List.getElem?_eq_getElem j2) (List.getElem?_eq_getElem (by rw [← e2]; exact j2))
      obtain ⟨b, hb'⟩ := veqs_each hr j _ _ (List.getElem?_eq_getElem (by rw [← e1]; exact j1)) (List.getElem?_eq_getElem (by rw [← e2]; exact j2))
      have := eqAt_of R n A.in1 hu' r1 r2 w1 w2 hb'
      simp only [List.getD_eq_getElem?_getD, List.getElem?_eq_getElem (show j < l'.length by rw [← e1]; exact j1), List.getElem?_eq_getElem (show j < m'.length by rw [← e2]; exact j2), Option.getD_some, hb']
      simpa using this
    have c1 := RcAt.tuples (A := A) (isTuple_of h1) (isTuple_of g1) (by omega) each
    have c2 := RcNeAt.tuples (A := A) (isTuple_of h1) (isTuple_of g1) (by omega) each
    have val : ((List.range (min xs.toArray.size ys.toArray.size)).all (fun j => (veq (l'.getD j .none) (m'.getD j .none)).getD false) && xs.toArray.size == ys.toArray.size) = r := by
      by_cases hlen : xs.length = ys.length
      · obtain ⟨e, f1, f2⟩ := veqs_items hr (by rw [← e1, ← e2, hlen])
        rw [← f2, show min xs.toArray.size ys.toArray.size = l'.length by simp [← e1, hlen], show (xs.toArray.size == ys.toArray.size) = true by simp [hlen], Bool.and_true]
        apply Bool.eq_iff_iff.mpr
        simp only [List.all_eq_true, List.mem_range]
        refine forall_congr' fun j => forall_congr' fun hj => ?_
        have := f1 j _ _ (List.getElem?_eq_getElem hj) (List.getElem?_eq_getElem (show j < m'.length by rw [← e2, ← hlen, e1]; exact hj))
        simp only [List.getD_eq_getElem?_getD, List.getElem?_eq_getElem hj, List.getElem?_eq_getElem (show j < m'.length by rw [← e2, ← hlen, e1]; exact hj), Option.getD_some, this]
      · rw [veqs_len hr (by rw [← e1, ← e2]; exact hlen), show (xs.toArray.size == ys.toArray.size) = false by simpa using hlen, Bool.and_false]
    rw [val] at c1 c2
    exact ⟨c1, c2⟩
end

end Mine

open PySem PySem.W PyProof.Rows PySem.Calls
set_option Elab.async false
set_option maxRecDepth 100000
set_option linter.unusedVariables false

namespace Mine
open PySem.SeqAt

section
variable {κ : Kap} {Φ : Ctx} {g : G} {σ : St} {s : Shared}

/-- a library rule that lays one new object: the object frozen -/
theorem new_frozen (R : Rel κ Φ g σ s) {a : Addr} {o : Obj} {h' : Heap} {tk : Nat} (ha : a = s.heap.objs.size) (R' : Rel κ Φ g σ { s with heap := h', toks := tk }) (ho : h'.get? a = some o) :
    Rel κ Φ ⟨(a, o) :: g.fz, g.tr⟩ σ { s with heap := h', toks := tk } ∧ g.le ⟨(a, o) :: g.fz, g.tr⟩ := R'.freeze ho (by rw [ha]; exact R.fresh)
theorem new_tracked (R : Rel κ Φ g σ s) {a : Addr} {ob : Obj} {o : O} {h' : Heap} {tk : Nat} (ha : a = s.heap.objs.size) (R' : Rel κ Φ g σ { s with heap := h', toks := tk }) (ho : h'.get? a = some ob) (hr : OR Φ.w.params g o ob) :
    Rel κ Φ ⟨g.fz, g.tr ++ [a]⟩ { σ with objs := σ.objs ++ [o] } { s with heap := h', toks := tk } ∧ g.le ⟨g.fz, g.tr ++ [a]⟩ := R'.track ho (by rw [ha]; exact R.fresh) hr

theorem PE.here {Q : V → St → Prop} {x : Value} {v : V} {s' : Shared} {σ' : St} (R : Rel κ Φ g σ' s') (h : VR g v x) (q : Q v σ') : PE κ Φ g Q x s' := ⟨g, v, σ', .refl g, R, h, q⟩

/-- a frozen list of related values is made -/
theorem mk_lst (ok : Ctx.Ok κ Φ) (R : Rel κ Φ g σ s) {l : List V} {xs : List Value} (hr : VRs g l xs) {Q : V → St → Prop} (hsz : l.length ≤ sizeLine) (h : Q (.lst l) σ) :
    wpAny (model κ.P.prog Φ.w) Φ.A (newList xs) (PE κ Φ g Q) NoE s := by
  obtain ⟨m, news, F, N, back⟩ := R.ledger ok.above
  refine newList_N F N (fun h' F' N' => ?_) (by rw [hr.length]; exact hsz)
  have R' := back h' s.toks F' (ntail N')
  obtain ⟨R2, le⟩ := new_frozen R rfl R' (N'.get (.head _))
  refine ⟨_, .lst l, σ, le, R2, ?_, h⟩
  simp only [VR]
  exact ⟨_, xs, 0, rfl, .head _, VRs.mono le l hr⟩
theorem mk_tup (ok : Ctx.Ok κ Φ) (R : Rel κ Φ g σ s) {l : List V} {xs : List Value} (hr : VRs g l xs) {Q : V → St → Prop} (hsz : l.length ≤ sizeLine) (h : Q (.tup l) σ) :
    wpAny (model κ.P.prog Φ.w) Φ.A (newTuple xs) (PE κ Φ g Q) NoE s := by
  obtain ⟨m, news, F, N, back⟩ := R.ledger ok.above
  refine newTuple_N F N (fun h' F' N' => ?_) (by rw [hr.length]; exact hsz)
  have R' := back h' s.toks F' (ntail N')
  obtain ⟨R2, le⟩ := new_frozen R rfl R' (N'.get (.head _))
  refine ⟨_, .tup l, σ, le, R2, ?_, h⟩
  simp only [VR]
  exact ⟨_, xs, 0, rfl, .head _, VRs.mono le l hr⟩
/-- a tracked list -/
def pushO (o : O) : W Nat := fun Q σ => Q σ.objs.length { σ with objs := σ.objs ++ [o] }
theorem mk_ref (ok : Ctx.Ok κ Φ) (R : Rel κ Φ g σ s) {l : List V} {xs : List Value} (hr : VRs g l xs) {Q : V → St → Prop} (hsz : l.length ≤ sizeLine) (h : Q (.ref σ.objs.length) { σ with objs := σ.objs ++ [.list l] }) :
    wpAny (model κ.P.prog Φ.w) Φ.A (newList xs) (PE κ Φ g Q) NoE s := by
  obtain ⟨m, news, F, N, back⟩ := R.ledger ok.above
  refine newList_N F N (fun h' F' N' => ?_) (by rw [hr.length]; exact hsz)
  have R' := back h' s.toks F' (ntail N')
  obtain ⟨R2, le⟩ := new_tracked (o := .list l) R rfl R' (N'.get (.head _)) ⟨xs, 0, rfl, hr⟩
  refine ⟨_, .ref σ.objs.length, _, le, R2, ?_, h⟩
  simp only [VR]
  exact ⟨_, rfl, by rw [← R.tr.1]; simp⟩
end

/-! ## Operators -/

def eqA (a b : V) : W Bool := fun Q σ => match a, b with
  | .int i, .int j => Q (i == j) σ
  | .str x, .str y => Q (x == y) σ
  | a, b => match nrm σ.objs 8 a, nrm σ.objs 8 b with
    | some a', some b' => (match veq a' b' with
      | some r => Q r σ
      | none => False)
    | _, _ => False
def isN : V → Bool
  | .none => true
  | .glob v => v == .none
  | _ => false
def isA (a b : V) : W Bool := fun Q σ => match b with
  | .none => Q (isN a) σ
  | .glob (.type t) => (match a with
    | .glob (.type u) => Q (u == t) σ
    | _ => False)
  | b => match a with
    | .none => Q (isN b) σ
    | _ => False
def memA (objs : List O) (a' : V) : List V → Option Bool
  | [] => some false
  | y :: ys => match nrm objs 8 y with
    | some y' => (match veq y' a', memA objs a' ys with
      | some p, some q => some (p || q)
      | _, _ => none)
    | none => none
def inA (a b : V) : W Bool := fun Q σ => match seqOf σ.objs b with
  | some l => (match nrm σ.objs 8 a with
    | some a' => (match memA σ.objs a' l with
      | some r => Q r σ
      | none => False)
    | none => False)
  | none => False
def cmpA (op : CmpOp) (a b : V) : W Bool := fun Q σ => match op with
  | .Eq => eqA a b Q σ
  | .NotEq => eqA a b (fun r => Q (!r)) σ
  | .Is => isA a b Q σ
  | .IsNot => isA a b (fun r => Q (!r)) σ
  | .In => inA a b Q σ
  | .NotIn => inA a b (fun r => Q (!r)) σ
  | .Lt => (match a, b with | .int i, .int j => Q (decide (i < j)) σ | _, _ => False)
  | .LtE => (match a, b with | .int i, .int j => Q (decide (i ≤ j)) σ | _, _ => False)
  | .Gt => (match a, b with | .int i, .int j => Q (decide (j < i)) σ | _, _ => False)
  | .GtE => (match a, b with | .int i, .int j => Q (decide (j ≤ i)) σ | _, _ => False)
def truthA (a : V) : W Bool := fun Q σ => match a with
  | .none => Q false σ
  | .bool b => Q b σ
  | .int i => Q (i != 0) σ
  | .str x => x.length ≤ sizeLine ∧ Q (x.length != 0) σ
  | a => match seqOf σ.objs a with
    | some l => l.length ≤ sizeLine ∧ Q (l.length != 0) σ
    | none => False
def binA (op : Operator) (a b : V) : W V := fun Q σ => match op, a, b with
  | .Add, .int x, .int y => Q (.int (x + y)) σ
  | .Sub, .int x, .int y => Q (.int (x - y)) σ
  | .FloorDiv, .int x, .int y => (y ≠ 0 ∧ y.natAbs < 1000) ∧ Q (.int (x.fdiv y)) σ
  | .Mod, .int x, .int y => y ≠ 0 ∧ Q (.int (x.fmod y)) σ
  | .Mult, .int x, .int y => IntMulOk x y ∧ Q (.int (x * y)) σ
  | .Add, .str x, .str y => x.length + y.length ≤ sizeLine ∧ Q (.str (x ++ y)) σ
  | .Add, a, b => (match seqOf σ.objs a, seqOf σ.objs b with
    | some l, some m => l.length + m.length ≤ sizeLine ∧ Q (.lst (l ++ m)) σ
    | _, _ => False)
  | _, _, _ => False
def unA (op : UnaryOp) (a : V) : W V := fun Q σ => match op, a with
  | .USub, .int x => Q (.int (-x)) σ
  | .Not, a => truthA a (fun b => Q (.bool (!b))) σ
  | _, _ => False

section
variable {κ : Kap} {Φ : Ctx} {g : G} {σ : St} {s : Shared}


def boolV (f : W Bool) : W V := fun Q => f fun b => Q (.bool b)

theorem eq_sound (ok : Ctx.Ok κ Φ) (R : Rel κ Φ g σ s) {a b : V} {x y : Value} (ha : VR g a x) (hb : VR g b y) {Q : Bool → St → Prop} (h : eqA a b Q σ) :
    wpAny (model κ.P.prog Φ.w) Φ.A (compareOp .Eq x y) (PE κ Φ g fun v σ' => ∃ r, v = .bool r ∧ Q r σ') NoE s ∧ wpAny (model κ.P.prog Φ.w) Φ.A (compareOp .NotEq x y) (PE κ Φ g fun v σ' => ∃ r, v = .bool (!r) ∧ Q r σ') NoE s := by
  have fin : ∀ r, Q r σ → PE κ Φ g (fun v σ' => ∃ r, v = .bool r ∧ Q r σ') (.bool r) s := fun r q => .here R (v := .bool r) (by simp only [VR]) ⟨r, rfl, q⟩
  have fin' : ∀ r, Q r σ → PE κ Φ g (fun v σ' => ∃ r, v = .bool (!r) ∧ Q r σ') (.bool (!r)) s := fun r q => .here R (v := .bool (!r)) (by simp only [VR]) ⟨r, rfl, q⟩
  unfold eqA at h
  split at h
  · simp only [VR] at ha hb
    obtain ⟨t, rfl⟩ := ha
    obtain ⟨u, rfl⟩ := hb
    exact ⟨PyProof.Rows.eq_int (fin _ h), PyProof.Rows.ne_int (fin' _ h)⟩
  · simp only [VR] at ha hb
    obtain ⟨t, rfl⟩ := ha
    obtain ⟨u, rfl⟩ := hb
    exact ⟨PyProof.Rows.eq_str (fin _ h), PyProof.Rows.ne_str (fin' _ h)⟩
  · split at h
    · rename_i a' b' na nb
      split at h
      · rename_i r hr
        obtain ⟨c1, c2⟩ := rc_of R 7 Φ.A (by have := ok.units; omega) ha hb na nb hr
        exact ⟨c1 κ.P.prog Φ.w _ _ (fin _ h), c2 κ.P.prog Φ.w _ _ (fin' _ h)⟩
      · exact h.elim
    · exact h.elim

theorem isN_spec {a : V} {x : Value} (ha : VR g a x) : (x == .none) = isN a := by
  cases a <;> simp only [VR] at ha
  · subst ha; rfl
  · subst ha; rfl
  · obtain ⟨_, rfl⟩ := ha; rfl
  · obtain ⟨_, rfl⟩ := ha; rfl
  · obtain ⟨_, _, _, rfl, _⟩ := ha; rfl
  · obtain ⟨_, _, _, rfl, _⟩ := ha; rfl
  · obtain ⟨_, rfl, _⟩ := ha; rfl
  · obtain ⟨_, _, _, rfl, _⟩ := ha; rfl
  · subst ha; rfl
  · obtain ⟨_, rfl, _⟩ := ha; rfl
  · obtain ⟨_, rfl, _⟩ := ha; rfl
theorem isSame_none_left (v : Value) : isSame .none v = pure (v == .none) := by cases v <;> rfl

theorem is_sound (R : Rel κ Φ g σ s) {a b : V} {x y : Value} (ha : VR g a x) (hb : VR g b y) {Q : Bool → St → Prop} (h : isA a b Q σ) : ∃ r, isSame x y = pure r ∧ Q r σ := by
  unfold isA at h
  split at h
  · simp only [VR] at hb
    subst hb
    exact ⟨_, isSame_none x, by rw [isN_spec ha]; exact h⟩
  · split at h
    · simp only [VR] at ha hb
      subst ha hb
      rename_i t _ u
      exact ⟨_, rfl, by rw [show ((Value.type u) == Value.type t) = (u == t) from by rw [Bool.eq_iff_iff]; simp]; exact h⟩
    · exact h.elim
  · split at h
    · simp only [VR] at ha
      subst ha
      exact ⟨_, isSame_none_left y, by rw [isN_spec hb]; exact h⟩
    · exact h.elim

theorem mem_sound (ok : Ctx.Ok κ Φ) (R : Rel κ Φ g σ s) {a a' : V} {x : Value} (ha : VR g a x) (na : nrm σ.objs 8 a = some a') :
    ∃ e : Value → Bool, ∀ {l : List V} {xs : List Value} {r : Bool}, VRs g l xs → memA σ.objs a' l = some r → (∀ y ∈ xs, EqAt Φ.A.in1 s y x (e y)) ∧ xs.any e = r := by
  refine ⟨fun y => @decide (∃ v u, VR g v y ∧ nrm σ.objs 8 v = some u ∧ veq u a' = some true) (Classical.propDecidable _), ?_⟩
  intro l
  induction l with
  | nil =>
    intro xs r h hr
    simp only [VRs] at h
    subst h
    simp only [memA] at hr
    cases hr
    exact ⟨fun y hy => (by cases hy), rfl⟩
  | cons v l ih =>
    intro xs r h hr
    simp only [VRs] at h
    obtain ⟨y, ys, rfl, rv, rs⟩ := h
    simp only [memA] at hr
    split at hr
    · rename_i v' nv
      split at hr
      · rename_i p q hp hq
        cases hr
        obtain ⟨h1, h2⟩ := ih rs hq
        have e : @decide (∃ v u, VR g v y ∧ nrm σ.objs 8 v = some u ∧ veq u a' = some true) (Classical.propDecidable _) = p := by
          cases p with
          | true => exact @decide_eq_true _ (Classical.propDecidable _) ⟨v, v', rv, nv, hp⟩
          | false =>
            refine @decide_eq_false _ (Classical.propDecidable _) fun ⟨w, u, rw', nu, hu⟩ => ?_
            have := nrm_fun R 8 rv rw' nv nu
            subst this
            rw [hp] at hu; cases hu
        refine ⟨fun z hz => ?_, ?_⟩
        · rcases List.mem_cons.mp hz with rfl | hz
          · show EqAt Φ.A.in1 s z x (@decide (∃ v u, VR g v z ∧ nrm σ.objs 8 v = some u ∧ veq u a' = some true) (Classical.propDecidable _))
            rw [e]
            exact eqAt_of R 8 _ (by show Φ.A.units + 1 + 8 < cLine; have := ok.units; omega) rv ha nv na hp
          · exact h1 z hz
        · rw [List.any_cons, h2]
          show (@decide (∃ v u, VR g v y ∧ nrm σ.objs 8 v = some u ∧ veq u a' = some true) (Classical.propDecidable _) || q) = (p || q)
          rw [e]
      · cases hr
    · cases hr

theorem cmp_sound (ok : Ctx.Ok κ Φ) (R : Rel κ Φ g σ s) {op : CmpOp} {a b : V} {x y : Value} (ha : VR g a x) (hb : VR g b y) {Q : Bool → St → Prop} (h : cmpA op a b Q σ) :
    wpAny (model κ.P.prog Φ.w) Φ.A (compareOp op x y) (PE κ Φ g fun v σ' => ∃ r, v = .bool r ∧ Q r σ') NoE s := by
  have fin : ∀ r, Q r σ → PE κ Φ g (fun v σ' => ∃ r, v = .bool r ∧ Q r σ') (.bool r) s := fun r q => .here R (v := .bool r) (by simp only [VR]) ⟨r, rfl, q⟩
  have ins : ∀ {Q' : Bool → St → Prop}, inA a b Q' σ → ∃ l ad xs n r, y = .ref ad ∧ s.heap.get? ad = some (listO xs n) ∧ Q' r σ ∧ ∃ e : Value → Bool, (∀ z ∈ xs.toArray, EqAt Φ.A.in1 s z x (e z)) ∧ xs.toArray.any e = r ∧ seqOf σ.objs b = some l := by
    intro Q' hi
    unfold inA at hi
    split at hi
    · rename_i l hl
      split at hi
      · rename_i a' na
        split at hi
        · rename_i r hr
          obtain ⟨ad, xs, n, rfl, h1, h2⟩ := R.seq_at hb hl
          obtain ⟨e, he⟩ := mem_sound ok R ha na
          obtain ⟨e1, e2⟩ := he h2 hr
          exact ⟨l, ad, xs, n, r, rfl, h1, hi, e, fun z hz => e1 z (by simpa using hz), by simpa using e2, hl⟩
        · exact hi.elim
      · exact hi.elim
    · exact hi.elim
  cases op <;> simp only [cmpA] at h
  · exact (eq_sound ok R ha hb h).1
  · refine wpAny_mono (eq_sound ok R ha hb h).2 (fun v s' p => ?_) fun _ _ e => e
    obtain ⟨g', v', σ', le, R', rv, r, e, q⟩ := p
    exact ⟨g', v', σ', le, R', rv, _, e, q⟩
  · split at h
    · simp only [VR] at ha hb
      obtain ⟨_, rfl⟩ := ha
      obtain ⟨_, rfl⟩ := hb
      exact PyProof.Rows.lt_int (fin _ h)
    · exact h.elim
  · split at h
    · simp only [VR] at ha hb
      obtain ⟨_, rfl⟩ := ha
      obtain ⟨_, rfl⟩ := hb
      exact PyProof.Rows.le_int (fin _ h)
    · exact h.elim
  · split at h
    · simp only [VR] at ha hb
      obtain ⟨_, rfl⟩ := ha
      obtain ⟨_, rfl⟩ := hb
      exact PyProof.Rows.gt_int (fin _ h)
    · exact h.elim
  · split at h
    · simp only [VR] at ha hb
      obtain ⟨_, rfl⟩ := ha
      obtain ⟨_, rfl⟩ := hb
      exact PyProof.Rows.ge_int (fin _ h)
    · exact h.elim
  · obtain ⟨r, e, q⟩ := is_sound R ha hb h
    show wpAny _ _ (do return Value.bool (← isSame x y)) _ _ s
    rw [e]; exact wpAny_pure (fin _ q)
  · obtain ⟨r, e, q⟩ := is_sound R ha hb h
    show wpAny _ _ (do return Value.bool (!(← isSame x y))) _ _ s
    rw [e]; exact wpAny_pure (fin _ q)
  · obtain ⟨l, ad, xs, n, r, rfl, h1, q, e, e1, e2, _⟩ := ins h
    exact in_listAt e (isList_of h1) e1 (by rw [e2]; exact fin _ q)
  · obtain ⟨l, ad, xs, n, r, rfl, h1, q, e, e1, e2, _⟩ := ins h
    exact notIn_listAt e (isList_of h1) e1 (by rw [e2]; exact fin _ q)

theorem truth_sound (R : Rel κ Φ g σ s) {a : V} {x : Value} (ha : VR g a x) {Q : Bool → St → Prop} (h : truthA a Q σ) :
    wpAny (model κ.P.prog Φ.w) Φ.A (truthy x) (PB κ Φ g Q) NoE s := by
  have fin : ∀ {tk : Nat} r, Q r σ → PB κ Φ g Q r { s with toks := tk } := fun r q => ⟨g, σ, .refl g, R.tok _, q⟩
  have lists : ∀ {l : List V}, seqOf σ.objs a = some l → l.length ≤ sizeLine ∧ Q (l.length != 0) σ → wpAny (model κ.P.prog Φ.w) Φ.A (truthy x) (PB κ Φ g Q) NoE s := by
    intro l hl ⟨hz, q⟩
    obtain ⟨ad, xs, n, rfl, h1, h2⟩ := R.seq_at ha hl
    refine wpAny_truthy_list (isList_of h1) ?_ ?_
    · have := h2.length
      rw [sizeLine_eq] at hz
      simp only [List.size_toArray]
      omega
    · have e : (!xs.toArray.isEmpty) = (l.length != 0) := by
        rw [← h2.length]
        cases xs <;> rfl
      rw [e]; exact fin _ q
  unfold truthA at h
  split at h
  · simp only [VR] at ha; subst ha; exact truthy_none (fin (tk := s.toks) _ h)
  · simp only [VR] at ha; subst ha; exact wpAny_truthy_bool (fin (tk := s.toks) _ h)
  · simp only [VR] at ha; obtain ⟨_, rfl⟩ := ha; exact PyProof.Rows.truthy_int (fin (tk := s.toks) _ h)
  · simp only [VR] at ha
    obtain ⟨_, rfl⟩ := ha
    obtain ⟨hz, q⟩ := h
    rename_i z _
    refine PySem.P.truthy_str (by rw [sizeLine_eq] at hz; omega) ?_
    have e : ((z.length : Int) != 0) = (z.length != 0) := by rw [Bool.eq_iff_iff]; simp
    rw [e]; exact fin _ q
  · split at h
    · rename_i l hl; exact lists hl h
    · exact h.elim

theorem bin_sound (ok : Ctx.Ok κ Φ) (R : Rel κ Φ g σ s) {op : Operator} {a b : V} {x y : Value} (ha : VR g a x) (hb : VR g b y) {Q : V → St → Prop} (h : binA op a b Q σ) :
    wpAny (model κ.P.prog Φ.w) Φ.A (binaryOp op x y) (PE κ Φ g Q) NoE s := by
  have fin : ∀ {tk t : Nat} i, Q (.int i) σ → PE κ Φ g Q (.int i t) { s with toks := tk } := fun i q => .here (R.tok _) (v := .int i) (by simp only [VR]; exact ⟨_, rfl⟩) q
  unfold binA at h
  split at h
  · simp only [VR] at ha hb; obtain ⟨_, rfl⟩ := ha; obtain ⟨_, rfl⟩ := hb
    exact PyProof.Rows.add_int (fin _ h)
  · simp only [VR] at ha hb; obtain ⟨_, rfl⟩ := ha; obtain ⟨_, rfl⟩ := hb
    exact PyProof.Rows.sub_int (fin _ h)
  · simp only [VR] at ha hb; obtain ⟨_, rfl⟩ := ha; obtain ⟨_, rfl⟩ := hb
    exact PyProof.Rows.floordiv_int h.1.1 (fin _ h.2) (.inl (PyProof.noPylong_small (by have := h.1.2; omega)))
  · simp only [VR] at ha hb; obtain ⟨_, rfl⟩ := ha; obtain ⟨_, rfl⟩ := hb
    exact PyProof.Rows.mod_int h.1 (fin _ h.2)
  · simp only [VR] at ha hb; obtain ⟨_, rfl⟩ := ha; obtain ⟨_, rfl⟩ := hb
    exact PyProof.Rows.mul_int (fin _ h.2) h.1
  · simp only [VR] at ha hb; obtain ⟨_, rfl⟩ := ha; obtain ⟨_, rfl⟩ := hb
    exact PyProof.Rows.add_str (fun t' tk => .here (R.tok _) (v := .str _) (by simp only [VR]; exact ⟨_, rfl⟩) h.2) h.1
  · split at h
    · rename_i l m hl hm
      obtain ⟨a1, xs, n, rfl, h1, h2⟩ := R.seq_at ha hl
      obtain ⟨a2, ys, n', rfl, g1, g2⟩ := R.seq_at hb hm
      obtain ⟨mm, news, F, N, back⟩ := R.ledger ok.above
      refine add_lists F N (isList_of h1) (isList_of g1) (fun h' F' N' => ?_) (by rw [h2.length, g2.length]; exact h.1)
      have R' := back h' s.toks F' (ntail N')
      obtain ⟨R2, le⟩ := new_frozen R rfl R' (N'.get (.head _))
      refine ⟨_, .lst (l ++ m), σ, le, R2, ?_, h.2⟩
      simp only [VR]
      exact ⟨_, xs ++ ys, 0, rfl, .head _, VRs.mono le _ (h2.append g2)⟩
    · exact h.elim
  · exact h.elim

theorem un_sound (R : Rel κ Φ g σ s) {op : UnaryOp} {a : V} {x : Value} (ha : VR g a x) {Q : V → St → Prop} (h : unA op a Q σ) :
    wpAny (model κ.P.prog Φ.w) Φ.A (unaryOp op x) (PE κ Φ g Q) NoE s := by
  unfold unA at h
  split at h
  · simp only [VR] at ha; obtain ⟨_, rfl⟩ := ha
    exact PyProof.Rows.neg_int (.here (R.tok _) (v := .int _) (by simp only [VR]; exact ⟨_, rfl⟩) h)
  · refine not_of (wpAny_mono (truth_sound R ha h) (fun c s' p => ?_) fun _ _ e => e)
    obtain ⟨g', σ', le, R', q⟩ := p
    exact ⟨g', .bool (!c), σ', le, R', by simp only [VR], q⟩
  · exact h.elim
end
end Mine

open PySem PySem.W PyProof.Rows PySem.Calls
set_option Elab.async false
set_option maxRecDepth 100000
set_option linter.unusedVariables false

namespace Mine

section
variable {κ : Kap}

/-! ## Expressions -/
theorem r_none {k : Nat} {pos : Pos} : SE κ (.Constant .none k pos) (ret .none) := fun Φ ok g σ s Q R h => wpAny_Constant_none (.here R (v := .none) (by simp only [VR]) h)
theorem r_bool {b : Bool} {k : Nat} {pos : Pos} : SE κ (.Constant (.bool b) k pos) (ret (.bool b)) := fun Φ ok g σ s Q R h => wpAny_Constant_bool (.here R (v := .bool b) (by simp only [VR]) h)
theorem r_int {i : Int} {k : Nat} {pos : Pos} : SE κ (.Constant (.int i) k pos) (ret (.int i)) := fun Φ ok g σ s Q R h =>
  wpAny_Constant_int (.here (R.tok _) (v := .int i) (by simp only [VR]; exact ⟨_, rfl⟩) h)
theorem r_str {x : Str} {k : Nat} {pos : Pos} : SE κ (.Constant (.str x) k pos) (ret (.str x)) := fun Φ ok g σ s Q R h =>
  wpAny_Constant_str (.here (R.tok _) (v := .str x) (by simp only [VR]; exact ⟨_, rfl⟩) h)

theorem r_BinOp {l r : Expr} {op : Operator} {pos : Pos} {f h : W V} (hl : SE κ l f) (hr : SE κ r h) : SE κ (.BinOp l op r pos) (bnd f fun a => bnd h fun b => binA op a b) := fun Φ ok g σ s Q R q => by
  refine wpAny_BinOp (wpAny_mono (hl Φ ok g σ s _ R q) (fun x s₁ p => ?_) fun _ _ e => e)
  obtain ⟨g₁, a, σ₁, le₁, R₁, ra, q₁⟩ := p
  refine wpAny_mono (hr Φ ok g₁ σ₁ s₁ _ R₁ q₁) (fun y s₂ p => ?_) fun _ _ e => e
  obtain ⟨g₂, b, σ₂, le₂, R₂, rb, q₂⟩ := p
  exact wPE (le₁.trans le₂) (bin_sound ok R₂ (VR.mono le₂ a ra) rb q₂)
theorem r_UnaryOp {x : Expr} {op : UnaryOp} {pos : Pos} {f : W V} (hx : SE κ x f) : SE κ (.UnaryOp op x pos) (bnd f fun a => unA op a) := fun Φ ok g σ s Q R q => by
  refine wpAny_UnaryOp (wpAny_mono (hx Φ ok g σ s _ R q) (fun x s₁ p => ?_) fun _ _ e => e)
  obtain ⟨g₁, a, σ₁, le₁, R₁, ra, q₁⟩ := p
  exact wPE le₁ (un_sound R₁ ra q₁)
theorem r_Compare {l r : Expr} {op : CmpOp} {pos : Pos} {f h : W V} (hl : SE κ l f) (hr : SE κ r h) (hm : behindInMarks op r = false := by rfl) :
    SE κ (.Compare l [op] [r] pos) (bnd f fun a => bnd h fun b => boolV (cmpA op a b)) := fun Φ ok g σ s Q R q => by
  refine wpAny_Compare1 (wpAny_mono (hl Φ ok g σ s _ R q) (fun x s₁ p => ?_) fun _ _ e => e) hm
  obtain ⟨g₁, a, σ₁, le₁, R₁, ra, q₁⟩ := p
  refine wpAny_mono (hr Φ ok g₁ σ₁ s₁ _ R₁ q₁) (fun y s₂ p => ?_) fun _ _ e => e
  obtain ⟨g₂, b, σ₂, le₂, R₂, rb, q₂⟩ := p
  refine wpAny_mono (cmp_sound ok R₂ (VR.mono le₂ a ra) rb q₂) (fun z s₃ p => ?_) fun _ _ e => e
  obtain ⟨g₃, c, σ₃, le₃, R₃, rc, r, rfl, q₃⟩ := p
  exact ⟨g₃, _, σ₃, (le₁.trans le₂).trans le₃, R₃, rc, q₃⟩
theorem t_Compare {l r : Expr} {op : CmpOp} {pos : Pos} {f h : W V} (hl : SE κ l f) (hr : SE κ r h) (hm : behindInMarks op r = false := by rfl) :
    ST κ (.Compare l [op] [r] pos) (bnd f fun a => bnd h fun b => cmpA op a b) := fun Φ ok g σ s Q R q => by
  refine wpAny_isTrue_Compare1 (wpAny_mono (hl Φ ok g σ s _ R q) (fun x s₁ p => ?_) fun _ _ e => e) hm
  obtain ⟨g₁, a, σ₁, le₁, R₁, ra, q₁⟩ := p
  refine wpAny_mono (hr Φ ok g₁ σ₁ s₁ _ R₁ q₁) (fun y s₂ p => ?_) fun _ _ e => e
  obtain ⟨g₂, b, σ₂, le₂, R₂, rb, q₂⟩ := p
  refine wpAny_mono (cmp_sound ok R₂ (VR.mono le₂ a ra) rb q₂) (fun z s₃ p => ?_) fun _ _ e => e
  obtain ⟨g₃, c, σ₃, le₃, R₃, rc, r, rfl, q₃⟩ := p
  simp only [VR] at rc
  subst rc
  exact wpAny_truthy_bool ⟨g₃, σ₃, (le₁.trans le₂).trans le₃, R₃, q₃⟩
/-- l op₁ m op₂ r, as a value: both answers bools -/
theorem r_Compare2 {l m r : Expr} {op₁ op₂ : CmpOp} {pos : Pos} {f h k : W V} (hl : SE κ l f) (hm : SE κ m h) (hr : SE κ r k) (hb : lastMarks [op₁, op₂] [m, r] = false := by rfl) :
    SE κ (.Compare l [op₁, op₂] [m, r] pos) (bnd f fun a => bnd h fun b => bnd (cmpA op₁ a b) fun t => if t then bnd k fun c => boolV (cmpA op₂ b c) else ret (.bool false)) := fun Φ ok g σ s Q R q => by
  show wpAny _ _ (do compareChain pos (← eval l Φ.env) [op₁, op₂] (markedEach [op₁, op₂] [m, r] (evalEach [m, r] Φ.env))) _ _ s
  rw [markedEach_of_false _ _ _ hb]
  refine wpAny_bind (wpAny_mono (hl Φ ok g σ s _ R q) (fun x s₁ p => ?_) fun _ _ e => e)
  obtain ⟨g₁, a, σ₁, le₁, R₁, ra, q₁⟩ := p
  refine chain_link (wpAny_mono (hm Φ ok g₁ σ₁ s₁ _ R₁ q₁) (fun y s₂ p => ?_) fun _ _ e => e)
  obtain ⟨g₂, b, σ₂, le₂, R₂, rb, q₂⟩ := p
  refine wpAny_mono (cmp_sound ok R₂ (VR.mono le₂ a ra) rb q₂) (fun z s₃ p => ?_) fun _ _ e => e
  obtain ⟨g₃, c, σ₃, le₃, R₃, rc, r', rfl, q₃⟩ := p
  simp only [VR] at rc
  subst rc
  refine wpAny_truthy_bool ?_
  cases r' with
  | false => exact ⟨g₃, .bool false, σ₃, (le₁.trans le₂).trans le₃, R₃, by simp only [VR], q₃⟩
  | true =>
    simp only [if_true] at q₃ ⊢
    refine chain_last (wpAny_mono (hr Φ ok g₃ σ₃ s₃ _ R₃ q₃) (fun y s₄ p => ?_) fun _ _ e => e)
    obtain ⟨g₄, d, σ₄, le₄, R₄, rd, q₄⟩ := p
    refine wpAny_mono (cmp_sound ok R₄ (VR.mono (le₃.trans le₄) b rb) rd q₄) (fun z s₃ p => ?_) fun _ _ e => e
    obtain ⟨g₅, c, σ₅, le₅, R₅, rc, r, rfl, q₅⟩ := p
    exact ⟨g₅, _, σ₅, (((le₁.trans le₂).trans le₃).trans le₄).trans le₅, R₅, rc, q₅⟩
theorem r_IfExp {t b o : Expr} {pos : Pos} {ft : W Bool} {fb fo : W V} (ht : ST κ t ft) (hb : SE κ b fb) (ho : SE κ o fo) : SE κ (.IfExp t b o pos) (bnd ft fun c => if c then fb else fo) := fun Φ ok g σ s Q R q => by
  refine wpAny_IfExp (wpAny_mono (ht Φ ok g σ s _ R q) (fun c s₁ p => ?_) fun _ _ e => e)
  obtain ⟨g₁, σ₁, le₁, R₁, q₁⟩ := p
  cases c with
  | true => exact wPE le₁ (hb Φ ok g₁ σ₁ s₁ _ R₁ q₁)
  | false => exact wPE le₁ (ho Φ ok g₁ σ₁ s₁ _ R₁ q₁)

/-! ## Tests -/
theorem t_plain {e : Expr} {f : W V} (hx : SE κ e f) (he : ∀ env whole, isTrue e env whole = (do let v ← whole; standAt e.pos; holding [v] (truthy v)) := by intro _ _; rfl) : ST κ e (bnd f truthA) := fun Φ ok g σ s Q R q => by
  refine isTrue_plain (wpAny_mono (hx Φ ok g σ s _ R q) (fun x s₁ p => ?_) fun _ _ e => e) (he _ _)
  obtain ⟨g₁, a, σ₁, le₁, R₁, ra, q₁⟩ := p
  exact wPB le₁ (truth_sound R₁ ra q₁)
theorem t_Not {x : Expr} {pos : Pos} {f : W Bool} (hx : ST κ x f) : ST κ (.UnaryOp .Not x pos) (bnd f fun b => ret (!b)) := fun Φ ok g σ s Q R q =>
  isTrue_not (wpAny_mono (hx Φ ok g σ s _ R q) (fun c s₁ p => p) fun _ _ e => e)
theorem t_and1 {x : Expr} {pos : Pos} {f : W Bool} (hx : ST κ x f) : ST κ (.BoolOp .And [x] pos) f := fun Φ ok g σ s Q R q => by
  refine isTrue_and (wpAny_mono (hx Φ ok g σ s _ R q) (fun c s₁ p => ?_) fun _ _ e => e)
  cases c with
  | true => exact isTrue_and_nil p
  | false => exact p
theorem t_and {x y : Expr} {rest : List Expr} {pos : Pos} {f h : W Bool} (hx : ST κ x f) (hy : ST κ (.BoolOp .And (y :: rest) pos) h) : ST κ (.BoolOp .And (x :: y :: rest) pos) (bnd f fun b => if b then h else ret false) := fun Φ ok g σ s Q R q => by
  refine isTrue_and (wpAny_mono (hx Φ ok g σ s _ R q) (fun c s₁ p => ?_) fun _ _ e => e)
  obtain ⟨g₁, σ₁, le₁, R₁, q₁⟩ := p
  cases c with
  | true => exact wPB le₁ (hy Φ ok g₁ σ₁ s₁ _ R₁ q₁)
  | false => exact ⟨g₁, σ₁, le₁, R₁, q₁⟩
theorem t_or1 {x : Expr} {pos : Pos} {f : W Bool} (hx : ST κ x f) : ST κ (.BoolOp .Or [x] pos) f := fun Φ ok g σ s Q R q => by
  refine isTrue_or (wpAny_mono (hx Φ ok g σ s _ R q) (fun c s₁ p => ?_) fun _ _ e => e)
  cases c with
  | true => exact p
  | false => exact isTrue_or_nil p
theorem t_or {x y : Expr} {rest : List Expr} {pos : Pos} {f h : W Bool} (hx : ST κ x f) (hy : ST κ (.BoolOp .Or (y :: rest) pos) h) : ST κ (.BoolOp .Or (x :: y :: rest) pos) (bnd f fun b => if b then ret true else h) := fun Φ ok g σ s Q R q => by
  refine isTrue_or (wpAny_mono (hx Φ ok g σ s _ R q) (fun c s₁ p => ?_) fun _ _ e => e)
  obtain ⟨g₁, σ₁, le₁, R₁, q₁⟩ := p
  cases c with
  | true => exact ⟨g₁, σ₁, le₁, R₁, q₁⟩
  | false => exact wPB le₁ (hy Φ ok g₁ σ₁ s₁ _ R₁ q₁)
theorem r_and1 {x : Expr} {pos : Pos} {f : W V} (hx : SE κ x f) : SE κ (.BoolOp .And [x] pos) f := fun Φ ok g σ s Q R q => BoolOp_one (hx Φ ok g σ s _ R q)
theorem r_and {x y : Expr} {rest : List Expr} {pos : Pos} {f h : W V} (hx : SE κ x f) (hy : SE κ (.BoolOp .And (y :: rest) pos) h) : SE κ (.BoolOp .And (x :: y :: rest) pos) (bnd f fun v => bnd (truthA v) fun b => if b then h else ret v) := fun Φ ok g σ s Q R q => by
  refine BoolOp_and (wpAny_mono (hx Φ ok g σ s _ R q) (fun x s₁ p => ?_) fun _ _ e => e)
  obtain ⟨g₁, a, σ₁, le₁, R₁, ra, q₁⟩ := p
  refine wpAny_mono (truth_sound R₁ ra q₁) (fun c s₂ p => ?_) fun _ _ e => e
  obtain ⟨g₂, σ₂, le₂, R₂, q₂⟩ := p
  cases c with
  | true => exact wPE (le₁.trans le₂) (hy Φ ok g₂ σ₂ s₂ _ R₂ q₂)
  | false => exact ⟨g₂, a, σ₂, le₁.trans le₂, R₂, VR.mono le₂ a ra, q₂⟩
theorem r_or1 {x : Expr} {pos : Pos} {f : W V} (hx : SE κ x f) : SE κ (.BoolOp .Or [x] pos) f := fun Φ ok g σ s Q R q => BoolOp_one (hx Φ ok g σ s _ R q)
theorem r_or {x y : Expr} {rest : List Expr} {pos : Pos} {f h : W V} (hx : SE κ x f) (hy : SE κ (.BoolOp .Or (y :: rest) pos) h) : SE κ (.BoolOp .Or (x :: y :: rest) pos) (bnd f fun v => bnd (truthA v) fun b => if b then ret v else h) := fun Φ ok g σ s Q R q => by
  refine BoolOp_or (wpAny_mono (hx Φ ok g σ s _ R q) (fun x s₁ p => ?_) fun _ _ e => e)
  obtain ⟨g₁, a, σ₁, le₁, R₁, ra, q₁⟩ := p
  refine wpAny_mono (truth_sound R₁ ra q₁) (fun c s₂ p => ?_) fun _ _ e => e
  obtain ⟨g₂, σ₂, le₂, R₂, q₂⟩ := p
  cases c with
  | false => exact wPE (le₁.trans le₂) (hy Φ ok g₂ σ₂ s₂ _ R₂ q₂)
  | true => exact ⟨g₂, a, σ₂, le₁.trans le₂, R₂, VR.mono le₂ a ra, q₂⟩

/-! ## Lists of expressions, displays -/
theorem star_cons {e : Expr} {rest : List Expr} {env : Env} (he : isStarred e = false) : starEach (e :: rest) env = (false, eval e env) :: starEach rest env := by
  cases e <;> first | rfl | cases he
theorem rs_nil : SEs κ [] (ret []) := fun Φ ok pos g σ s Q R h => spliced_none ⟨g, [], σ, .refl g, R, .nil, h⟩
theorem rs_cons {e : Expr} {rest : List Expr} {f : W V} {h : W (List V)} (he : SE κ e f) (hr : SEs κ rest h) (hs : isStarred e = false := by rfl) : SEs κ (e :: rest) (bnd f fun v => bnd h fun vs => ret (v :: vs)) := fun Φ ok pos g σ s Q R q => by
  refine spliced_more (wpAny_mono (he Φ ok g σ s _ R q) (fun x s₁ p => ?_) fun _ _ e => e) (star_cons hs)
  obtain ⟨g₁, a, σ₁, le₁, R₁, ra, q₁⟩ := p
  refine wpAny_mono (hr Φ ok pos g₁ σ₁ s₁ _ R₁ q₁) (fun xs s₂ p => ?_) fun _ _ e => e
  obtain ⟨g₂, vs, σ₂, le₂, R₂, rv, q₂⟩ := p
  exact ⟨g₂, a :: vs, σ₂, le₁.trans le₂, R₂, .cons (VR.mono le₂ a ra) rv, q₂⟩

def lstW (l : List V) : W V := fun Q σ => l.length ≤ sizeLine ∧ Q (.lst l) σ
def tupW (l : List V) : W V := fun Q σ => l.length ≤ sizeLine ∧ Q (.tup l) σ
def refW (l : List V) : W V := fun Q σ => l.length ≤ sizeLine ∧ Q (.ref σ.objs.length) { σ with objs := σ.objs ++ [.list l] }
theorem r_List {es : List Expr} {pos : Pos} {f : W (List V)} (he : SEs κ es f) : SE κ (.List es pos) (bnd f lstW) := fun Φ ok g σ s Q R q => by
  refine List_ (wpAny_mono (he Φ ok pos g σ s _ R q) (fun x s₁ p => ?_) fun _ _ e => e)
  obtain ⟨g₁, vs, σ₁, le₁, R₁, rv, q₁⟩ := p
  exact wPE le₁ (mk_lst ok R₁ rv q₁.1 q₁.2)
theorem r_ListT {es : List Expr} {pos : Pos} {f : W (List V)} (he : SEs κ es f) : SE κ (.List es pos) (bnd f refW) := fun Φ ok g σ s Q R q => by
  refine List_ (wpAny_mono (he Φ ok pos g σ s _ R q) (fun x s₁ p => ?_) fun _ _ e => e)
  obtain ⟨g₁, vs, σ₁, le₁, R₁, rv, q₁⟩ := p
  exact wPE le₁ (mk_ref ok R₁ rv q₁.1 q₁.2)
theorem r_Tuple {es : List Expr} {k : Nat} {pos : Pos} {f : W (List V)} (he : SEs κ es f) : SE κ (.Tuple es k pos) (bnd f tupW) := fun Φ ok g σ s Q R q => by
  refine Tuple_ (wpAny_mono (he Φ ok pos g σ s _ R q) (fun x s₁ p => ?_) fun _ _ e => e)
  obtain ⟨g₁, vs, σ₁, le₁, R₁, rv, q₁⟩ := p
  exact wPE le₁ (mk_tup ok R₁ rv q₁.1 q₁.2)

/-! ## Statements -/
theorem b_nil : SB κ [] (ret .next) := fun Φ ok g σ s Q R h => wpAny_execs_nil ⟨g, .next, σ, .refl g, R, by simp only [FlR], h⟩
def seqF (f h : W Fl) : W Fl := fun Q => f fun fl σ => match fl with
  | .next => h Q σ
  | fl => Q fl σ
theorem b_cons {st : Stmt} {rest : List Stmt} {f h : W Fl} (hs : SS κ st f) (hr : SB κ rest h) : SB κ (st :: rest) (seqF f h) := fun Φ ok g σ s Q R q => by
  refine wpAny_execs_cons (wpAny_mono (hs Φ ok g σ s _ R q) (fun x s₁ p => ?_) fun _ _ e => e)
  obtain ⟨g₁, fl, σ₁, le₁, R₁, rf, q₁⟩ := p
  cases fl with
  | next => simp only [FlR] at rf; subst rf; exact wPF le₁ (hr Φ ok g₁ σ₁ s₁ _ R₁ q₁)
  | brk => simp only [FlR] at rf; subst rf; exact ⟨g₁, .brk, σ₁, le₁, R₁, by simp only [FlR], q₁⟩
  | cont => simp only [FlR] at rf; subst rf; exact ⟨g₁, .cont, σ₁, le₁, R₁, by simp only [FlR], q₁⟩
  | ret v => simp only [FlR] at rf; obtain ⟨x, rfl, rv⟩ := rf; exact ⟨g₁, .ret v, σ₁, le₁, R₁, by simp only [FlR]; exact ⟨x, rfl, rv⟩, q₁⟩
theorem s_Return {e : Expr} {pos : Pos} {f : W V} (he : SE κ e f) : SS κ (.Return (some e) pos) (bnd f fun v => ret (.ret v)) := fun Φ ok g σ s Q R q => by
  refine wpAny_Return_some (wpAny_mono (he Φ ok g σ s _ R q) (fun x s₁ p => ?_) fun _ _ e => e)
  obtain ⟨g₁, a, σ₁, le₁, R₁, ra, q₁⟩ := p
  exact ⟨g₁, .ret a, σ₁, le₁, R₁, by simp only [FlR]; exact ⟨x, rfl, ra⟩, q₁⟩
theorem s_Pass {pos : Pos} : SS κ (.Pass pos) (ret .next) := fun Φ ok g σ s Q R h => wpAny_Pass ⟨g, .next, σ, .refl g, R, by simp only [FlR], h⟩
theorem s_Break {pos : Pos} : SS κ (.Break pos) (ret .brk) := fun Φ ok g σ s Q R h => wpAny_bind (wpAny_standAt (wpAny_pure ⟨g, .brk, σ, .refl g, R, by simp only [FlR], h⟩))
theorem s_If {t : Expr} {b o : List Stmt} {pos : Pos} {ft : W Bool} {fb fo : W Fl} (ht : ST κ t ft) (hb : SB κ b fb) (ho : SB κ o fo) : SS κ (.If t b o pos) (bnd ft fun c => if c then fb else fo) := fun Φ ok g σ s Q R q => by
  refine wpAny_If (wpAny_mono (ht Φ ok g σ s _ R q) (fun c s₁ p => ?_) fun _ _ e => e)
  obtain ⟨g₁, σ₁, le₁, R₁, q₁⟩ := p
  cases c with
  | true => exact wPF le₁ (hb Φ ok g₁ σ₁ s₁ _ R₁ q₁)
  | false => exact wPF le₁ (ho Φ ok g₁ σ₁ s₁ _ R₁ q₁)
theorem s_Expr {e : Expr} {pos : Pos} {f : W V} (he : SE κ e f) (hs : ∀ env, swapsWith e none pos.line env = pure false := by intro _; rfl) : SS κ (.Expr e pos) (bnd f fun _ => ret .next) := fun Φ ok g σ s Q R q => by
  refine wpAny_Expr_any (wpAny_mono (he Φ ok g σ s _ R q) (fun x s₁ p => ?_) fun _ _ e => e) (by simp [interactive, ok.kind]) (hs _)
  obtain ⟨g₁, a, σ₁, le₁, R₁, ra, q₁⟩ := p
  exact ⟨g₁, .next, σ₁, le₁, R₁, by simp only [FlR], q₁⟩
theorem a_Name {x : Str} {k : Nat} {pos : Pos} (hx : stl κ x k = true) : SA κ (.Name x pos) (fun v => setv k v) := fun Φ ok g σ s Q v x R rv q => wpAny_assign_Name (storev ok R hx rv q)
theorem s_Assign {x : Str} {k : Nat} {e : Expr} {p pos : Pos} {f : W V} (he : SE κ e f) (hx : stl κ x k = true) (hs : ∀ env, swapsWith e (some (.Name x p)) pos.line env = pure false := by intro _; rfl) :
    SS κ (.Assign [.Name x p] e pos) (bnd f fun v => bnd (setv k v) fun _ => ret .next) := fun Φ ok g σ s Q R q => by
  refine wpAny_Assign_Name (wpAny_mono (he Φ ok g σ s _ R q) (fun x s₁ p => ?_) fun _ _ e => e) (hs _)
  obtain ⟨g₁, a, σ₁, le₁, R₁, ra, q₁⟩ := p
  refine wpAny_mono (storev ok R₁ hx ra q₁) (fun _ s₂ p => ?_) fun _ _ e => e
  obtain ⟨g₂, σ₂, le₂, R₂, q₂⟩ := p
  exact ⟨g₂, .next, σ₂, le₁.trans le₂, R₂, by simp only [FlR], q₂⟩
def augA (op : Operator) (a b : V) : W V := fun Q σ => match op, a, b with
  | .Add, .int x, .int y => Q (.int (x + y)) σ
  | .Sub, .int x, .int y => Q (.int (x - y)) σ
  | .FloorDiv, .int x, .int y => (y ≠ 0 ∧ y.natAbs < 1000) ∧ Q (.int (x.fdiv y)) σ
  | .Add, .str x, .str y => x.length + y.length ≤ sizeLine ∧ Q (.str (x ++ y)) σ
  | _, _, _ => False
theorem aug_sound {Φ : Ctx} {g : G} {σ : St} {s : Shared} (R : Rel κ Φ g σ s) {op : Operator} {a b : V} {x y : Value} (ha : VR g a x) (hb : VR g b y) {Q : V → St → Prop} (h : augA op a b Q σ) :
    wpAny (model κ.P.prog Φ.w) Φ.A (inplaceOp op x y) (PE κ Φ g Q) NoE s := by
  have fin : ∀ {tk t : Nat} i, Q (.int i) σ → PE κ Φ g Q (.int i t) { s with toks := tk } := fun i q => .here (R.tok _) (v := .int i) (by simp only [VR]; exact ⟨_, rfl⟩) q
  unfold augA at h
  split at h
  · simp only [VR] at ha hb; obtain ⟨_, rfl⟩ := ha; obtain ⟨_, rfl⟩ := hb
    exact PyProof.Rows.iadd_int (fin _ h)
  · simp only [VR] at ha hb; obtain ⟨_, rfl⟩ := ha; obtain ⟨_, rfl⟩ := hb
    exact PyProof.Rows.isub_int (fin _ h)
  · simp only [VR] at ha hb; obtain ⟨_, rfl⟩ := ha; obtain ⟨_, rfl⟩ := hb
    exact PyProof.Rows.ifloordiv_int h.1.1 (fin _ h.2) (.inl (PyProof.noPylong_small (by have := h.1.2; omega)))
  · simp only [VR] at ha hb; obtain ⟨_, rfl⟩ := ha; obtain ⟨_, rfl⟩ := hb
    exact PyProof.Rows.iadd_str (fun t' tk => .here (R.tok _) (v := .str _) (by simp only [VR]; exact ⟨_, rfl⟩) h.2) h.1
  · exact h.elim
theorem s_Aug {x : Str} {k : Nat} {op : Operator} {e : Expr} {p pos : Pos} {f : W V} (he : SE κ e f) (hx : stl κ x k = true) :
    SS κ (.AugAssign (.Name x p) op e pos) (bnd (getv k) fun a => bnd f fun b => bnd (augA op a b) fun v => bnd (setv k v) fun _ => ret .next) := fun Φ ok g σ s Q R q => by
  refine wpAny_AugAssign_Name (wpAny_mono (loadv ok R (stl_lcl hx) q) (fun x s₁ p => ?_) fun _ _ e => e)
  obtain ⟨g₁, a, σ₁, le₁, R₁, ra, q₁⟩ := p
  refine wpAny_mono (he Φ ok g₁ σ₁ s₁ _ R₁ q₁) (fun y s₂ p => ?_) fun _ _ e => e
  obtain ⟨g₂, b, σ₂, le₂, R₂, rb, q₂⟩ := p
  refine wpAny_mono (aug_sound R₂ (VR.mono le₂ a ra) rb q₂) (fun z s₃ p => ?_) fun _ _ e => e
  obtain ⟨g₃, c, σ₃, le₃, R₃, rc, q₃⟩ := p
  refine wpAny_mono (storev ok R₃ hx rc q₃) (fun _ s₄ p => ?_) fun _ _ e => e
  obtain ⟨g₄, σ₄, le₄, R₄, q₄⟩ := p
  exact ⟨g₄, .next, σ₄, ((le₁.trans le₂).trans le₃).trans le₄, R₄, by simp only [FlR], q₄⟩

def whileW (test : W Bool) (body : W Fl) : W Fl := fun Q σ => ∃ (I : Nat → St → Prop) (n : Nat), I n σ ∧ ∀ n σ, I n σ → test (fun b σ' => if b then body (fun fl σ'' => match fl with
  | .next => ∃ m, m < n ∧ I m σ''
  | .cont => ∃ m, m < n ∧ I m σ''
  | .brk => Q .next σ''
  | .ret v => Q (.ret v) σ'') σ' else Q .next σ') σ
theorem s_While {t : Expr} {b : List Stmt} {pos : Pos} {ft : W Bool} {fb : W Fl} (ht : ST κ t ft) (hb : SB κ b fb) : SS κ (.While t b [] pos) (whileW ft fb) := fun Φ ok g σ s Q R q => by
  obtain ⟨I, n, h0, step⟩ := q
  refine wpAny_While (codeAny_mono (codeAny_whileLoop (R := fun r s' => match r with | .ok f => PF κ Φ g Q f s' | .error e => False) (fun n s => ∃ g' σ', g.le g' ∧ Rel κ Φ g' σ' s ∧ I n σ') (fun n s₁ hI => ?_) n ⟨g, σ, .refl g, R, h0⟩) fun r s' p => ?_)
  · obtain ⟨g₁, σ₁, le₁, R₁, hI⟩ := hI
    refine wpAny_mono (ht Φ ok g₁ σ₁ s₁ _ R₁ (step n σ₁ hI)) (fun c s₂ p => ?_) fun _ _ e => e.elim
    obtain ⟨g₂, σ₂, le₂, R₂, q₂⟩ := p
    cases c with
    | true =>
      simp only [if_true] at q₂ ⊢
      refine wpAny_mono (hb Φ ok g₂ σ₂ s₂ _ R₂ q₂) (fun f s₃ p => ?_) fun _ _ e => e.elim
      obtain ⟨g₃, fl, σ₃, le₃, R₃, rf, q₃⟩ := p
      have le := (le₁.trans le₂).trans le₃
      cases fl with
      | next => simp only [FlR] at rf; subst rf; obtain ⟨m, hm, hI'⟩ := q₃; exact ⟨m, hm, g₃, σ₃, le, R₃, hI'⟩
      | cont => simp only [FlR] at rf; subst rf; obtain ⟨m, hm, hI'⟩ := q₃; exact ⟨m, hm, g₃, σ₃, le, R₃, hI'⟩
      | brk => simp only [FlR] at rf; subst rf; exact ⟨g₃, .next, σ₃, le, R₃, by simp only [FlR], q₃⟩
      | ret v => simp only [FlR] at rf; obtain ⟨x, rfl, rv⟩ := rf; exact ⟨g₃, .ret v, σ₃, le, R₃, by simp only [FlR]; exact ⟨x, rfl, rv⟩, q₃⟩
    | false =>
      simp only [Bool.false_eq_true, if_false] at q₂ ⊢
      exact wpAny_execs_nil ⟨g₂, .next, σ₂, le₁.trans le₂, R₂, by simp only [FlR], q₂⟩
  · cases r with
    | ok f => exact p
    | error e => exact p.elim
end
end Mine

open PySem PySem.W PyProof.Rows PySem.Calls
set_option Elab.async false
set_option maxRecDepth 100000
set_option linter.unusedVariables false

namespace Mine

/-! ## Calls of the text's own defs -/

def CallPost (κ : Kap) (Φ : Ctx) (g : G) (σ : St) (Q : V → List O → Prop) (r : Result) (s' : Shared) : Prop := match r with
  | .ok (.ret x) => ∃ g' v objs', g.le g' ∧ Rel κ Φ g' { σ with objs := objs' } s' ∧ VR g' v x ∧ Q v objs'
  | _ => False

abbrev Spec := List V → List V → List O → (V → List O → Prop) → Prop

/-- the call of a def by so many plain arguments and these keywords keeps its word -/
def FnOK (P : Prg) (D : Nat) (f : Addr) (n : Nat) (kws : List Str) (spec : Spec) : Prop :=
  ∀ (κ : Kap) (Φ : Ctx) (A : Around), κ.P = P → D < κ.D → Ctx.Ok κ Φ → A.handled = none → A.depth ≤ Φ.A.depth + 1 → A.units ≤ Φ.A.units + 10 →
    ∀ g σ s vs xs kvs kxs Q, Rel κ Φ g σ s → VRs g vs xs → VRs g kvs kxs → vs.length = n → kvs.length = kws.length → spec vs kvs σ.objs Q →
      codeAny (model P.prog Φ.w) A (.call (.ref f) ⟨xs, kws.zip kxs⟩) (CallPost κ Φ g σ Q) s

def initLoc (vars ps : List Str) (fv : List V) : List (Option V) := vars.map fun x => (ps.zip fv).lookup x

theorem slot_get : ∀ {vars : List Str} {x : Str} {k : Nat}, slot vars x = some k → vars[k]? = some x
  | [], _, _, h => by cases h
  | y :: ys, x, k, h => by
    simp only [slot] at h
    split at h
    · rename_i e; cases h; simp [beq_iff_eq.mp e]
    · cases q : slot ys x with
      | none => rw [q] at h; cases h
      | some j => rw [q] at h; simp at h; subst h; simpa using slot_get q
theorem lget_map : ∀ {vars : List Str} {f : Str → Option V} {k : Nat} {x : Str}, vars[k]? = some x → lget (vars.map f) k = f x
  | [], _, _, _, h => by simp at h
  | y :: ys, f, 0, x, h => by simp at h; subst h; rfl
  | y :: ys, f, k + 1, x, h => by simp at h; exact lget_map (vars := ys) h

theorem bindL_of {kindOf : Str → Option NameKind} {x : Str} {val : Value} (hk : kindOf x = some .local) : ∀ {binds : List (Str × Value)} {m : Str → Option Value}, (binds.map (·.1)).Nodup → (x, val) ∈ binds → bindL kindOf binds m x = some val
  | (n, v) :: r, m, nd, hm => by
    rw [List.map_cons, List.nodup_cons] at nd
    unfold bindL
    have keep : ∀ (r : List (Str × Value)) (m : Str → Option Value), x ∉ r.map (·.1) → bindL kindOf r m x = m x := fun r => by
      induction r with
      | nil => intro m _; rfl
      | cons p r ih =>
        intro m hx
        obtain ⟨n, v⟩ := p
        simp only [List.map_cons, List.mem_cons, not_or] at hx
        unfold bindL
        rw [ih _ hx.2]
        split
        · exact if_neg hx.1
        · rfl
    rcases List.mem_cons.mp hm with e | hm
    · cases e
      rw [keep _ _ nd.1, if_pos hk]; simp
    · exact bindL_of hk nd.2 hm
theorem bindC_of {kindOf : Str → Option NameKind} {x : Str} {val : Value} (hk : kindOf x ≠ some .local) : ∀ {binds : List (Str × Value)} {m : Str → Option Value}, (binds.map (·.1)).Nodup → (x, val) ∈ binds → bindC kindOf binds m x = some val
  | (n, v) :: r, m, nd, hm => by
    rw [List.map_cons, List.nodup_cons] at nd
    unfold bindC
    have keep : ∀ (r : List (Str × Value)) (m : Str → Option Value), x ∉ r.map (·.1) → bindC kindOf r m x = m x := fun r => by
      induction r with
      | nil => intro m _; rfl
      | cons p r ih =>
        intro m hx
        obtain ⟨n, v⟩ := p
        simp only [List.map_cons, List.mem_cons, not_or] at hx
        unfold bindC
        rw [ih _ hx.2]
        split
        · rfl
        · exact if_neg hx.1
    rcases List.mem_cons.mp hm with e | hm
    · cases e
      rw [keep _ _ nd.1, if_neg hk]; simp
    · exact bindC_of hk nd.2 hm

theorem lookup_mem {α : Type} : ∀ {l : List (Str × α)} {x : Str} {v : α}, l.lookup x = some v → (x, v) ∈ l
  | (k, v) :: l, a, b, h => by
    rw [List.lookup_cons] at h
    split at h
    · rename_i e; cases h; rw [beq_iff_eq.mp e]; exact .head _
    · exact .tail _ (lookup_mem h)
theorem zip_rel {g : G} : ∀ {ps : List Str} {vs : List V} {xs : List Value} {x : Str} {v : V}, VRs g vs xs → (ps.zip vs).lookup x = some v → ∃ val, (x, val) ∈ ps.zip xs ∧ VR g v val
  | [], _, _, _, _, _, h => by simp at h
  | _ :: _, [], _, _, _, _, h => by simp at h
  | p :: ps, u :: vs, xs, x, v, r, h => by
    simp only [VRs] at r
    obtain ⟨y, ys, rfl, a, b⟩ := r
    rw [List.zip_cons_cons, List.lookup_cons] at h
    split at h
    · rename_i e; cases h; rw [beq_iff_eq.mp e]; exact ⟨y, .head _, a⟩
    · obtain ⟨val, h1, h2⟩ := zip_rel b h
      exact ⟨val, .tail _ h1, h2⟩

theorem hideAll_keep {h : Heap} {l : List Addr} : KeepsH (hideAll h l) h := fun b o e => of_hideAll l e

/-- into a nested frame: the caller's relation gives the callee's -/
structure Enters (κ : Kap) (Φ : Ctx) (g : G) (s : Shared) (Φ' : Ctx) (ex : List Addr) : Prop where
  exOk : ∀ b ∈ ex, ¬ Known Φ g b
  w : Φ'.w = Φ.w
  h₀ : Φ'.h₀ = hideAll s.heap (ex ++ g.tr)
  os : Φ'.os = Φ.os
  pins : Φ'.pins = []
  forb : Φ'.forb = Φ.env.locals :: (Φ.cw ++ (Φ.pins.map (·.1) ++ Φ.forb))

section
variable {κ κ' : Kap} {Φ Φ' : Ctx} {g g' : G} {σ σ' : St} {s s' : Shared} {ex : List Addr}

theorem tr_not (R : Rel κ Φ g σ s) {b : Addr} (hb : b ∈ Φ.env.locals :: Φ.cw) : b ∉ g.tr := fun h =>
  (List.nodup_append.mp (show ((Φ.env.locals :: Φ.cw) ++ g.tr).Nodup from R.nodup)).2.2 b hb b h rfl
theorem tr_mut {b : Addr} (hb : b ∈ g.tr) : b ∈ Φ.muts g := .tail _ (List.mem_append_right _ hb)

theorem Enters.notex (E : Enters κ Φ g s Φ' ex) {b : Addr} (k : Known Φ g b) (hb : b ∉ g.tr) : b ∉ ex ++ g.tr := fun h => by
  rcases List.mem_append.mp h with h | h
  · exact E.exOk b h k
  · exact hb h
theorem Enters.back (E : Enters κ Φ g s Φ' ex) (R : Rel κ Φ g σ s) (le : g.le g') (R' : Rel κ' Φ' g' σ' s') : Rel κ Φ g' { σ with objs := σ'.objs } s' := by
  have keep : ∀ b o, Known Φ g b → s.heap.get? b = some o → b ∉ g.tr → s'.heap.get? b = some o := fun b o k e hb => R'.keep b o (by rw [E.h₀]; exact hideAll_get _ e (E.notex k hb))
  have h0no : ∀ b o, Φ.h₀.get? b = some o → b ∉ g.tr := fun b o e hb => by rw [(R.muts b (tr_mut hb)).1] at e; cases e
  have inH : ∀ b o, Known Φ g b → s.heap.get? b = some o → b ∉ g.tr → (Φ'.h₀.get? b).isSome = true := fun b o k e hb => by rw [E.h₀, hideAll_get _ e (E.notex k hb)]; rfl
  obtain ⟨m, ⟨oL, es, ep, hoL, rL⟩, lr⟩ := R.ns
  have hfL : Φ.env.locals ∈ Φ'.forb := by rw [E.forb]; exact .head _
  have hfC : ∀ c ∈ Φ.cw, c ∈ Φ'.forb := fun c hc => by rw [E.forb]; exact .tail _ (List.mem_append_left _ hc)
  have hfP : ∀ p ∈ Φ.pins, p.1 ∈ Φ'.forb := fun p hp => by rw [E.forb]; exact .tail _ (List.mem_append_right _ (List.mem_append_left _ (List.mem_map_of_mem hp)))
  have hfF : ∀ a ∈ Φ.forb, a ∈ Φ'.forb := fun a ha => by rw [E.forb]; exact .tail _ (List.mem_append_right _ (List.mem_append_right _ ha))
  have trNo : ∀ a ∈ g'.tr, ∀ b, (Φ'.h₀.get? b).isSome = true → b ≠ a := fun a ha b hb e => by rw [e, (R'.muts a (tr_mut ha)).1] at hb; cases hb
  refine ⟨⟨m, ⟨oL, es, ep, keep _ _ (.inl (.head _)) hoL (tr_not R (.head _)), rL⟩, fun x k v hs hl => ?_⟩, fun c hc => ?_, fun b o e => keep b o (.inr (.inr (.inr (by rw [e]; rfl)))) (R.keep b o e) (h0no b o e), R'.fz, fun p hp => keep _ _ (.inr (.inr (.inl ⟨p, hp, rfl⟩))) (R.pins p hp) (fun h => (R.muts _ (tr_mut h)).2.2 p hp rfl), ?_, fun a ha => ?_, ?_,
    fun p hp => ⟨(R.pinsOk p hp).1, fun q hq => (R'.forb _ (hfP p hp)).2 q hq⟩, R.cellsOk, R'.gens, R'.os.trans E.os, fun a ha => ⟨(R.forb a ha).1, (R'.forb a (hfF a ha)).2⟩⟩
  · have := lr x k v hs hl
    split at this
    · obtain ⟨val, h1, h2⟩ := this; exact ⟨val, h1, VR.mono le v h2⟩
    · rename_i hc
      obtain ⟨c, val, h1, ⟨oc, hoc, hd⟩, h3⟩ := this
      have kc : Known Φ g c := by
        rcases R.cellsOk x c hc h1 with h | h
        · exact .inl (.tail _ (List.mem_append_left _ h))
        · exact .inr (.inr (.inr h))
      refine ⟨c, val, h1, ⟨oc, keep _ _ kc hoc ?_, hd⟩, VR.mono le v h3⟩
      rcases R.cellsOk x c hc h1 with h | h
      · exact tr_not R (.tail _ h)
      · obtain ⟨o, ho⟩ := Option.isSome_iff_exists.mp h; exact h0no c o ho
    · trivial
  · obtain ⟨v, oc, hoc, hd⟩ := R.cells c hc
    exact ⟨v, oc, keep _ _ (.inl (.tail _ (List.mem_append_left _ hc))) hoc (tr_not R (.tail _ hc)), hd⟩
  · have := R'.tr; rw [E.w] at this; exact this
  · have hmem : a ∈ Φ.env.locals :: Φ.cw ∨ a ∈ g'.tr := by
      rcases List.mem_cons.mp ha with rfl | ha
      · exact .inl (.head _)
      · rcases List.mem_append.mp ha with ha | ha
        · exact .inl (.tail _ ha)
        · exact .inr ha
    rcases hmem with h | h
    · refine ⟨(R.muts a ?_).1, fun p hp => ?_, (R.muts a ?_).2.2⟩
      · rcases List.mem_cons.mp h with rfl | h
        · exact .head _
        · exact .tail _ (List.mem_append_left _ h)
      · refine (R'.forb a ?_).2 p hp
        rcases List.mem_cons.mp h with rfl | h
        · exact hfL
        · exact hfC a h
      · rcases List.mem_cons.mp h with rfl | h
        · exact .head _
        · exact .tail _ (List.mem_append_left _ h)
    · refine ⟨?_, (R'.muts a (tr_mut h)).2.1, fun p hp => trNo a h _ (inH _ _ (.inr (.inr (.inl ⟨p, hp, rfl⟩))) (R.pins p hp) fun q => (R.muts _ (tr_mut q)).2.2 p hp rfl)⟩
      cases q : Φ.h₀.get? a with
      | none => rfl
      | some o => exact absurd rfl (trNo a h a (inH a o (.inr (.inr (.inr (by rw [q]; rfl)))) (R.keep a o q) (h0no a o q)))
  · show ((Φ.env.locals :: Φ.cw) ++ g'.tr).Nodup
    refine List.nodup_append.mpr ⟨(List.nodup_append.mp (show ((Φ.env.locals :: Φ.cw) ++ g.tr).Nodup from R.nodup)).1, (List.nodup_append.mp (show ((Φ'.env.locals :: Φ'.cw) ++ g'.tr).Nodup from R'.nodup)).2.1, fun a ha b hb e => ?_⟩
    have ka : Known Φ g a := by
      rcases List.mem_cons.mp ha with rfl | ha
      · exact .inl (.head _)
      · exact .inl (.tail _ (List.mem_append_left _ ha))
    obtain ⟨o, ho⟩ := R.known ka
    exact trNo b hb a (inH a o ka ho (tr_not R ha)) e
theorem Enters.known (E : Enters κ Φ g s Φ' ex) (R : Rel κ Φ g σ s) {b : Addr} (k : Known Φ g' b) : b ∈ g'.tr ∨ (∃ p ∈ g'.fz, p.1 = b) ∨ (Φ'.h₀.get? b).isSome = true := by
  have inH : ∀ b, Known Φ g b → b ∉ g.tr → (Φ'.h₀.get? b).isSome = true := fun b k hb => by
    obtain ⟨o, e⟩ := R.known k
    rw [E.h₀, hideAll_get _ e (E.notex k hb)]; rfl
  rcases k with k | k | ⟨p, hp, rfl⟩ | k
  · rcases List.mem_cons.mp k with rfl | k
    · exact .inr (.inr (inH _ (.inl (.head _)) (tr_not R (.head _))))
    · rcases List.mem_append.mp k with k | k
      · exact .inr (.inr (inH _ (.inl (.tail _ (List.mem_append_left _ k))) (tr_not R (.tail _ k))))
      · exact .inl k
  · exact .inr (.inl k)
  · exact .inr (.inr (inH _ (.inr (.inr (.inl ⟨p, hp, rfl⟩))) fun q => (R.muts _ (tr_mut q)).2.2 p hp rfl))
  · exact .inr (.inr (inH _ (.inr (.inr (.inr k))) fun q => by rw [(R.muts b (tr_mut q)).1] at k; cases k))
end


def retQ (Q : V → List O → Prop) (fl : Fl) (σ : St) : Prop := match fl with
  | .ret v => Q v σ.objs
  | _ => Q .none σ.objs

/-- static facts of a def of the text -/
structure FnIs (P : Prg) (f : Addr) (fd : FuncData) (body : List Stmt) (vars ps : List Str) : Prop where
  at_ : ∀ q, ∃ oc od osl, (P.K q).lookup f = some ⟨oc, od, .func fd, osl⟩
  code : ∀ q, codeIn (P.K q) fd.code fd.qualname = true
  body_ : fd.body = .stmts body
  clo : fd.closure = []
  glo : fd.globals = mainGlobals
  bui : fd.builtins = builtinsNs
  co : fd.scope.isCoroutine = false
  gen : fd.scope.isGenerator = false
  kind : fd.scope.kind = .function
  psOk : ∀ x ∈ ps, fd.scope.names.lookup x = some .local ∨ fd.scope.names.lookup x = some .cell
  psNd : ps.Nodup
  cellNd : ((cellsFrom 0 fd.scope.names []).map (·.1)).Nodup

theorem cellsFrom_mem : ∀ (names : List (Str × NameKind)) (n : Nat) (acc : List (Str × Addr)) (x : Str), ((x, NameKind.cell) ∈ names ∨ x ∈ acc.map (·.1)) → x ∈ (cellsFrom n names acc).map (·.1)
  | [], _, _, _, h => h.elim (fun h => nomatch h) id
  | (y, k) :: r, n, acc, x, h => by
    unfold cellsFrom
    split
    · rename_i hk
      refine cellsFrom_mem r _ _ x ?_
      rcases h with h | h
      · rcases List.mem_cons.mp h with e | h
        · cases e; exact .inr (.head _)
        · exact .inl h
      · exact .inr (.tail _ h)
    · rename_i hk
      refine cellsFrom_mem r _ _ x ?_
      rcases h with h | h
      · rcases List.mem_cons.mp h with e | h
        · cases e; exact absurd rfl hk
        · exact .inl h
      · exact .inr h
theorem lookup_isSome_of_mem {α : Type} : ∀ {l : List (Str × α)} {x : Str}, x ∈ l.map (·.1) → (l.lookup x).isSome = true
  | (k, v) :: l, x, h => by
    rw [List.lookup_cons]
    split
    · rfl
    · rename_i e
      rcases List.mem_cons.mp h with q | q
      · rw [q] at e; simp at e
      · exact lookup_isSome_of_mem q

theorem zip_nodup {α : Type} : ∀ {ps : List Str} {fx : List α}, ps.Nodup → ((ps.zip fx).map (·.1)).Nodup
  | [], _, _ => by simp
  | _ :: _, [], _ => by simp
  | p :: ps, x :: fx, h => by
    rw [List.nodup_cons] at h
    rw [List.zip_cons_cons, List.map_cons, List.nodup_cons]
    refine ⟨fun q => h.1 ?_, zip_nodup h.2⟩
    obtain ⟨y, hy, e⟩ := List.mem_map.mp q
    rw [← (show y.1 = p from e)]; exact (List.of_mem_zip hy).1

theorem fn_ok {P : Prg} {D : Nat} {f : Addr} {fd : FuncData} {body : List Stmt} {vars ps : List Str} {n : Nat} {kws : List Str} {full : List V → List V → List V} {fb : W Fl} {spec : Spec} (I : FnIs P f fd body vars ps)
    (hb : SB ⟨P, fd.scope.names, vars, D, true⟩ body fb)
    (hbind : ∀ (q : Params) (s : Shared) (xs kxs : List Value), (P.K q).In s.heap → xs.length = n → kxs.length = kws.length → ∃ fx, BindsTo s fd ⟨xs, kws.zip kxs⟩ (ps.zip fx) ∧ ∀ g vs kvs, VRs g vs xs → VRs g kvs kxs → VRs g (full vs kvs) fx)
    (hspec : ∀ vs kvs objs Q, vs.length = n → kvs.length = kws.length → spec vs kvs objs Q → fb (retQ Q) ⟨initLoc vars ps (full vs kvs), objs⟩) :
    FnOK P D f n kws spec := by
  intro κ Φ A hP hD ok hA hdep hun g σ s vs xs kvs kxs Q R rv rk hn hk hs
  subst hP
  have X : (κ.P.K Φ.w.params).In s.heap := fun a o e => R.keep a o (ok.KIn a o e)
  obtain ⟨oc, od, osl, hlook⟩ := I.at_ Φ.w.params
  obtain ⟨fx, hB, hfull⟩ := hbind Φ.w.params s xs kxs X (rv.length.trans hn) (rk.length.trans hk)
  have rfull := hfull g vs kvs rv rk
  have hpsz : ∀ y ∈ ps.zip fx, y.1 ∈ ps := fun y hy => (List.of_mem_zip hy).1
  have hznd : ((ps.zip fx).map (·.1)).Nodup := zip_nodup I.psNd
  have hLN := ok.nolim.keeps R.keep
  refine codeAny_call_function (by have := ok.depth; omega) (X _ _ hlook) rfl I.co I.gen I.body_ (codeRec_of X (I.code _)) (hB _ _ _ _ ?_)
  rw [I.clo]
  have cellLook : ∀ m x, fd.scope.names.lookup x = some .cell → ((cellsFrom m fd.scope.names []).lookup x).isSome = true := fun m x hx =>
    lookup_isSome_of_mem (cellsFrom_mem _ _ _ x (.inl (lookup_mem hx)))
  refine wpAny_newFunctionEnv_cells I.kind (fun y hy => ?_) fun env he s₁ ic => ?_
  · rcases I.psOk _ (hpsz y hy) with h | h
    · exact .inl h
    · exact .inr ⟨h, cellLook _ _ h⟩
  subst he
  obtain ⟨h₁, tk, rfl, hkeep⟩ := ic.done
  refine ⟨hLN.keeps hkeep, codeAny_func ?_⟩
  let L := s.heap.objs.size
  let cells := cellsFrom (L + 1) fd.scope.names []
  let env : Env := newEnv fd.scope L fd.globals cells (fd.qualname ++ ".<locals>.") (some f) fd.code none fd.builtins
  let Φ' : Ctx := { w := Φ.w, h₀ := hideAll s.heap g.tr, A := A.deeper env, env := env, cw := cells.map (·.2), pins := [], os := Φ.os, forb := Φ.env.locals :: (Φ.cw ++ (Φ.pins.map (·.1) ++ Φ.forb)) }
  have EN : Enters κ Φ g s Φ' [] := ⟨fun _ h => (by cases h), rfl, rfl, rfl, rfl, rfl⟩
  have nd : (cells.map (·.1)).Nodup := cellsFrom_names fd.scope.names 0 (L + 1) [] [] rfl ▸ I.cellNd
  have lk : ∀ {x c}, (x, c) ∈ cells → cells.lookup x = some c := fun h => lookup_of_mem_nodup nd h
  have h0no : ∀ b o, Φ.h₀.get? b = some o → b ∉ g.tr := fun b o e hb => by rw [(R.muts b (tr_mut hb)).1] at e; cases e
  have keep0 : KeepsH Φ.h₀ Φ'.h₀ := fun b o e => hideAll_get _ (R.keep b o e) (h0no b o e)
  have ltSize : ∀ {b}, Known Φ g b → b < L := fun hb => by obtain ⟨o, ho⟩ := R.known hb; exact Heap.lt_size ho
  have newNone : ∀ b, L ≤ b → Φ'.h₀.get? b = none := fun b hb => by
    cases q : Φ'.h₀.get? b with
    | none => rfl
    | some o =>
      have h9 : b < s.heap.objs.size := Heap.lt_size (of_hideAll _ q)
      have h8 : s.heap.objs.size ≤ b := hb
      omega
  have aboveC : ∀ c ∈ Φ'.cw, L < c := fun c hc => by
    obtain ⟨p, hp, rfl⟩ := List.mem_map.mp hc
    exact ic.above p.1 p.2 hp
  have ok' : Ctx.Ok ⟨κ.P, fd.scope.names, vars, D, true⟩ Φ' := by
    refine ⟨fun x => rfl, I.kind, I.glo, I.bui, hA, fun a o e => keep0 a o (ok.KIn a o e), ok.nolim.keeps keep0, ?_, ?_, fun _ x hx => ?_, ?_, fun x y c hx hy => ?_, ?_⟩
    · obtain ⟨mg, mb, h1, h2, h3⟩ := ok.globs
      exact ⟨mg, mb, h1.keeps keep0, h2.keeps keep0, h3⟩
    · show A.depth + 1 + 2 * D < recursionLimit
      have := ok.depth; omega
    · obtain ⟨c, hc⟩ := Option.isSome_iff_exists.mp (cellLook (L + 1) x hx)
      exact ⟨c, hc, List.mem_map.mpr ⟨(x, c), lookup_mem hc, rfl⟩⟩
    · show (hideAll s.heap g.tr).objs.size ≤ L
      rw [hideAll_size]; exact Nat.le_refl _
    · exact name_of_addr ic.apart (lookup_mem hx) (lookup_mem hy)
    · show A.units + 3 + 20 * D + 100 < cLine
      have := ok.units; omega
  have R' : Rel ⟨κ.P, fd.scope.names, vars, D, true⟩ Φ' g ⟨initLoc vars ps (full vs kvs), σ.objs⟩ { s with heap := h₁, toks := tk } := by
    refine ⟨⟨_, ic.toInCall.ns, fun x k v hsl hl => ?_⟩, fun c hc => ?_, fun b o e => hkeep b o (of_hideAll _ e), fun p hp => hkeep _ _ (R.fz p hp), fun p hp => (by cases hp), ⟨R.tr.1, fun i a o e1 e2 => ?_⟩, fun a ha => ?_, ?_, fun p hp => (by cases hp), fun x c hk hc => .inl (List.mem_map.mpr ⟨(x, c), lookup_mem hc, rfl⟩), R.gens, R.os, fun a ha => ?_⟩
    · have hl' : lget (vars.map fun x => (ps.zip (full vs kvs)).lookup x) k = some v := hl
      rw [lget_map (slot_get hsl)] at hl'
      obtain ⟨val, hm, hr⟩ := zip_rel rfull hl'
      rcases I.psOk x (hpsz _ hm) with hkd | hkd
      · have hkd' : Φ'.env.kindOf x = some .local := hkd
        simp only [hkd']
        exact ⟨val, bindL_of hkd hznd hm, hr⟩
      · have hkd' : Φ'.env.kindOf x = some .cell := hkd
        simp only [hkd']
        obtain ⟨c, hc⟩ := Option.isSome_iff_exists.mp (cellLook (L + 1) x hkd)
        have := ic.cell x c hc
        rw [bindC_of (by rw [show (newEnv fd.scope s.heap.objs.size fd.globals (cellsFrom (s.heap.objs.size + 1) fd.scope.names []) (fd.qualname ++ Str.ofString ".<locals>.") (some f) fd.code none fd.builtins).kindOf x = some .cell from hkd]; decide) hznd hm] at this
        exact ⟨c, val, hc, this, hr⟩
    · obtain ⟨p, hp, rfl⟩ := List.mem_map.mp hc
      exact ⟨_, ic.cell p.1 p.2 (lk hp)⟩
    · obtain ⟨ob, h1, h2⟩ := R.tr.2 i a o e1 e2
      exact ⟨ob, hkeep _ _ h1, h2⟩
    · have cases3 : (L ≤ a) ∨ a ∈ g.tr := by
        rcases List.mem_cons.mp ha with rfl | ha
        · exact .inl (Nat.le_refl _)
        · rcases List.mem_append.mp ha with ha | ha
          · exact .inl (Nat.le_of_lt (aboveC a ha))
          · exact .inr ha
      rcases cases3 with h | h
      · exact ⟨newNone a h, fun p hp e => Nat.lt_irrefl _ (Nat.lt_of_lt_of_le (ltSize (.inr (.inl ⟨p, hp, e⟩))) h), fun p hp => (by cases hp)⟩
      · exact ⟨hideAll_none _ h, (R.muts a (tr_mut h)).2.1, fun p hp => (by cases hp)⟩
    · show (L :: (cells.map (·.2) ++ g.tr)).Nodup
      have trLt : ∀ a ∈ g.tr, a < L := fun a ha => ltSize (.inl (tr_mut ha))
      rw [List.nodup_cons]
      refine ⟨fun h => ?_, List.nodup_append.mpr ⟨?_, (List.nodup_append.mp (show ((Φ.env.locals :: Φ.cw) ++ g.tr).Nodup from R.nodup)).2.1, fun a ha b hb e => ?_⟩⟩
      · rcases List.mem_append.mp h with h | h
        · exact absurd (aboveC L h) (Nat.lt_irrefl _)
        · exact absurd (trLt L h) (Nat.lt_irrefl _)
      · exact List.pairwise_map.mpr ic.apart
      · exact Nat.lt_irrefl _ (Nat.lt_trans (Nat.lt_trans (aboveC a ha) (e ▸ trLt b hb : a < L)) (Nat.lt_of_le_of_ne (Nat.le_refl _) (fun _ => Nat.lt_irrefl _ (Nat.lt_trans (aboveC a ha) (e ▸ trLt b hb : a < L)))))
    · have hkn : Known Φ g a ∧ a ∉ g.tr ∧ ∀ p ∈ g.fz, p.1 ≠ a := by
        rcases List.mem_cons.mp ha with rfl | ha
        · exact ⟨.inl (.head _), tr_not R (.head _), (R.muts _ (.head _)).2.1⟩
        · rcases List.mem_append.mp ha with ha | ha
          · exact ⟨.inl (.tail _ (List.mem_append_left _ ha)), tr_not R (.tail _ ha), (R.muts _ (.tail _ (List.mem_append_left _ ha))).2.1⟩
          · rcases List.mem_append.mp ha with ha | ha
            · obtain ⟨p, hp, rfl⟩ := List.mem_map.mp ha
              exact ⟨.inr (.inr (.inl ⟨p, hp, rfl⟩)), fun q => (R.muts _ (tr_mut q)).2.2 p hp rfl, (R.pinsOk p hp).2⟩
            · obtain ⟨o, ho⟩ := Option.isSome_iff_exists.mp (R.forb a ha).1
              exact ⟨.inr (.inr (.inr (R.forb a ha).1)), h0no a o ho, (R.forb a ha).2⟩
      obtain ⟨o, ho⟩ := R.known hkn.1
      exact ⟨by show ((hideAll s.heap g.tr).get? a).isSome = true; rw [hideAll_get _ ho hkn.2.1]; rfl, hkn.2.2⟩
  refine wpAny_mono (hb Φ' ok' g _ _ _ R' (hspec vs kvs σ.objs Q hn hk hs)) (fun fl s' p => ?_) fun _ _ e => e.elim
  obtain ⟨g₁, fl', σ₁, le, R₁, rf, q⟩ := p
  have RB := EN.back R le R₁
  cases fl' with
  | ret v => simp only [FlR] at rf; obtain ⟨x, rfl, rv'⟩ := rf; exact ⟨g₁, v, σ₁.objs, le, RB, rv', q⟩
  | next => simp only [FlR] at rf; subst rf; exact ⟨g₁, .none, σ₁.objs, le, RB, by simp only [VR], q⟩
  | brk => simp only [FlR] at rf; subst rf; exact ⟨g₁, .none, σ₁.objs, le, RB, by simp only [VR], q⟩
  | cont => simp only [FlR] at rf; subst rf; exact ⟨g₁, .none, σ₁.objs, le, RB, by simp only [VR], q⟩
end Mine

open PySem PySem.W PyProof.Rows PySem.Calls
set_option Elab.async false
set_option maxRecDepth 100000
set_option linter.unusedVariables false

namespace Mine

/-! ## Call expressions -/

def SK (κ : Kap) (ks : List Keyword) (f : W (List V)) : Prop :=
  ∀ Φ, Ctx.Ok κ Φ → ∀ pos g σ s Q, Rel κ Φ g σ s → f Q σ → wpAny (model κ.P.prog Φ.w) Φ.A (evalAll ((backToKw pos (keywordEach ks Φ.env)).map (·.2))) (PEs κ Φ g Q) NoE s

def CalOK (κ : Kap) (fv : Value) (kws : List Str) (f : List V → List V → W V) : Prop :=
  ∀ Φ, Ctx.Ok κ Φ → ∀ g σ s vs xs kvs kxs Q, Rel κ Φ g σ s → VRs g vs xs → VRs g kvs kxs → f vs kvs Q σ → wpAny (model κ.P.prog Φ.w) Φ.A (call fv xs (kws.zip kxs)) (PE κ Φ g Q) NoE s

def Keep (κ : Kap) (fv : Value) : Prop := (∀ a, fv ≠ .ref a) ∨ ∀ q, keepIn (κ.P.K q) fv = true

section
variable {κ : Kap}

theorem rk_nil : SK κ [] (ret []) := fun Φ ok pos g σ s Q R h => wpAny_pure ⟨g, [], σ, .refl g, R, .nil, h⟩
theorem rk_cons {n : Option Str} {e : Expr} {p : Pos} {rest : List Keyword} {f : W V} {h : W (List V)} (he : SE κ e f) (hr : SK κ rest h) : SK κ (⟨n, e, p⟩ :: rest) (bnd f fun v => bnd h fun vs => ret (v :: vs)) := fun Φ ok pos g σ s Q R q => by
  show wpAny _ _ (do
    let v ← (do let v ← eval e Φ.env; standAt pos; pure v)
    return v :: (← holding [v] (evalAll ((backToKw pos (keywordEach rest Φ.env)).map (·.2))))) _ _ s
  refine wpAny_bind (wpAny_bind (wpAny_mono (he Φ ok g σ s _ R q) (fun x s₁ p => wpAny_bind (wpAny_standAt (wpAny_pure ?_))) fun _ _ e => e))
  obtain ⟨g₁, a, σ₁, le₁, R₁, ra, q₁⟩ := p
  refine wpAny_bind (wpAny_holding (wpAny_mono (hr Φ ok pos g₁ σ₁ s₁ _ R₁ q₁) (fun xs s₂ p => wpAny_pure ?_) fun _ _ e => e))
  obtain ⟨g₂, vs, σ₂, le₂, R₂, rv, q₂⟩ := p
  exact ⟨g₂, a :: vs, σ₂, le₁.trans le₂, R₂, .cons (VR.mono le₂ a ra) rv, q₂⟩

def knames (ks : List Keyword) : List Str := ks.filterMap (·.arg)
theorem kw_names {pos : Pos} {env : Env} : ∀ (ks : List Keyword), (backToKw pos (keywordEach ks env)).filterMap (·.1) = knames ks
  | [] => rfl
  | ⟨n, e, p⟩ :: r => by
    show List.filterMap (·.1) ((n, _) :: backToKw pos (keywordEach r env)) = _
    cases n with
    | none => simpa [knames] using kw_names r
    | some n => simpa [knames] using kw_names r
theorem kw_some {pos : Pos} {env : Env} : ∀ (ks : List Keyword), ks.all (·.arg.isSome) = true → (backToKw pos (keywordEach ks env)).all (·.1.isSome) = true ∧ (backToKw pos (keywordEach ks env)).any (·.1.isNone) = false
  | [], _ => ⟨rfl, rfl⟩
  | ⟨n, e, p⟩ :: r, h => by
    simp only [List.all_cons, Bool.and_eq_true] at h
    obtain ⟨h1, h2⟩ := kw_some (pos := pos) (env := env) r h.2
    constructor
    · show List.all ((n, _) :: backToKw pos (keywordEach r env)) _ = true
      simp only [List.all_cons, Bool.and_eq_true]; exact ⟨h.1, h1⟩
    · show List.any ((n, _) :: backToKw pos (keywordEach r env)) _ = false
      simp only [List.any_cons, Bool.or_eq_false_iff]
      exact ⟨by cases n <;> simp_all, h2⟩
def plainArgs (args : List Expr) : Bool := args.all fun e => !isStarred e
theorem star_plain {env : Env} {pos : Pos} : ∀ (args : List Expr), plainArgs args = true → (backTo pos (starEach args env)).any (·.1) = false
  | [], _ => rfl
  | e :: r, h => by
    simp only [plainArgs, List.all_cons, Bool.and_eq_true, Bool.not_eq_true'] at h
    rw [star_cons h.1]
    show ((false || (backTo pos (starEach r env)).any (·.1))) = false
    rw [star_plain r h.2]; rfl

theorem args_sound {Φ : Ctx} (ok : Ctx.Ok κ Φ) {args : List Expr} {ks : List Keyword} {fa fk : W (List V)} (ha : SEs κ args fa) (hk : SK κ ks fk) (hp : plainArgs args = true) (hks : ks.all (·.arg.isSome) = true) {pos : Pos} {f : Value}
    {g : G} {σ : St} {s : Shared} {Q : List V → List V → St → Prop} (R : Rel κ Φ g σ s) (h : fa (fun vs => fk fun kvs => Q vs kvs) σ) :
    wpAny (model κ.P.prog Φ.w) Φ.A (evalArgs f true (backTo pos (starEach args Φ.env)) (backToKw pos (keywordEach ks Φ.env)))
      (fun a s' => ∃ g' vs xs kvs kxs σ', a = ⟨xs, (knames ks).zip kxs⟩ ∧ g.le g' ∧ Rel κ Φ g' σ' s' ∧ VRs g' vs xs ∧ VRs g' kvs kxs ∧ Q vs kvs σ') NoE s := by
  have main : wpAny (model κ.P.prog Φ.w) Φ.A (spliced (backTo pos (starEach args Φ.env))) (fun xs s₁ => wpAny (model κ.P.prog Φ.w) Φ.A (evalAll ((backToKw pos (keywordEach ks Φ.env)).map (·.2)))
      (fun kxs s' => ∃ g' vs kvs σ', g.le g' ∧ Rel κ Φ g' σ' s' ∧ VRs g' vs xs ∧ VRs g' kvs kxs ∧ Q vs kvs σ') NoE s₁) NoE s := by
    refine wpAny_mono (ha Φ ok pos g σ s _ R h) (fun xs s₁ p => ?_) fun _ _ e => e
    obtain ⟨g₁, vs, σ₁, le₁, R₁, rv, q₁⟩ := p
    refine wpAny_mono (hk Φ ok pos g₁ σ₁ s₁ _ R₁ q₁) (fun kxs s₂ p => ?_) fun _ _ e => e
    obtain ⟨g₂, kvs, σ₂, le₂, R₂, rk, q₂⟩ := p
    exact ⟨g₂, vs, kvs, σ₂, le₁.trans le₂, R₂, VRs.mono le₂ vs rv, rk, q₂⟩
  cases args with
  | nil =>
    refine evalArgs_kw_nil (kw_some ks hks).1 ?_
    have m2 : wpAny (model κ.P.prog Φ.w) Φ.A (evalAll ((backToKw pos (keywordEach ks Φ.env)).map (·.2))) (fun kxs s' => ∃ g' vs kvs σ', g.le g' ∧ Rel κ Φ g' σ' s' ∧ VRs g' vs [] ∧ VRs g' kvs kxs ∧ Q vs kvs σ') NoE s := fun Γ p hΓ => (main Γ p hΓ) Γ p hΓ
    refine wpAny_mono m2 (fun kxs s₂ p => ?_) fun _ _ e => e
    obtain ⟨g', vs, kvs, σ', le, R', rv, rk, q⟩ := p
    exact ⟨g', vs, [], kvs, kxs, σ', by rw [kw_names], le, R', rv, rk, q⟩
  | cons e r =>
    simp only [plainArgs, List.all_cons, Bool.and_eq_true, Bool.not_eq_true'] at hp
    rw [star_cons hp.1] at main ⊢
    refine evalArgs_kw (kw_some ks hks).1 (wpAny_mono main (fun xs s₁ p => wpAny_mono p (fun kxs s₂ p => ?_) fun _ _ e => e) fun _ _ e => e)
    obtain ⟨g', vs, kvs, σ', le, R', rv, rk, q⟩ := p
    exact ⟨g', vs, xs, kvs, kxs, σ', by rw [kw_names], le, R', rv, rk, q⟩

theorem keep_looks {Φ : Ctx} (ok : Ctx.Ok κ Φ) {fv : Value} (hf : Keep κ fv) (M : Model) (h : Heap) (hk : KeepsH Φ.h₀ h) : ∃ k, (k = Keeper.frame ∨ k = Keeper.machine ∨ k = Keeper.boundFrame) ∧ Looks M h (keeperOf fv) k := by
  rcases hf with hf | hf
  · refine ⟨.machine, .inr (.inl rfl), ?_⟩
    unfold keeperOf
    split
    · rename_i a; exact absurd rfl (hf a)
    · exact Looks.now
  · exact keeps_K (hf Φ.w.params) h fun a o e => hk a o (ok.KIn a o e)

theorem callWith_sound {Φ : Ctx} (ok : Ctx.Ok κ Φ) {args : List Expr} {ks : List Keyword} {fa fk : W (List V)} {fv : Value} {f : List V → List V → W V} (ha : SEs κ args fa) (hk : SK κ ks fk) (hf : CalOK κ fv (knames ks) f) (hkeep : Keep κ fv)
    (hp : plainArgs args = true) (hks : ks.all (·.arg.isSome) = true) {pos : Pos} {g : G} {σ : St} {s : Shared} {Q : V → St → Prop} {ws : List V} {ys : List Value} (R : Rel κ Φ g σ s) (rw : VRs g ws ys)
    (h : fa (fun vs => fk fun kvs => f (ws ++ vs) kvs Q) σ) :
    wpAny (model κ.P.prog Φ.w) Φ.A (callWith pos fv ys (backTo pos (starEach args Φ.env)) (backToKw pos (keywordEach ks Φ.env))) (PE κ Φ g Q) NoE s := by
  refine callWith_of (P := fun h => KeepsH Φ.h₀ h) (by rw [star_plain args hp, (kw_some ks hks).2]; rfl) (fun h hh => keep_looks ok hkeep _ h hh) ?_
  refine wpAny_mono (args_sound ok ha hk hp hks R h) (fun a s₁ p => ?_) fun _ _ e => e
  obtain ⟨g', vs, xs, kvs, kxs, σ', rfl, le, R', rv, rk, q⟩ := p
  exact ⟨R'.keep, wPE le (hf Φ ok g' σ' s₁ _ _ _ _ Q R' ((VRs.mono le ws rw).append rv) rk q)⟩

/-- a call of a global name -/
theorem r_Call {x : Str} {p pos : Pos} {args : List Expr} {ks : List Keyword} {fa fk : W (List V)} {fv : Value} {f : List V → List V → W V} (hx : gbl κ x fv = true) (ha : SEs κ args fa) (hk : SK κ ks fk) (hf : CalOK κ fv (knames ks) f) (hkeep : Keep κ fv)
    (hp : plainArgs args = true := by rfl) (hks : ks.all (·.arg.isSome) = true := by rfl) : SE κ (.Call (.Name x p) args ks pos) (bnd fa fun vs => bnd fk fun kvs => f vs kvs) := fun Φ ok g σ s Q R q => by
  refine wpAny_Call_Name_kw (wpAny_mono (r_Glob (pos := p) hx Φ ok g σ s (fun v σ' => v = .glob fv ∧ σ' = σ) R ⟨rfl, rfl⟩) (fun y s₁ h => ?_) fun _ _ e => e)
  obtain ⟨g₁, a, σ₁, le₁, R₁, ra, rfl, rfl⟩ := h
  simp only [VR] at ra
  subst ra
  exact wPE le₁ (callWith_sound ok ha hk hf hkeep hp hks R₁ .nil q)

/-- a def's word as a callee's -/
def fnW (n m : Nat) (spec : Spec) (vs kvs : List V) : W V := fun Q σ => vs.length = n ∧ kvs.length = m ∧ spec vs kvs σ.objs fun v objs' => Q v { σ with objs := objs' }
theorem cal_fn {f : Addr} {D n : Nat} {kws : List Str} {spec : Spec} (hf : FnOK κ.P D f n kws spec) (hD : D < κ.D) : CalOK κ (.ref f) kws (fnW n kws.length spec) := fun Φ ok g σ s vs xs kvs kxs Q R rv rk q => by
  obtain ⟨h1, h2, h3⟩ := q
  refine wpAny_call (codeAny_mono (hf κ Φ Φ.A rfl hD ok ok.handled (by omega) (by omega) g σ s vs xs kvs kxs _ R rv rk h1 h2 h3) fun r s' p => ?_)
  cases r with
  | error e => exact p.elim
  | ok fl =>
    cases fl with
    | ret x => obtain ⟨g', v, objs', le, R', rv', q'⟩ := p; exact ⟨g', v, _, le, R', rv', q'⟩
    | next => exact p.elim
    | brk => exact p.elim
    | cont => exact p.elim
end
end Mine

open PySem PySem.W PyProof.Rows PySem.Calls
set_option Elab.async false
set_option maxRecDepth 100000
set_option linter.unusedVariables false

namespace Mine

/-! ## Method calls -/

def MethOK (κ : Kap) (name : Str) (fv : Value) (gd : V → St → Prop) : Prop :=
  ∀ Φ, Ctx.Ok κ Φ → ∀ g σ s v x (pl : Sem Bool) (Q : Value × List Value → Shared → Prop), Rel κ Φ g σ s → VR g v x → gd v σ → Q (fv, [x]) s → wpAny (model κ.P.prog Φ.w) Φ.A (getMethod x name pl) Q NoE s

def gdW {α : Type} (p : St → Prop) (f : W α) : W α := fun Q σ => p σ ∧ f Q σ

section
variable {κ : Kap}

theorem r_Meth {o : Expr} {name : Str} {apos pos : Pos} {args : List Expr} {ks : List Keyword} {fo : W V} {fa fk : W (List V)} {fv : Value} {gd : V → St → Prop} {f : List V → List V → W V}
    (ho : SE κ o fo) (hm : MethOK κ name fv gd) (ha : SEs κ args fa) (hk : SK κ ks fk) (hf : CalOK κ fv (knames ks) f) (hkeep : Keep κ fv)
    (hbase : ∀ env whole, attributeBase o name env whole = whole := by intro _ _; rfl) (hline : (apos.endLine == pos.line) = true := by rfl)
    (hp : plainArgs args = true := by rfl) (hks : ks.all (·.arg.isSome) = true := by rfl) (hn : decide (args.length + ks.length + (if ks.isEmpty then 0 else 1) < 30) = true := by rfl) :
    SE κ (.Call (.Attribute o name apos) args ks pos) (bnd fo fun v => gdW (gd v) (bnd fa fun vs => bnd fk fun kvs => f (v :: vs) kvs)) := fun Φ ok g σ s Q R q => by
  rw [arm_eval_Call, hbase]
  refine wpAny_bind (wpAny_mono (ho Φ ok g σ s _ R q) (fun x s₁ p => ?_) fun _ _ e => e)
  obtain ⟨g₁, v, σ₁, le₁, R₁, rv, hg, q₁⟩ := p
  refine wpAny_bind (wpAny_standAt ?_)
  have hform : methodCallForm (args.length + ks.length) (backTo pos (starEach args Φ.env)) (backToKw pos (keywordEach ks Φ.env)) = true := by
    unfold methodCallForm
    have h1 : (backTo pos (starEach args Φ.env)).all (!·.1) = true := by
      have := star_plain (env := Φ.env) (pos := pos) args hp
      rw [List.any_eq_false] at this
      rw [List.all_eq_true]
      intro z hz
      have := this z hz
      simpa using this
    have h2 : (backToKw pos (keywordEach ks Φ.env)).isEmpty = ks.isEmpty := by
      cases ks with
      | nil => rfl
      | cons k r => obtain ⟨a, b, c⟩ := k; rfl
    rw [h1, (kw_some ks hks).1, h2]
    simpa using of_decide_eq_true hn
  have hpos : methodCallPos true o Φ.env apos pos = pure pos := by unfold methodCallPos; simp [hline]
  unfold methodCall
  rw [hform]
  refine wpAny_bind (wpAny_holding (hm Φ ok g₁ σ₁ s₁ v x _ _ R₁ rv hg ?_))
  refine wpAny_bind (wpAny_of_eq hpos ?_)
  exact wPE le₁ (callWith_sound ok ha hk hf hkeep hp hks R₁ (.one rv) q₁)

/-! ### the methods of built-in types -/
def isStr (v : V) (_ : St) : Prop := match v with
  | .str _ => True
  | _ => False
def isLst (v : V) (σ : St) : Prop := (seqOf σ.objs v).isSome = true

theorem meth_str {name : Str} {id : String} (sl : Slot "str" name id) (ty : typeOf (.builtin id) = pure (.type "method_descriptor")) : MethOK κ name (.builtin id) isStr := fun Φ ok g σ s v x pl Q R rv hg q => by
  unfold isStr at hg
  split at hg
  · simp only [VR] at rv
    obtain ⟨t, rfl⟩ := rv
    exact getMethod_builtin (typeIs_str _ _ _) F.plainAttrs_str sl ty (fun a e => by cases e) q
  · exact hg.elim
theorem meth_lst {name : Str} {id : String} (sl : Slot "list" name id) (ty : typeOf (.builtin id) = pure (.type "method_descriptor")) : MethOK κ name (.builtin id) isLst := fun Φ ok g σ s v x pl Q R rv hg q => by
  obtain ⟨l, hl⟩ := Option.isSome_iff_exists.mp hg
  obtain ⟨a, xs, n, rfl, h1, h2⟩ := R.seq_at rv hl
  exact getMethod_builtin ⟨_, h1, rfl⟩ F.plainAttrs_list sl ty (fun b e => by cases e; exact ⟨_, h1, rfl⟩) q

theorem keep_builtin {id : String} : Keep κ (.builtin id) := .inl fun _ e => by cases e
theorem keep_type {t : String} : Keep κ (.type t) := .inl fun _ e => by cases e

def strFn (f : Str → Str) (vs kvs : List V) : W V := fun Q σ => match vs with
  | [.str x] => x.length ≤ 5592405 ∧ Q (.str (f x)) σ
  | _ => False
theorem vrs_nil_of {g : G} {xs : List Value} (h : VRs g [] xs) : xs = [] := by simpa only [VRs] using h
theorem cal_lower : CalOK κ (.builtin "str.lower") [] (strFn Txt.lower) := fun Φ ok g σ s vs xs kvs kxs Q R rv rk q => by
  unfold strFn at q
  split at q
  · simp only [VRs, VR] at rv
    obtain ⟨_, _, rfl, ⟨t, rfl⟩, rfl⟩ := rv
    exact SCL.lower q.1 fun _ => .here (R.tok _) (v := .str _) (by simp only [VR]; exact ⟨_, rfl⟩) q.2
  · exact q.elim
theorem cal_upper : CalOK κ (.builtin "str.upper") [] (strFn Txt.upper) := fun Φ ok g σ s vs xs kvs kxs Q R rv rk q => by
  unfold strFn at q
  split at q
  · simp only [VRs, VR] at rv
    obtain ⟨_, _, rfl, ⟨t, rfl⟩, rfl⟩ := rv
    exact SCL.upper q.1 fun _ => .here (R.tok _) (v := .str _) (by simp only [VR]; exact ⟨_, rfl⟩) q.2
  · exact q.elim
theorem cal_swapcase : CalOK κ (.builtin "str.swapcase") [] (strFn Txt.swapcase) := fun Φ ok g σ s vs xs kvs kxs Q R rv rk q => by
  unfold strFn at q
  split at q
  · simp only [VRs, VR] at rv
    obtain ⟨_, _, rfl, ⟨t, rfl⟩, rfl⟩ := rv
    exact SCL.swapcase q.1 fun _ => .here (R.tok _) (v := .str _) (by simp only [VR]; exact ⟨_, rfl⟩) q.2
  · exact q.elim

theorem mapSeq_listO (f : Array Value → Array Value) (xs ys : List Value) (n : Nat) (h : f xs.toArray = ys.toArray) : ∃ n', (listO xs n).mapSeq f = listO ys n' := by
  refine ⟨if (f xs.toArray).size == xs.toArray.size then n else n + 1, ?_⟩
  show (⟨.type "list", none, .seq (f xs.toArray) (if (f xs.toArray).size == xs.toArray.size then n else n + 1), #[]⟩ : Obj) = ⟨.type "list", none, .seq ys.toArray _, #[]⟩
  rw [h]

/-! ### list.append -/
def appendA (vs kvs : List V) : W V := fun Q σ => match vs with
  | [.ref i, v] => (match lstAt σ.objs i with
    | some l => l.length ≤ sizeLine ∧ Q .none { σ with objs := σ.objs.set i (.list (l ++ [v])) }
    | none => False)
  | _ => False
theorem cal_append : CalOK κ (.builtin "list.append") [] appendA := fun Φ ok g σ s vs xs kvs kxs Q R rv rk q => by
  unfold appendA at q
  split at q
  · rename_i i v
    split at q
    · rename_i l hl
      simp only [VRs] at rv
      obtain ⟨x, _, rfl, ri, y, _, rfl, ry, rfl⟩ := rv
      obtain ⟨a, xs, n, rfl, hi, h1, h2⟩ := R.ref_at ri hl
      refine wpAny_call_entry slot_list_append (isList_of h1).typeIs entry_list_append ?_ (args_list_append _ _)
      show wpAny _ _ (updateSeq a (·.push y) >>= fun _ => PySem.ret .none) _ _ s
      obtain ⟨n', e⟩ := mapSeq_listO (·.push y) xs (xs ++ [y]) n (by simp)
      refine wpAny_bind (wpAny_updateSeq h1 rfl (wpAny_pure ⟨.none, rfl, ?_⟩) (hz := by have := h2.length; have := q.1; simp; omega) (_hz' := by have := h2.length; have := q.1; simp; omega))
      have h3 := Heap.get?_update_self (h := s.heap) (Obj.mapSeq (·.push y)) h1 (by rw [e]; rfl)
      rw [e] at h3
      have R' := R.turn (o := .list (l ++ [v])) (tk := s.toks) hi h3 ⟨xs ++ [y], _, rfl, h2.append (.one ry)⟩ fun b o hb e => (Heap.get?_update_other _ _ (Ne.symm hb)).trans e
      exact ⟨g, .none, _, .refl g, R', by simp only [VR], q.2⟩
    · exact q.elim
  · exact q.elim
end
end Mine

open PySem PySem.W PyProof.Rows PySem.Calls
set_option Elab.async false
set_option maxRecDepth 100000
set_option linter.unusedVariables false

namespace Mine

/-! ## Instances of the text's class -/

section
variable {κ : Kap} {Φ : Ctx} {g : G} {σ : St} {s : Shared}

/-- the ledger with one tracked object at its head -/
theorem Rel.ledger2 (R : Rel κ Φ g σ s) (above : Φ.h₀.objs.size ≤ Φ.env.locals) {i : Nat} {a : Addr} {ob : Obj} (hi : g.tr[i]? = some a) (ha : s.heap.get? a = some ob) :
    ∃ m rest, Fr Φ.h₀ Φ.env.locals s.heap m ∧ News Φ.h₀ Φ.env.locals s.heap ((a, ob) :: rest) ∧ (∀ p ∈ rest, p.1 ≠ a) ∧
      ∀ h' tk ob' o', Fr Φ.h₀ Φ.env.locals h' m → News Φ.h₀ Φ.env.locals h' ((a, ob') :: rest) → OR Φ.w.params g o' ob' → Rel κ Φ g { σ with objs := σ.objs.set i o' } { s with heap := h', toks := tk } := by
  obtain ⟨m, hm, lr⟩ := R.ns
  have hmem : a ∈ Φ.muts g := tr_mut (List.mem_of_getElem? hi)
  have hMa := R.muts a hmem
  have nd := R.nodup
  have hneA : ∀ b, b ∈ Φ.env.locals :: Φ.cw → b ≠ a := fun b hb e => tr_not R hb (e ▸ List.mem_of_getElem? hi)
  let as : List Addr := Φ.cw ++ (g.fz.map (·.1) ++ (Φ.pins.map (·.1) ++ g.tr))
  let rest : List (Addr × Obj) := as.filterMap fun b => match s.heap.get? b with
    | some o => if (Φ.h₀.get? b).isNone && b != Φ.env.locals && b != a then some (b, o) else none
    | none => none
  have hin : ∀ b o, b ∈ as → b ≠ Φ.env.locals → b ≠ a → s.heap.get? b = some o → (b, o) ∈ rest ∨ Φ.h₀.get? b = some o := fun b o hb hne hna ho => by
    cases q : Φ.h₀.get? b with
    | some o' => exact .inr (by rw [R.keep b o' q] at ho; exact ho)
    | none => exact .inl (List.mem_filterMap.mpr ⟨b, hb, by simp [ho, q, hne, hna]⟩)
  have hN : ∀ p ∈ rest, (s.heap.get? p.1 = some p.2 ∧ p.1 ≠ Φ.env.locals ∧ Φ.h₀.get? p.1 = none) ∧ p.1 ≠ a := fun p hp => by
    obtain ⟨b, hb, e⟩ := List.mem_filterMap.mp hp
    split at e
    · rename_i o ho
      split at e
      · rename_i c
        cases e
        simp only [Bool.and_eq_true, Option.isNone_iff_eq_none, bne_iff_ne] at c
        exact ⟨⟨ho, c.1.2, c.1.1⟩, c.2⟩
      · cases e
    · cases e
  refine ⟨m, rest, ⟨hm, R.keep, above⟩, fun p hp => ?_, fun p hp => (hN p hp).2, fun h' tk ob' o' F N ho' => ?_⟩
  · rcases List.mem_cons.mp hp with rfl | hp
    · exact ⟨ha, fun e => hneA _ (.head _) e.symm, hMa.1⟩
    · exact (hN p hp).1
  have hk : ∀ b o, b ≠ Φ.env.locals → b ≠ a → Known Φ g b → s.heap.get? b = some o → h'.get? b = some o := fun b o hb hba k ho => by
    have hb' : b ∈ as ∨ Φ.h₀.get? b = some o := by
      rcases k with k | ⟨p, hp, rfl⟩ | ⟨p, hp, rfl⟩ | k
      · rcases List.mem_cons.mp k with k | k
        · exact absurd k hb
        · rcases List.mem_append.mp k with k | k
          · exact .inl (List.mem_append_left _ k)
          · exact .inl (List.mem_append_right _ (List.mem_append_right _ (List.mem_append_right _ k)))
      · exact .inl (List.mem_append_right _ (List.mem_append_left _ (List.mem_map_of_mem hp)))
      · exact .inl (List.mem_append_right _ (List.mem_append_right _ (List.mem_append_left _ (List.mem_map_of_mem hp))))
      · obtain ⟨o'', ho''⟩ := Option.isSome_iff_exists.mp k
        have := R.keep b o'' ho''
        rw [ho] at this; cases this
        exact .inr ho''
    rcases hb' with hb' | hb'
    · rcases hin b o hb' hb hba ho with q | q
      · exact (N _ (.tail _ q)).1
      · exact F.keep b o q
    · exact F.keep b o hb'
  have nd1 := List.nodup_cons.mp (show (Φ.env.locals :: (Φ.cw ++ g.tr)).Nodup from R.nodup)
  have hL := R.muts Φ.env.locals (.head _)
  have hil : i < g.tr.length := (List.getElem?_eq_some_iff.mp hi).1
  refine ⟨⟨m, F.ns, fun x k v hs hl => ?_⟩, fun c hc => ?_, F.keep, fun p hp => hk _ _ (hL.2.1 p hp) (hMa.2.1 p hp) (.inr (.inl ⟨p, hp, rfl⟩)) (R.fz p hp), fun p hp => hk _ _ (hL.2.2 p hp) (hMa.2.2 p hp) (.inr (.inr (.inl ⟨p, hp, rfl⟩))) (R.pins p hp),
    ⟨by simp [R.tr.1], fun j b o e1 e2 => ?_⟩, R.muts, R.nodup, R.pinsOk, R.cellsOk, R.gens, R.os, R.forb⟩
  · have := lr x k v hs hl
    split at this
    · exact this
    · rename_i hc
      obtain ⟨c, val, h1, ⟨oc, hoc, hd⟩, h3⟩ := this
      refine ⟨c, val, h1, ⟨oc, ?_, hd⟩, h3⟩
      rcases R.cellsOk x c hc h1 with h | h
      · exact hk _ _ (fun e => nd1.1 (e ▸ List.mem_append_left _ h)) (hneA c (.tail _ h)) (.inl (.tail _ (List.mem_append_left _ h))) hoc
      · exact hk _ _ (fun e => by rw [e, hL.1] at h; cases h) (fun e => by rw [e, hMa.1] at h; cases h) (.inr (.inr (.inr h))) hoc
    · trivial
  · obtain ⟨v, oc, hoc, hd⟩ := R.cells c hc
    exact ⟨v, oc, hk _ _ (fun e => nd1.1 (e ▸ List.mem_append_left _ hc)) (hneA c (.tail _ hc)) (.inl (.tail _ (List.mem_append_left _ hc))) hoc, hd⟩
  · by_cases hj : j = i
    · subst hj
      rw [hi] at e1; cases e1
      rw [List.getElem?_set_self (by rw [← R.tr.1]; exact hil)] at e2
      cases e2
      exact ⟨ob', (N _ (.head _)).1, ho'⟩
    · rw [List.getElem?_set_ne (Ne.symm hj)] at e2
      obtain ⟨ob2, h2, h3⟩ := R.tr.2 j b o e1 e2
      have hm := List.mem_of_getElem? e1
      refine ⟨ob2, hk _ _ (fun e => nd1.1 (e ▸ List.mem_append_right _ hm)) (fun q => hj ?_) (.inl (tr_mut hm)) h2, h3⟩
      subst q
      exact (List.getElem?_inj (List.getElem?_eq_some_iff.mp e1).1 (List.nodup_append.mp (show ((Φ.env.locals :: Φ.cw) ++ g.tr).Nodup from nd)).2.1).mp (e1.trans hi.symm)

/-- an instance in the heap -/
theorem Rel.inst_at (R : Rel κ Φ g σ s) {c i : Nat} {x : Value} (h : VR g (.inst c i) x) {l : List (Str × V)} (hl : σ.objs[i]? = some (.attrs l)) :
    ∃ a dx sl es n, x = .ref a ∧ g.tr[i]? = some dx ∧ s.heap.get? dx = some (dictOf es n) ∧ AR Φ.w.params g l es ∧ InstAt s.heap a (instO c dx sl) c (some (dictOf es n)) ∧ n = l.length := by
  simp only [VR] at h
  obtain ⟨a, dx, sl, e, hi, hf⟩ := h
  obtain ⟨ob, h1, h2⟩ := R.tr.2 i dx _ hi hl
  obtain ⟨es, n, rfl, hn, ha⟩ := h2
  exact ⟨a, dx, sl, es, n, e, hi, h1, ha, ⟨R.fz _ hf, rfl, rfl, h1⟩, hn⟩

theorem AR.find {P : Params} {l : List (Str × V)} {es : List DictEntry} (h : AR P g l es) (x : Str) :
    (∀ v, l.lookup x = some v → ∃ val, getL x es = some (some val) ∧ VR g v val) ∧ (l.lookup x = none → getL x es = some none) := by
  have key : ∀ (l : List (Str × V)) (es : List DictEntry), AR P g l es → (∀ v, l.lookup x = some v → ∃ e, es.find? (·.key.isStr x) = some e ∧ VR g v e.val) ∧ (l.lookup x = none → es.find? (·.key.isStr x) = none ∧ es.any (·.refKey) = false) := by
    intro l
    induction l with
    | nil =>
      intro es h
      have : es = [] := List.eq_nil_of_length_eq_zero h.1
      subst this
      exact ⟨fun v e => (by cases e), fun _ => ⟨rfl, rfl⟩⟩
    | cons p l ih =>
      intro es h
      obtain ⟨k, u⟩ := p
      cases es with
      | nil => have := h.1; simp at this
      | cons e es =>
        obtain ⟨⟨t, hk⟩, _, hv⟩ := h.2 0 k u e rfl rfl
        have hr : AR P g l es := ⟨by have := h.1; simpa using this, fun i k v e a b => h.2 (i + 1) k v e (by simpa using a) (by simpa using b)⟩
        obtain ⟨i1, i2⟩ := ih es hr
        have hks : e.key.isStr x = (k == x) := by rw [hk]; rfl
        rw [List.lookup_cons]
        constructor
        · intro v hv'
          split at hv'
          · rename_i q
            cases hv'
            refine ⟨e, ?_, hv⟩
            rw [List.find?_cons, hks, beq_iff_eq.mp q]; simp
          · rename_i q
            obtain ⟨e', h1, h2⟩ := i1 v hv'
            refine ⟨e', ?_, h2⟩
            rw [List.find?_cons, hks]
            have : (k == x) = false := by
              cases z : k == x with
              | false => rfl
              | true => rw [beq_iff_eq.mp z] at q; simp at q
            rw [this]; exact h1
        · intro hn
          split at hn
          · cases hn
          · rename_i q
            obtain ⟨h1, h2⟩ := i2 hn
            have : (k == x) = false := by
              cases z : k == x with
              | false => rfl
              | true => rw [beq_iff_eq.mp z] at q; simp at q
            refine ⟨by rw [List.find?_cons, hks, this]; exact h1, ?_⟩
            rw [List.any_cons, h2]
            show (DictEntry.refKey e || false) = false
            unfold DictEntry.refKey; rw [hk]; rfl
  obtain ⟨k1, k2⟩ := key l es h
  constructor
  · intro v hv
    obtain ⟨e, h1, h2⟩ := k1 v hv
    exact ⟨e.val, by unfold getL; rw [h1], h2⟩
  · intro hn
    obtain ⟨h1, h2⟩ := k2 hn
    unfold getL; rw [h1, h2]; rfl
end

def handed : V → Bool
  | .glob v => handedIn v
  | _ => true
theorem handed_of {g : G} {v : V} {x : Value} (h : VR g v x) (hh : handed v = true) : handedIn x = true := by
  cases v <;> simp only [VR] at h
  · subst h; rfl
  · subst h; rfl
  · obtain ⟨_, rfl⟩ := h; rfl
  · obtain ⟨_, rfl⟩ := h; rfl
  · obtain ⟨_, _, _, rfl, _⟩ := h; rfl
  · obtain ⟨_, _, _, rfl, _⟩ := h; rfl
  · obtain ⟨_, rfl, _⟩ := h; rfl
  · obtain ⟨_, _, _, rfl, _⟩ := h; rfl
  · subst h; exact hh
  · obtain ⟨_, rfl, _⟩ := h; rfl
  · obtain ⟨_, rfl, _⟩ := h; rfl

def attrA (C : Nat) (x : Str) (v : V) : W V := fun Q σ => match v with
  | .inst c i => c = C ∧ (match attrAt σ.objs i x with
    | some u => handed u = true ∧ Q u σ
    | none => False)
  | _ => False
theorem attrAt_some {objs : List O} {i : Nat} {x : Str} {u : V} (h : attrAt objs i x = some u) : ∃ l, objs[i]? = some (.attrs l) ∧ l.lookup x = some u := by
  unfold attrAt at h
  split at h
  · rename_i l e; exact ⟨l, e, h⟩
  · cases h

/-- static facts of an attribute that the instance holds -/
structure AttrIs (P : Prg) (C : Nat) (x : Str) : Prop where
  plain : ∀ q, plainGet (P.K q) C x = true
  hasD : ∀ q, hasDictIn (P.K q) C = true
  none_ : ∀ q, findIn (P.K q) (.ref C) x = some none

section
variable {κ : Kap}

theorem r_Attr {o : Expr} {x : Str} {pos : Pos} {C : Nat} {f : W V} (ho : SE κ o f) (A : AttrIs κ.P C x) (hbase : ∀ env whole, attributeBase o x env whole = whole := by intro _ _; rfl) :
    SE κ (.Attribute o x pos) (bnd f fun v => attrA C x v) := fun Φ ok g σ s Q R q => by
  rw [arm_eval_Attribute, hbase]
  refine wpAny_bind (wpAny_mono (ho Φ ok g σ s _ R q) (fun y s₁ p => ?_) fun _ _ e => e)
  obtain ⟨g₁, v, σ₁, le₁, R₁, rv, q₁⟩ := p
  have q₁ : attrA C x v Q σ₁ := q₁
  unfold attrA at q₁
  split at q₁
  · rename_i c i
    obtain ⟨rfl, q₁⟩ := q₁
    split at q₁
    · rename_i u hu
      obtain ⟨l, hl, hlu⟩ := attrAt_some hu
      obtain ⟨a, dx, sl, es, n, rfl, hi, hd, ha, I, _⟩ := R₁.inst_at rv hl
      obtain ⟨val, h1, h2⟩ := (ha.find x).1 u hlu
      obtain ⟨m, news, F, N, back⟩ := R₁.ledger ok.above
      refine wpAny_bind (wpAny_standAt (wpAny_bind (wpAny_holding (get_own F ok.KIn I (A.plain _) (A.hasD _) (A.none_ _) rfl h1 (handed_of h2 q₁.1) ?_))))
      refine wpAny_bind (wpAny_letTemporaryGo (wpAny_pure ?_))
      exact ⟨g₁, u, σ₁, le₁, R₁.tok _, h2, q₁.2⟩
    · exact q₁.elim
  · exact q₁.elim

/-- static facts of a method of the class -/
structure MethIs (P : Prg) (C : Nat) (x : Str) (f : Addr) : Prop where
  plain : ∀ q, plainGet (P.K q) C x = true
  find : ∀ q, findIn (P.K q) (.ref C) x = some (some (.ref f))
  fn : ∀ q, isFn (P.K q) (.ref f) = true

def isInst (C : Nat) (x : Str) (v : V) (σ : St) : Prop := match v with
  | .inst c i => c = C ∧ ∃ l, σ.objs[i]? = some (.attrs l) ∧ l.lookup x = none
  | _ => False
theorem meth_inst {C : Nat} {x : Str} {f : Addr} (M : MethIs κ.P C x f) : MethOK κ x (.ref f) (isInst C x) := fun Φ ok g σ s v y pl Q R rv hg q => by
  unfold isInst at hg
  split at hg
  · obtain ⟨rfl, l, hl, hn⟩ := hg
    obtain ⟨a, dx, sl, es, n, rfl, hi, hd, ha, I, _⟩ := R.inst_at rv hl
    obtain ⟨m, news, F, N, back⟩ := R.ledger ok.above
    exact method_inst F ok.KIn I (M.plain _) (M.find _) (M.fn _) ((ha.find x).2 hn) q
  · exact hg.elim
end
end Mine

open PySem PySem.W PyProof.Rows PySem.Calls
set_option Elab.async false
set_option maxRecDepth 100000
set_option linter.unusedVariables false

namespace Mine

section
variable {κ : Kap}

def PEo (κ : Kap) (Φ : Ctx) (g : G) (σ : St) (Q : V → List O → Prop) (x : Value) (s' : Shared) : Prop := ∃ g' v objs', g.le g' ∧ Rel κ Φ g' { σ with objs := objs' } s' ∧ VR g' v x ∧ Q v objs'

theorem fn_call {f : Addr} {D n : Nat} {kws : List Str} {spec : Spec} (hf : FnOK κ.P D f n kws spec) (hD : D < κ.D) {Φ : Ctx} (ok : Ctx.Ok κ Φ) {A : Around} (hA : A.handled = none) (hd : A.depth ≤ Φ.A.depth + 1) (hu : A.units ≤ Φ.A.units + 10)
    {g : G} {σ : St} {s : Shared} {vs kvs : List V} {xs kxs : List Value} {Q : V → List O → Prop} (R : Rel κ Φ g σ s) (rv : VRs g vs xs) (rk : VRs g kvs kxs) (h1 : vs.length = n) (h2 : kvs.length = kws.length) (h3 : spec vs kvs σ.objs Q) :
    wpAny (model κ.P.prog Φ.w) A (call (.ref f) xs (kws.zip kxs)) (PEo κ Φ g σ Q) NoE s := by
  refine wpAny_call (codeAny_mono (hf κ Φ A rfl hD ok hA hd hu g σ s vs xs kvs kxs _ R rv rk h1 h2 h3) fun r s' p => ?_)
  cases r with
  | error e => exact p.elim
  | ok fl =>
    cases fl with
    | ret x => exact p
    | next => exact p.elim
    | brk => exact p.elim
    | cont => exact p.elim

/-! ### self.x = v -/
structure SetIs (P : Prg) (C : Nat) (x : Str) : Prop where
  set_ : ∀ q, findIn (P.K q) (.ref C) "__setattr__" = some (some (.builtin "object.__setattr__"))
  over : ∀ q, plainOver (P.K q) C = true
  taker : ∀ q, takerIn (P.K q) C x = some none
  hasD : ∀ q, hasDictIn (P.K q) C = true
/-- the first attribute of a new instance -/
def setAttrA (C : Nat) (x : Str) (v o : V) : W Unit := fun Q σ => match o with
  | .inst c i => c = C ∧ σ.objs[i]? = some (.attrs []) ∧ Q () { σ with objs := σ.objs.set i (.attrs [(x, v)]) }
  | _ => False
theorem setattr_sound {Φ : Ctx} (ok : Ctx.Ok κ Φ) {C : Nat} {x : Str} (S : SetIs κ.P C x) {g : G} {σ : St} {s : Shared} {v o : V} {y z : Value} {Q : Unit → St → Prop} (R : Rel κ Φ g σ s) (rv : VR g v y) (ro : VR g o z) (q : setAttrA C x v o Q σ) :
    wpAny (model κ.P.prog Φ.w) Φ.A (setAttr z x y) (PU κ Φ g Q) NoE s := by
  unfold setAttrA at q
  split at q
  · obtain ⟨rfl, hl, q⟩ := q
    rename_i c i
    obtain ⟨a, dx, sl, es, n, rfl, hi, hd, ha, I, hn⟩ := R.inst_at ro hl
    have hes : es = [] := List.eq_nil_of_length_eq_zero ha.1
    subst hes
    obtain ⟨m, rest, F, N, hne, back⟩ := R.ledger2 ok.above hi hd
    refine set_dict F ok.KIn N I rfl (S.set_ _) (S.over _) (S.taker _) (S.hasD _) (n' := n + 1) rfl rfl (.head hne) (by simp [putL]) fun h' F' N' => ?_
    have R' := back h' (s.toks + 2) _ (.attrs [(x, v)]) F' N' ⟨_, _, rfl, by rw [hn]; rfl, rfl, fun i' k u e e1 e2 => ?_⟩
    · exact ⟨g, _, .refl g, R', q⟩
    · cases i' with
      | zero =>
        simp [putL] at e1 e2
        obtain ⟨rfl, rfl⟩ := e1
        subst e2
        exact ⟨⟨_, rfl⟩, rfl, rv⟩
      | succ j => simp at e1
  · exact q.elim
theorem s_AssignT {t e : Expr} {pos : Pos} {f : W V} {fa : V → W Unit} (he : SE κ e f) (ht : SA κ t fa) (hs : ∀ env, swapsWith e (some t) pos.line env = pure false := by intro _; rfl)
    (hw : ∀ env, swappedStores [t] e env = pure none := by intro _; rfl) (hst : isStarred t = false := by rfl) : SS κ (.Assign [t] e pos) (bnd f fun v => bnd (fa v) fun _ => ret .next) := fun Φ ok g σ s Q R q => by
  refine wpAny_Assign_stores (wpAny_mono (he Φ ok g σ s _ R q) (fun y s₁ p => ?_) fun _ _ e => e) (hs _) (hw _)
  obtain ⟨g₁, a, σ₁, le₁, R₁, ra, q₁⟩ := p
  have e : (assignEach [t] Φ.env).map (·.2) = [assign t Φ.env] := by cases t <;> first | rfl | cases hst
  rw [e]
  refine wpAny_mono (ht Φ ok g₁ σ₁ s₁ _ a y R₁ ra q₁) (fun _ s₂ p => ?_) fun _ _ e => e
  obtain ⟨g₂, σ₂, le₂, R₂, q₂⟩ := p
  exact ⟨g₂, .next, σ₂, le₁.trans le₂, R₂, by simp only [FlR], q₂⟩
theorem a_Attr {o : Expr} {x : Str} {p : Pos} {C : Nat} {h : W V} (ho : SE κ o h) (S : SetIs κ.P C x) : SA κ (.Attribute o x p) (fun v => bnd h fun ov => setAttrA C x v ov) := fun Φ ok g σ s Q v y R rv q => by
  rw [arm_assign_Attribute]
  refine wpAny_bind (wpAny_holding (wpAny_mono (ho Φ ok g σ s _ R q) (fun z s₂ p => ?_) fun _ _ e => e))
  obtain ⟨g₂, b, σ₂, le₂, R₂, rb, q₂⟩ := p
  refine wpAny_bind (wpAny_standAt (wpAny_bind (wpAny_holding (wpAny_mono (setattr_sound ok S R₂ (VR.mono le₂ v rv) rb q₂) (fun _ s₃ p => ?_) fun _ _ e => e))))
  obtain ⟨g₃, σ₃, le₃, R₃, q₃⟩ := p
  exact wpAny_release ⟨g₃, σ₃, le₂.trans le₃, R₃, q₃⟩

/-! ### C(..) -/
structure ClsIs (P : Prg) (C fI : Nat) : Prop where
  makes : ∀ q, makesIn (P.K q) C = true
  init : ∀ q, findIn (P.K q) (.ref C) "__init__" = some (some (.ref fI))
  fn : ∀ q, typeIn (P.K q) (.ref fI) = some (.type "function")
  keep : ∀ q, keepIn (P.K q) (.ref C) = true
def newW (C : Nat) (n m : Nat) (spec : Spec) (vs kvs : List V) : W V := fun Q σ => vs.length + 1 = n ∧ kvs.length = m ∧
  spec (.inst C σ.objs.length :: vs) kvs (σ.objs ++ [.attrs []]) fun v objs' => v = .none ∧ Q (.inst C σ.objs.length) { σ with objs := objs' }
theorem cal_class {C fI : Nat} {D n : Nat} {kws : List Str} {spec : Spec} (I : ClsIs κ.P C fI) (hf : FnOK κ.P D fI n kws spec) (hD : D < κ.D) : CalOK κ (.ref C) kws (newW C n kws.length spec) := fun Φ ok g σ s vs xs kvs kxs Q R rv rk q => by
  obtain ⟨h1, h2, h3⟩ := q
  have X : (κ.P.K Φ.w.params).In s.heap := fun a o e => R.keep a o (ok.KIn a o e)
  obtain ⟨m, news, F, N, back, kn⟩ := R.ledgerK ok.above
  refine wpAny_call (make_K F N X (I.makes _) (I.init _) (I.fn _) fun x dx h' F' N' hlt hxd => ?_)
  have R1 : Rel κ Φ g σ { s with heap := h' } := back h' s.toks F' fun p hp => N' p (.tail _ (.tail _ hp))
  have hold : ∀ b, Known Φ g b → b ≠ dx ∧ b ≠ x := by
    intro b kb
    have n1 := N' _ (.tail _ (.head _))
    have n2 := N' _ (.head _)
    rcases kn b kb with e | e | ⟨o, e⟩
    · exact ⟨fun q => n1.2.1 (q ▸ e), fun q => n2.2.1 (q ▸ e)⟩
    · exact ⟨fun q => (by rw [q, n1.2.2] at e; cases e), fun q => (by rw [q, n2.2.2] at e; cases e)⟩
    · have := hlt _ e
      exact ⟨Nat.ne_of_lt this, Nat.ne_of_lt (Nat.lt_trans this hxd)⟩
  have T := R1.track (a := dx) (o := .attrs []) (N' _ (.tail _ (.head _))).1 (fun k => (hold _ k).1 rfl) ⟨[], 0, rfl, rfl, rfl, fun i k v e a => by simp at a⟩
  have nx : ¬ Known Φ ⟨g.fz, g.tr ++ [dx]⟩ x := by
    rintro (k | k | k | k)
    · have : x ∈ Φ.muts g ∨ x = dx := by
        simp only [Ctx.muts, List.mem_cons, List.mem_append, List.mem_nil_iff, or_false] at k ⊢
        rcases k with h | h | h | h
        · exact .inl (.inl h)
        · exact .inl (.inr (.inl h))
        · exact .inl (.inr (.inr h))
        · exact .inr h
      rcases this with h | h
      · exact (hold x (.inl h)).2 rfl
      · exact absurd h (Nat.ne_of_gt hxd)
    · exact (hold x (.inr (.inl k))).2 rfl
    · exact (hold x (.inr (.inr (.inl k)))).2 rfl
    · exact (hold x (.inr (.inr (.inr k)))).2 rfl
  have Z := T.1.freeze (N' _ (.head _)).1 nx
  have le := T.2.trans Z.2
  have rx : VR ⟨(x, instObj C dx) :: g.fz, g.tr ++ [dx]⟩ (.inst C σ.objs.length) (.ref x) := by
    simp only [VR]
    exact ⟨x, dx, #[], rfl, by rw [← R.tr.1]; simp, .head _⟩
  have hA : (Φ.A.under (.builtin "type.__call__" ⟨.ref C :: xs, kws.zip kxs⟩)).handled = none := ok.handled
  refine codeAny_mono (hf κ Φ _ rfl hD ok hA ?_ ?_ _ _ _ (.inst C σ.objs.length :: vs) (.ref x :: xs) kvs kxs _ Z.1 (.cons rx (VRs.mono le vs rv)) (VRs.mono le kvs rk) h1 h2 h3) fun r s' p => ?_
  · have e : Code.weight (.builtin "type.__call__" ⟨.ref C :: xs, kws.zip kxs⟩) = 1 := by rfl
    show Φ.A.depth + Code.weight (.builtin "type.__call__" ⟨.ref C :: xs, kws.zip kxs⟩) ≤ _
    rw [e]; exact Nat.le_refl _
  · have e : Code.cUnits (.builtin "type.__call__" ⟨.ref C :: xs, kws.zip kxs⟩) = 1 := by rfl
    show Φ.A.units + Code.cUnits (.builtin "type.__call__" ⟨.ref C :: xs, kws.zip kxs⟩) ≤ _
    omega
  · cases r with
    | error e => exact p.elim
    | ok fl =>
      cases fl with
      | ret y =>
        obtain ⟨g', v, objs', le', R', rv', rfl, q'⟩ := p
        simp only [VR] at rv'
        exact ⟨rv', g', _, _, le.trans le', R', VR.mono le' _ rx, q'⟩
      | next => exact p.elim
      | brk => exact p.elim
      | cont => exact p.elim
end
end Mine

open PySem PySem.W PyProof.Rows PySem.Calls
set_option Elab.async false
set_option maxRecDepth 100000
set_option linter.unusedVariables false

namespace Mine

/-! ## Subscripts -/

/-- an item at a place, from behind too -/
def idxL (l : List V) (k : Int) : Option V := if 0 ≤ k then l[k.toNat]? else if -(l.length : Int) ≤ k then l[(k + l.length).toNat]? else none
def subA (v i : V) : W V := fun Q σ => match v, i with
  | .str x, .int k => -(2 ^ 62) ≤ k ∧ k < 2 ^ 62 ∧ (Txt.charAt x k).isSome = true ∧ Q (.str (Txt.item x k)) σ
  | .tup l, .int k => -(2 ^ 62) ≤ k ∧ k < 2 ^ 62 ∧ (match idxL l k with
    | some u => Q u σ
    | none => False)
  | v, .int k => -(2 ^ 62) ≤ k ∧ k < 2 ^ 62 ∧ (match seqOf σ.objs v with
    | some l => (match idxL l k with
      | some u => Q u σ
      | none => False)
    | none => False)
  | _, _ => False

section
variable {κ : Kap}

theorem tail_sound {prog : Program} {w : World} {A : Around} {E : Value → Shared → Prop} {s : Shared} {value slice : Expr} {o i : Value} {T id : String} {ops : List Value} {Q : Value → Shared → Prop} (hT : s.TypeIs o T)
    (hl : typeLookup (.type T) "__getitem__" = pure (some (.builtin id))) (h : wpAny (model prog w) A (getItem o i) Q E s) (hs : subscripted slice false o i = operate ops (getItem o i)) :
    wpAny (model prog w) A (subscriptTail value slice o i) Q E s := by
  unfold subscriptTail
  refine wpAny_bind ?_
  rw [getitemInPython_of_ne hT.not_modules]
  refine wpAny_bind (wpAny_specialOf hT hl ?_)
  have fin : wpAny (model prog w) A (subscripted slice false o i) (fun r s₃ => wpAny (model prog w) A (letTemporaryGo value o r >>= fun _ => pure r) Q E s₃) E s := by
    rw [hs]
    exact wpAny_operating (wpAny_mono h (fun r s₃ h₃ => wpAny_bind (wpAny_letTemporaryGo (wpAny_pure h₃))) fun _ _ x => x)
  first
    | exact wpAny_pure (wpAny_bind fin)
    | exact wpAny_bind (wpAny_pure (wpAny_bind fin))
    | exact wpAny_bind fin

theorem idx_list {prog : Program} {w : World} {A : Around} {E : Value → Shared → Prop} {s : Shared} {a : Addr} {xs : List Value} {n : Nat} {g : G} {l : List V} {k : Int} {t : Tok} {u : V} {Q : Value → Shared → Prop}
    (ha : s.heap.get? a = some (listO xs n)) (hr : VRs g l xs) (h1 : -(2 ^ 62) ≤ k) (h2 : k < 2 ^ 62) (hu : idxL l k = some u) (h : ∀ x, VR g u x → Q x s) : wpAny (model prog w) A (getItem (.ref a) (.int k t)) Q E s := by
  unfold idxL at hu
  split at hu
  · rename_i h0
    obtain ⟨x, hx, rx⟩ := hr.get hu
    exact wpAny_getItem_list (isList_of ha) h0 (by omega) (by simpa using hx) (h x rx)
  · split at hu
    · rename_i h0 h3
      have hl := hr.length
      obtain ⟨x, hx, rx⟩ := hr.get hu
      exact wpAny_getItem_list_neg (isList_of ha) (by omega) (by simp [hl]; omega) (by omega) (by simpa [hl] using hx) (h x rx)
    · cases hu
theorem idx_tup {prog : Program} {w : World} {A : Around} {E : Value → Shared → Prop} {s : Shared} {a : Addr} {xs : List Value} {n : Nat} {g : G} {l : List V} {k : Int} {t : Tok} {u : V} {Q : Value → Shared → Prop}
    (ha : s.heap.get? a = some (tupO xs n)) (hr : VRs g l xs) (h1 : -(2 ^ 62) ≤ k) (h2 : k < 2 ^ 62) (hu : idxL l k = some u) (h : ∀ x, VR g u x → Q x s) : wpAny (model prog w) A (getItem (.ref a) (.int k t)) Q E s := by
  have hl := hr.length
  have key : ∃ j, seqIndex? k xs.toArray.size = some j ∧ l[j]? = some u := by
    unfold idxL at hu
    unfold seqIndex?
    split at hu
    · rename_i h0
      have := (List.getElem?_eq_some_iff.mp hu).1
      refine ⟨k.toNat, ?_, hu⟩
      have e1 : ¬ k < 0 := by omega
      simp only [e1, if_false, List.size_toArray, hl]
      rw [if_pos]
      simp; omega
    · split at hu
      · rename_i h0 h3
        refine ⟨(k + l.length).toNat, ?_, hu⟩
        have e1 : k < 0 := by omega
        have := (List.getElem?_eq_some_iff.mp hu).1
        simp only [e1, if_true, List.size_toArray, hl]
        rw [if_pos]
        simp; omega
      · cases hu
  obtain ⟨j, hj, hju⟩ := key
  obtain ⟨x, hx, rx⟩ := hr.get hju
  exact getItem_tuple ⟨_, ha, rfl, n, rfl⟩ (by omega) (by omega) hj (by simpa using hx) (h x rx)

def noSlice : Expr → Bool
  | .Slice .. => false
  | _ => true
theorem sub_plain {slice : Expr} {o i : Value} (h : noSlice slice = true) : subscripted slice false o i = operate [o, i] (getItem o i) := by
  cases slice <;> first | rfl | cases h

theorem r_Sub {value slice : Expr} {pos : Pos} {f h : W V} (hv : SE κ value f) (hi : SE κ slice h) (hs : noSlice slice = true := by rfl) : SE κ (.Subscript value slice pos) (bnd f fun v => bnd h fun i => subA v i) := fun Φ ok g σ s Q R q => by
  refine Subscript_ (wpAny_mono (hv Φ ok g σ s _ R q) (fun x s₁ p => ?_) fun _ _ e => e)
  obtain ⟨g₁, a, σ₁, le₁, R₁, ra, q₁⟩ := p
  refine wpAny_mono (hi Φ ok g₁ σ₁ s₁ _ R₁ q₁) (fun y s₂ p => ?_) fun _ _ e => e
  obtain ⟨g₂, b, σ₂, le₂, R₂, rb, q₂⟩ := p
  replace ra := VR.mono le₂ a ra
  have le := le₁.trans le₂
  have q₂ : subA a b Q σ₂ := q₂
  unfold subA at q₂
  split at q₂
  · rename_i z k
    simp only [VR] at ra rb
    obtain ⟨t, rfl⟩ := ra
    obtain ⟨u, rfl⟩ := rb
    obtain ⟨h1, h2, h3, h4⟩ := q₂
    refine tail_sound (typeIs_str _ _ _) F.slot_str_getitem.lookup (SB.getItem ?_ h3 ?_) (sub_plain hs)
    · unfold fitsSsize; simp; omega
    · exact ⟨g₂, .str _, σ₂, le, R₂.tok _, by simp only [VR]; exact ⟨_, rfl⟩, h4⟩
  · rename_i l k
    obtain ⟨ad, xs, n, rfl, h1, h2⟩ := R₂.tup_at ra
    simp only [VR] at rb
    obtain ⟨u, rfl⟩ := rb
    obtain ⟨q1, q2, q3⟩ := q₂
    split at q3
    · rename_i w hw
      exact tail_sound ⟨_, h1, rfl⟩ slot_tuple_getitem.lookup (idx_tup h1 h2 q1 q2 hw fun x rx => ⟨g₂, w, σ₂, le, R₂, rx, q3⟩) (sub_plain hs)
    · exact q3.elim
  · rename_i v k _ _
    obtain ⟨q1, q2, q3⟩ := q₂
    split at q3
    · rename_i l hl
      obtain ⟨ad, xs, n, rfl, h1, h2⟩ := R₂.seq_at ra hl
      simp only [VR] at rb
      obtain ⟨u, rfl⟩ := rb
      split at q3
      · rename_i w hw
        exact tail_sound ⟨_, h1, rfl⟩ slot_list_getitem.lookup (idx_list h1 h2 q1 q2 hw fun x rx => ⟨g₂, w, σ₂, le, R₂, rx, q3⟩) (sub_plain hs)
      · exact q3.elim
    · exact q3.elim
  · exact q₂.elim

/-! ### slices -/
def SO (κ : Kap) (oe : Option Expr) (f : W (Option Int)) : Prop :=
  ∀ Φ, Ctx.Ok κ Φ → ∀ g σ s Q, Rel κ Φ g σ s → f Q σ → wpAny (model κ.P.prog Φ.w) Φ.A (valueOrNone (evalOpt oe Φ.env)) (fun x s' => ∃ g' k σ', g.le g' ∧ Rel κ Φ g' σ' s' ∧ IsPart x k ∧ Q k σ') NoE s
def intW (v : V) : W (Option Int) := fun Q σ => match v with
  | .int i => Q (some i) σ
  | _ => False
theorem o_none : SO κ none (ret none) := fun Φ ok g σ s Q R q => wpAny_pure ⟨g, none, σ, .refl g, R, .none, q⟩
theorem o_some {e : Expr} {f : W V} (he : SE κ e f) : SO κ (some e) (bnd f intW) := fun Φ ok g σ s Q R q => by
  refine wpAny_mono (he Φ ok g σ s _ R q) (fun x s₁ p => ?_) fun _ _ e => e
  obtain ⟨g₁, a, σ₁, le₁, R₁, ra, q₁⟩ := p
  have q₁ : intW a Q σ₁ := q₁
  unfold intW at q₁
  split at q₁
  · simp only [VR] at ra
    obtain ⟨t, rfl⟩ := ra
    exact ⟨g₁, some _, σ₁, le₁, R₁, .int _ _, q₁⟩
  · exact q₁.elim
def cutL {α : Type} (l : List α) (lo hi : Option Int) : Option (List α) := match lo, hi with
  | none, none => some l
  | some a, none => if 0 ≤ a then some (l.drop a.toNat) else none
  | none, some b => if 0 ≤ b then some (l.take b.toNat) else none
  | some _, some _ => none
theorem cut_pick {l : List V} {xs : List Value} {g : G} {lo hi : Option Int} {l' : List V} (hr : VRs g l xs) (h : cutL l lo hi = some l') : ∃ ys, slicePick xs.toArray lo hi none = ys.toArray ∧ VRs g l' ys ∧ ys.length ≤ xs.length := by
  have part : ∀ (k : Nat), VRs g (l.drop k) (xs.drop k) ∧ VRs g (l.take k) (xs.take k) := fun k => by
    constructor
    · refine VRs.of_get (by simp [hr.length]) fun i v x e1 e2 => ?_
      rw [List.getElem?_drop] at e1 e2
      obtain ⟨x', hx', rx⟩ := hr.get e1
      rw [e2] at hx'; cases hx'; exact rx
    · refine VRs.of_get (by simp [hr.length]) fun i v x e1 e2 => ?_
      rw [List.getElem?_take] at e1 e2
      split at e1
      · rename_i hk
        rw [if_pos hk] at e2
        obtain ⟨x', hx', rx⟩ := hr.get e1
        rw [e2] at hx'; cases hx'; exact rx
      · cases e1
  unfold cutL at h
  split at h
  · cases h; exact ⟨xs, slicePick_all _, hr, Nat.le_refl _⟩
  · split at h
    · rename_i a h0
      cases h
      have ea : a = (a.toNat : Int) := by omega
      refine ⟨xs.drop a.toNat, ?_, (part a.toNat).1, by simp⟩
      rw [ea, slicePick_from']; simp [← ea]
    · cases h
  · split at h
    · rename_i b h0
      cases h
      have eb : b = (b.toNat : Int) := by omega
      refine ⟨xs.take b.toNat, ?_, (part b.toNat).2, by rw [List.length_take]; exact Nat.min_le_right _ _⟩
      rw [eb, slicePick_upto']; simp [← eb]
    · cases h
  · cases h

/-- a slice: of a text; of a list, the new one frozen or tracked -/
def sliceA (trk : Bool) (lo hi : Option Int) (v : V) : W V := fun Q σ => match v with
  | .str x => x.length ≤ sizeLine ∧ Q (.str (Txt.slice x lo hi)) σ
  | v => match seqOf σ.objs v with
    | some l => l.length ≤ sizeLine ∧ (match cutL l lo hi with
      | some l' => if trk then Q (.ref σ.objs.length) { σ with objs := σ.objs ++ [.list l'] } else Q (.lst l') σ
      | none => False)
    | none => False
theorem r_Slice (trk : Bool) {value : Expr} {lo hi : Option Expr} {pos p : Pos} {f : W V} {fl fu : W (Option Int)} (hv : SE κ value f) (hl : SO κ lo fl) (hu : SO κ hi fu) :
    SE κ (.Subscript value (.Slice lo hi none p) pos) (bnd f fun v => bnd fl fun a => bnd fu fun b => sliceA trk a b v) := fun Φ ok g σ s Q R q => by
  refine Subscript_ (wpAny_mono (hv Φ ok g σ s _ R q) (fun x s₁ p => ?_) fun _ _ e => e)
  obtain ⟨g₁, v, σ₁, le₁, R₁, rv, q₁⟩ := p
  show wpAny _ _ (do
    let l ← valueOrNone (evalOpt lo Φ.env)
    let u ← holding [l] (valueOrNone (evalOpt hi Φ.env))
    let s ← holding [l, u] (valueOrNone (evalOpt none Φ.env))
    newFields "slice" [l, u, s]) _ _ s₁
  refine wpAny_bind (wpAny_mono (hl Φ ok g₁ σ₁ s₁ _ R₁ q₁) (fun xl s₂ p => ?_) fun _ _ e => e)
  obtain ⟨g₂, kl, σ₂, le₂, R₂, pl, q₂⟩ := p
  refine wpAny_bind (wpAny_holding (wpAny_mono (hu Φ ok g₂ σ₂ s₂ _ R₂ q₂) (fun xu s₃ p => ?_) fun _ _ e => e))
  obtain ⟨g₃, ku, σ₃, le₃, R₃, pu, q₃⟩ := p
  have le := (le₁.trans le₂).trans le₃
  replace rv := VR.mono (le₂.trans le₃) v rv
  refine wpAny_bind (wpAny_holding (wpAny_pure ?_))
  refine wpAny_newObj_type ?_
  have q₃ : sliceA trk kl ku v Q σ₃ := q₃
  have hsub : ∀ o, subscripted (.Slice lo hi none p) false o (.ref s₃.heap.objs.size) = operate [.ref s₃.heap.objs.size, o] (getItem o (.ref s₃.heap.objs.size)) := fun _ => rfl
  unfold sliceA at q₃
  split at q₃
  · rename_i z _
    simp only [VR] at rv
    obtain ⟨t, rfl⟩ := rv
    obtain ⟨hz, q₃⟩ := q₃
    have fin : ∀ h' t' k, KeepsH s₃.heap h' → PE κ Φ g Q (.str (Txt.slice z kl ku) t') { s₃ with heap := h', toks := k } := fun h' t' k hk => ⟨g₃, .str _, σ₃, le, R₃.keeps hk, by simp only [VR]; exact ⟨_, rfl⟩, q₃⟩
    have hkp : KeptH (fun h' => KeepsH s₃.heap h') := fun h ob hp b o e => Heap.get?_push_of_some _ (hp b o e)
    have it : ItemOn (model κ.P.prog Φ.w) Φ.A NoE (.str z t) (.ref s₃.heap.objs.size) (PE κ Φ g Q) { s₃ with heap := s₃.heap.push { cls := .type "slice", data := .fields #[xl, xu, .none] } } := by
      cases pl <;> cases pu
      · exact SBH.sliceItem_nn hkp (fun _ _ e => e) fin hz
      · exact SBH.sliceItem_ns hkp (fun _ _ e => e) fin hz
      · exact SBH.sliceItem_sn hkp (fun _ _ e => e) fin hz
      · exact SBH.sliceItem_ss hkp (fun _ _ e => e) fin hz
    obtain ⟨T, id, h1, h2, h3⟩ := it
    exact tail_sound h2 h1 h3 (hsub _)
  · split at q₃
    · rename_i l hl
      obtain ⟨ad, xs, n, rfl, h1, h2⟩ := R₃.seq_at rv hl
      obtain ⟨hz, q₃⟩ := q₃
      split at q₃
      · rename_i l' hc
        obtain ⟨ys, hp, hy, hle⟩ := cut_pick h2 hc
        have h1' : (s₃.heap.push { cls := .type "slice", data := .fields #[xl, xu, .none] }).get? ad = some (listO xs n) := Heap.get?_push_of_some _ h1
        refine tail_sound (T := "list") ⟨_, h1', rfl⟩ slot_list_getitem.lookup (wpAny_getItem_list_slice (s := { s₃ with heap := s₃.heap.push { cls := .type "slice", data := .fields #[xl, xu, .none] } }) (isList_of h1') (Heap.IsSliceOf.new ..) pl pu .none (by simp) ?_ (by simp [h2.length]; exact hz)) (hsub _)
        rw [hp]
        have R₄ : Rel κ Φ g₃ σ₃ { s₃ with heap := s₃.heap.push { cls := .type "slice", data := .fields #[xl, xu, .none] } } := R₃.keeps (tk := s₃.toks) fun b o e => Heap.get?_push_of_some _ e
        have R₅ : Rel κ Φ g₃ σ₃ { s₃ with heap := (s₃.heap.push { cls := .type "slice", data := .fields #[xl, xu, .none] }).push { cls := .type "list", data := .seq ys.toArray } } := R₄.keeps (tk := s₃.toks) fun b o e => Heap.get?_push_of_some _ e
        have ho : ((s₃.heap.push { cls := .type "slice", data := .fields #[xl, xu, .none] }).push { cls := .type "list", data := .seq ys.toArray }).get? (s₃.heap.push { cls := .type "slice", data := .fields #[xl, xu, .none] }).objs.size = some (listO ys 0) := Heap.get?_push_size _ rfl
        cases trk with
        | false =>
          simp only [Bool.false_eq_true, if_false] at q₃
          obtain ⟨R₆, le'⟩ := R₅.freeze ho R₄.fresh
          refine ⟨_, .lst l', σ₃, le.trans le', R₆, ?_, q₃⟩
          simp only [VR]
          exact ⟨_, ys, 0, rfl, .head _, VRs.mono le' _ hy⟩
        | true =>
          simp only [if_true] at q₃
          obtain ⟨R₆, le'⟩ := R₅.track (o := .list l') ho R₄.fresh ⟨ys, 0, rfl, hy⟩
          refine ⟨_, .ref σ₃.objs.length, _, le.trans le', R₆, ?_, q₃⟩
          simp only [VR]
          exact ⟨_, rfl, by rw [← R₃.tr.1]; simp⟩
      · exact q₃.elim
    · exact q₃.elim
end
end Mine

open PySem PySem.W PyProof.Rows PySem.Calls
set_option Elab.async false
set_option maxRecDepth 100000
set_option linter.unusedVariables false

namespace Mine

/-! ## The special methods of the text's class -/
structure SpecIs (P : Prg) (C : Nat) (x : Str) (f : Addr) : Prop where
  find : ∀ q, findIn (P.K q) (.ref C) x = some (some (.ref f))
  fn : ∀ q, isFn (P.K q) (.ref f) = true
  fnI : ∀ q, fnIn (P.K q) f = true
  noSeq : ∀ q, PySem.W.noSeq (P.K q) C = true

def instW (C : Nat) (n : Nat) (spec : Spec) (v : V) (args : List V) : W V := fun Q σ => match v with
  | .inst c i => c = C ∧ (∃ l, σ.objs[i]? = some (.attrs l)) ∧ (v :: args).length = n ∧ spec (v :: args) [] σ.objs fun u objs' => Q u { σ with objs := objs' }
  | _ => False

section
variable {κ : Kap}

theorem inst_open {Φ : Ctx} {g : G} {σ : St} {s : Shared} {C n : Nat} {spec : Spec} {v : V} {x : Value} {args : List V} {Q : V → St → Prop} (R : Rel κ Φ g σ s) (rv : VR g v x) (q : instW C n spec v args Q σ) :
    ∃ a ox od, x = .ref a ∧ InstAt s.heap a ox C (some od) ∧ (v :: args).length = n ∧ spec (v :: args) [] σ.objs fun u objs' => Q u { σ with objs := objs' } := by
  unfold instW at q
  split at q
  · obtain ⟨rfl, ⟨l, hl⟩, hn, hs⟩ := q
    obtain ⟨a, dx, sl, es, n, rfl, hi, hd, ha, I, _⟩ := R.inst_at rv hl
    exact ⟨a, _, _, rfl, I, hn, hs⟩
  · exact q.elim

theorem PEo.toPE {Φ : Ctx} {g : G} {σ : St} {Q : V → St → Prop} {x : Value} {s' : Shared} (p : PEo κ Φ g σ (fun u objs' => Q u { σ with objs := objs' }) x s') : PE κ Φ g Q x s' := by
  obtain ⟨g', v, objs', le, R', rv, q⟩ := p
  exact ⟨g', v, _, le, R', rv, q⟩

/-- o[i] by __getitem__ -/
theorem r_SubInst {value slice : Expr} {pos : Pos} {f h : W V} {C n D : Nat} {fa : Addr} {spec : Spec} (hv : SE κ value f) (hi : SE κ slice h) (S : SpecIs κ.P C "__getitem__" fa) (hf : FnOK κ.P D fa n [] spec) (hD : D < κ.D) (hs : noSlice slice = true := by rfl) :
    SE κ (.Subscript value slice pos) (bnd f fun v => bnd h fun i => instW C n spec v [i]) := fun Φ ok g σ s Q R q => by
  refine Subscript_ (wpAny_mono (hv Φ ok g σ s _ R q) (fun x s₁ p => ?_) fun _ _ e => e)
  obtain ⟨g₁, a, σ₁, le₁, R₁, ra, q₁⟩ := p
  refine wpAny_mono (hi Φ ok g₁ σ₁ s₁ _ R₁ q₁) (fun y s₂ p => ?_) fun _ _ e => e
  obtain ⟨g₂, b, σ₂, le₂, R₂, rb, q₂⟩ := p
  replace ra := VR.mono le₂ a ra
  obtain ⟨ad, ox, od, rfl, I, hn, hsp⟩ := inst_open R₂ ra q₂
  obtain ⟨m, news, F, N, back⟩ := R₂.ledger ok.above
  have hsl : subscripted slice true (.ref ad) y = runValue (.builtin "lifetime.subscript" ⟨[.ref ad, y], []⟩) := by cases slice <;> first | rfl | cases hs
  refine sub_K F ok.KIn I (S.find _) (S.fnI _) (S.fn _) (wpAny_mono (fn_call (A := Φ.A.in1) hf hD ok ok.handled (by show Φ.A.depth ≤ _; omega) (by show Φ.A.units + 1 ≤ _; omega) R₂ (.cons ra (.one rb)) .nil hn rfl hsp) (fun z s₃ p => (PEo.toPE p).le (le₁.trans le₂)) fun _ _ e => e) hsl

/-- del o[i] -/
theorem s_DelInst {value slice : Expr} {p pos : Pos} {f h : W V} {C n D : Nat} {fa : Addr} {spec : Spec} (hv : SE κ value f) (hi : SE κ slice h) (S : SpecIs κ.P C "__delitem__" fa) (hf : FnOK κ.P D fa n [] spec) (hD : D < κ.D) :
    SS κ (.Delete [.Subscript value slice p] pos) (bnd f fun v => bnd h fun i => bnd (instW C n spec v [i]) fun _ => ret .next) := fun Φ ok g σ s Q R q => by
  refine wpAny_Delete (wpAny_deleteEach_cons (wpAny_delete_Subscript (wpAny_mono (hv Φ ok g σ s _ R q) (fun x s₁ p => ?_) fun _ _ e => e)))
  obtain ⟨g₁, a, σ₁, le₁, R₁, ra, q₁⟩ := p
  refine wpAny_mono (hi Φ ok g₁ σ₁ s₁ _ R₁ q₁) (fun y s₂ p => ?_) fun _ _ e => e
  obtain ⟨g₂, b, σ₂, le₂, R₂, rb, q₂⟩ := p
  replace ra := VR.mono le₂ a ra
  obtain ⟨ad, ox, od, rfl, I, hn, hsp⟩ := inst_open R₂ ra q₂
  have X : (κ.P.K Φ.w.params).In s₂.heap := fun a o e => R₂.keep a o (ok.KIn a o e)
  unfold delItem sequenceKey
  refine wpAny_holding (wpAny_bind (wpAny_bind (I.type.here ?_)))
  refine wpAny_bind ((anyM_none X (S.noSeq _)).here ?_)
  rw [if_pos (show (!false) = true from rfl)]
  refine wpAny_pure (wpAny_bind (special_fn X I (S.find _) (beq_iff_eq.mp (S.fn _)) (wpAny_mono (fn_call (A := Φ.A) hf hD ok ok.handled (by omega) (by omega) R₂ (.cons ra (.one rb)) .nil hn rfl hsp) (fun z s₃ p => ?_) fun _ _ e => e)))
  obtain ⟨g₃, u, objs', le₃, R₃, ru, q₃⟩ := p
  exact wpAny_pure (wpAny_deleteEach_nil ⟨g₃, .next, _, (le₁.trans le₂).trans le₃, R₃, by simp only [FlR], q₃⟩)

/-- o[i] = v -/
theorem a_SubInst {value slice : Expr} {p : Pos} {f h : W V} {C n D : Nat} {fa : Addr} {spec : Spec} (hv : SE κ value f) (hi : SE κ slice h) (S : SpecIs κ.P C "__setitem__" fa) (hf : FnOK κ.P D fa n [] spec) (hD : D < κ.D) :
    SA κ (.Subscript value slice p) (fun u => bnd f fun v => bnd h fun i => bnd (instW C n spec v [i, u]) fun _ => ret ()) := fun Φ ok g σ s Q u yu R ru q => by
  rw [arm_assign_Subscript]
  refine wpAny_bind (wpAny_holding (wpAny_mono (hv Φ ok g σ s _ R q) (fun x s₁ p => ?_) fun _ _ e => e))
  obtain ⟨g₁, a, σ₁, le₁, R₁, ra, q₁⟩ := p
  refine wpAny_bind (wpAny_holding (wpAny_mono (hi Φ ok g₁ σ₁ s₁ _ R₁ q₁) (fun y s₂ p => ?_) fun _ _ e => e))
  obtain ⟨g₂, b, σ₂, le₂, R₂, rb, q₂⟩ := p
  replace ra := VR.mono le₂ a ra
  obtain ⟨ad, ox, od, rfl, I, hn, hsp⟩ := inst_open R₂ ra q₂
  obtain ⟨m, news, F, N, back⟩ := R₂.ledger ok.above
  refine wpAny_bind (wpAny_standAt (wpAny_bind (wpAny_holding (ksp_setItem F ok.KIn I (S.noSeq _) (S.find _) (S.fn _) (wpAny_mono (fn_call (A := Φ.A) hf hD ok ok.handled (by omega) (by omega) R₂ (.cons ra (.cons rb (.one (VR.mono (le₁.trans le₂) u ru)))) .nil hn rfl hsp) (fun z s₃ p => ?_) fun _ _ e => e)))))
  obtain ⟨g₃, w, objs', le₃, R₃, rw', q₃⟩ := p
  exact wpAny_release ⟨g₃, _, (le₁.trans le₂).trans le₃, R₃, q₃⟩

/-- len(o) by __len__ -/
def lenInstW (C : Nat) (n : Nat) (spec : Spec) (vs kvs : List V) : W V := fun Q σ => match vs with
  | [v] => instW C n spec v [] (fun u σ' => ∃ k : Int, u = .int k ∧ 0 ≤ k ∧ k < 2 ^ 62 ∧ Q (.int k) σ') σ
  | _ => False
theorem cal_lenInst {C n D : Nat} {fa : Addr} {spec : Spec} (S : SpecIs κ.P C "__len__" fa) (hf : FnOK κ.P D fa n [] spec) (hD : D < κ.D) : CalOK κ (.builtin "len") [] (lenInstW C n spec) := fun Φ ok g σ s vs xs kvs kxs Q R rv rk q => by
  unfold lenInstW at q
  split at q
  · simp only [VRs] at rv
    obtain ⟨x, _, rfl, rv, rfl⟩ := rv
    obtain ⟨ad, ox, od, rfl, I, hn, hsp⟩ := inst_open R rv q
    obtain ⟨m, news, F, N, back⟩ := R.ledger ok.above
    refine len_K F ok.KIn I (S.find _) (S.fn _) (wpAny_mono (fn_call (A := Φ.A.in1) hf hD ok ok.handled (by show Φ.A.depth ≤ _; omega) (by show Φ.A.units + 1 ≤ _; omega) R (.one rv) .nil hn rfl hsp) (fun z s₃ p => ?_) fun _ _ e => e)
    obtain ⟨g₃, w, objs', le₃, R₃, rw', k, rfl, h0, h1, q₃⟩ := p
    simp only [VR] at rw'
    obtain ⟨t, rfl⟩ := rw'
    exact ⟨⟨h0, by omega⟩, g₃, .int k, _, le₃, R₃.tok _, by simp only [VR]; exact ⟨_, rfl⟩, q₃⟩
  · exact q.elim

/-- str(o) by __str__ -/
def strInstW (C : Nat) (n : Nat) (spec : Spec) (vs kvs : List V) : W V := fun Q σ => match vs with
  | [v] => instW C n spec v [] (fun u σ' => ∃ z : Str, u = .str z ∧ Q (.str z) σ') σ
  | _ => False
theorem cal_strInst {C n D : Nat} {fa : Addr} {spec : Spec} (S : SpecIs κ.P C "__str__" fa) (hf : FnOK κ.P D fa n [] spec) (hD : D < κ.D) : CalOK κ (.type "str") [] (strInstW C n spec) := fun Φ ok g σ s vs xs kvs kxs Q R rv rk q => by
  unfold strInstW at q
  split at q
  · simp only [VRs] at rv
    obtain ⟨x, _, rfl, rv, rfl⟩ := rv
    obtain ⟨ad, ox, od, rfl, I, hn, hsp⟩ := inst_open R rv q
    have X : (κ.P.K Φ.w.params).In s.heap := fun a o e => R.keep a o (ok.KIn a o e)
    refine kso_call (by show Φ.A.units + 1 + 1 < cLine; have := ok.units; omega) X I (S.find _) (S.fn _) (wpAny_mono (fn_call (A := Φ.A.in1.in1) hf hD ok ok.handled (by show Φ.A.depth ≤ _; omega) (by show Φ.A.units + 1 + 1 ≤ _; omega) R (.one rv) .nil hn rfl hsp) (fun z s₃ p => ?_) fun _ _ e => e)
    obtain ⟨g₃, w, objs', le₃, R₃, rw', k, rfl, q₃⟩ := p
    simp only [VR] at rw'
    obtain ⟨t, rfl⟩ := rw'
    exact ⟨g₃, .str k, _, le₃, R₃, by simp only [VR]; exact ⟨_, rfl⟩, q₃⟩
  · exact q.elim
end
end Mine

open PySem PySem.W PyProof.Rows PySem.Calls
set_option Elab.async false
set_option maxRecDepth 100000
set_option linter.unusedVariables false

namespace Mine

/-! ## regex.search: a first set of signs -/

theorem rx_plainAttrs : PlainAttrs "re.Pattern" :=
  ⟨⟨"object.__getattribute__", by rw [typeLookup_type, builtinLookup_eq_fast]; kernel_rfl, by decide +kernel⟩, by rw [typeLookup_type, builtinLookup_eq_fast]; kernel_rfl⟩
theorem rx_slot : Slot "re.Pattern" "search" "re.Pattern.search" :=
  .of (owner := "re.Pattern") (n := "search") (by rw [typeLookup_type, builtinLookup_eq_fast]; kernel_rfl) (by decide +kernel) (by decide +kernel) (by decide +kernel)
    (by first | exact .inl (by decide +kernel) | exact .inr (by decide +kernel)) (by rw [isSubtype_type]; kernel_rfl)
theorem rx_type : typeOf (.builtin "re.Pattern.search") = pure (.type "method_descriptor") := by show builtinType _ = _; rw [builtinType_eq_fast]; kernel_rfl
theorem rx_entry : entryFor table "re.Pattern.search" = some Builtin.«re.Pattern.search» := entryFor_of_tree (by kernel_rfl)
theorem rx_owner : Manifest.owners.lookup (String.ofList ['n', 'r', 'e', 't', 't', 'a', 'P', '.', 'e', 'r'].reverse) = some Manifest.sig_re_Pattern := by kernel_rfl
theorem rx_args (a b : Value) : argsOk "re.Pattern.search" ⟨[a, b], []⟩ := by
  unfold argsOk; rw [signature?_of (id := "re.Pattern.search") (n := ['h', 'c', 'r', 'a', 'e', 's']) (o := ['n', 'r', 'e', 't', 't', 'a', 'P', '.', 'e', 'r']) (by kernel_rfl) rx_owner]; kernel_rfl


open PySem.Builtin.Re

/-- no sign of the text is in the first set -/
def Clear (code text : Array Nat) : Prop := ∀ c ∈ text.toList, ∀ seen, ∃ seen', Sre.inSet code c code.size 5 true seen = .ok (false, seen')

theorem admitted_none {m : Sre.M} (h : Clear m.code m.text) (hl : m.lim ≤ m.text.size) : ∀ (fuel s : Nat) (seen : Sre.Seen), ∃ seen', m.admitted fuel s seen = .ok (none, seen')
  | 0, _, seen => ⟨seen, rfl⟩
  | fuel + 1, s, seen => by
    unfold Sre.M.admitted
    split
    · exact ⟨seen, rfl⟩
    · rename_i hs
      have hs' : s < m.text.size := by omega
      have hm : m.text.getD s 0 ∈ m.text.toList := by
        rw [Array.getD_eq_getD_getElem?, Array.getElem?_eq_getElem hs', Option.getD_some]
        exact Array.getElem_mem_toList hs'
      obtain ⟨seen', e⟩ := h _ hm seen
      rw [e]
      exact admitted_none h hl fuel (s + 1) seen'

theorem say_end (m : Sre.M) (h1 : m.answer = some false) (h2 : m.frames = []) (h3 : m.outcome = none) : (m.runFor 4).outcome = some .failed := by
  have e : m.step = { m with outcome := some .failed } := by
    unfold Sre.M.step
    simp only [h3, Option.isSome_none, Bool.false_eq_true, if_false, h1, h2]
  have e0 : m.runFor 4 = Sre.M.runFor 3 m.step := by
    show (if m.outcome.isSome then m else Sre.M.runFor 3 m.step) = _
    simp [h3]
  rw [e0, e]
  rfl

theorem attempt_none {code text : Array Nat} (h2 : ((match Sre.ops[code.getD 0 0]? with | some .INFO => true | _ => false) && code.getD 2 0 == 4) = true) (h : Clear code text) (m : Sre.M) (hc : m.code = code) (ht : m.text = text) (hl : m.lim = text.size)
    (hf : m.frames = []) (ho : m.outcome = none) (s : Nat) (b : Bool) : (m.attemptFrom s b).answer = some false ∧ (m.attemptFrom s b).frames = [] ∧ (m.attemptFrom s b).outcome = none := by
  unfold Sre.M.attemptFrom
  have hf' : m.hasFirstSet = true := by unfold Sre.M.hasFirstSet; rw [hc]; exact h2
  rw [hf']
  simp only [Bool.not_true, Bool.false_eq_true, if_false]
  obtain ⟨seen', e'⟩ := admitted_none (m := m) (by rw [hc, ht]; exact h) (by rw [hl, ht]; exact Nat.le_refl _) (m.lim + 1 - s) s m.seen
  rw [e']
  exact ⟨rfl, hf, ho⟩
theorem search_none {code text : Array Nat} (h2 : ((match Sre.ops[code.getD 0 0]? with | some .INFO => true | _ => false) && code.getD 2 0 == 4) = true) (h : Clear code text) :
    ((Sre.forSearch code text 0 0 text.size false).runFor 4).outcome = some .failed := by
  unfold Sre.forSearch
  dsimp only
  split
  · exact say_end _ rfl rfl rfl
  · exact say_end _ (attempt_none h2 h _ rfl rfl rfl rfl rfl 0 true).1 (attempt_none h2 h _ rfl rfl rfl rfl rfl 0 true).2.1 (attempt_none h2 h _ rfl rfl rfl rfl rfl 0 true).2.2

theorem rules_run {α : Type} {M : Model} {A : Around} {E : Value → Shared → Prop} {s : Shared} {f : α → PUnit → Sem (ForInStep PUnit)} (hf : ∀ i u (Q' : ForInStep PUnit → Shared → Prop), Q' (.yield ⟨⟩) s → wpAny M A (f i u) Q' E s)
    {Q : PUnit → Shared → Prop} (h : Q ⟨⟩ s) : ∀ (l : List α) (u : PUnit), wpAny M A (forIn l u f) Q E s
  | [], _ => wpAny_pure h
  | i :: r, u => by
    rw [List.forIn_cons]
    exact wpAny_bind (hf i u _ (rules_run hf h r ⟨⟩))

/-- the compiled pattern of the text -/
structure RxIs (P : Prg) (a : Addr) (code : Array Nat) : Prop where
  at_ : ∀ q, ∃ v0 v1 v3 v4 tp items n, (P.K q).lookup a = some { cls := .type "re.Pattern", data := .fields #[v0, v1, .int 0 0, v3, v4, .ref tp, .int 0 0] } ∧
    (P.K q).lookup tp = some { cls := .type "tuple", data := .seq items n } ∧ (items.map reRawOf).map (·.toNat) = code
  first : ((match Sre.ops[code.getD 0 0]? with | some .INFO => true | _ => false) && code.getD 2 0 == 4) = true

theorem rx_named (v : Value) : reNamed "re.Pattern.search" "search" ["string", "pos", "endpos"] 1 [v] [] = pure [some v, none, none] := by rfl

section
variable {κ : Kap}

def isRx (a : Addr) (v : V) (_ : St) : Prop := v = .glob (.ref a)
theorem meth_rx {a : Addr} {code : Array Nat} (I : RxIs κ.P a code) : MethOK κ "search" (.builtin "re.Pattern.search") (isRx a) := fun Φ ok g σ s v x pl Q R rv hg q => by
  unfold isRx at hg
  subst hg
  simp only [VR] at rv
  subst rv
  obtain ⟨v0, v1, v3, v4, tp, items, n, h1, _⟩ := I.at_ Φ.w.params
  have X : (κ.P.K Φ.w.params).In s.heap := fun a o e => R.keep a o (ok.KIn a o e)
  exact getMethod_builtin ⟨_, X _ _ h1, rfl⟩ rx_plainAttrs rx_slot rx_type (fun b e => by cases e; exact ⟨_, X _ _ h1, rfl⟩) q

def rxA (a : Addr) (code : Array Nat) (vs kvs : List V) : W V := fun Q σ => match vs with
  | [v, .str x] => v = .glob (.ref a) ∧ x.length ≤ sizeLine ∧ Clear code x.cps ∧ Q .none σ
  | _ => False
theorem cal_rx {a : Addr} {code : Array Nat} (I : RxIs κ.P a code) : CalOK κ (.builtin "re.Pattern.search") [] (rxA a code) := fun Φ ok g σ s vs xs kvs kxs Q R rv rk q => by
  unfold rxA at q
  split at q
  · rename_i v x
    obtain ⟨rfl, hsz, hclear, q⟩ := q
    simp only [VRs, VR] at rv
    obtain ⟨_, _, rfl, rfl, _, _, rfl, ⟨t, rfl⟩, rfl⟩ := rv
    obtain ⟨v0, v1, v3, v4, tp, items, n, h1, h2, h3⟩ := I.at_ Φ.w.params
    have X : (κ.P.K Φ.w.params).In s.heap := fun a o e => R.keep a o (ok.KIn a o e)
    have H1 := X _ _ h1
    have H2 := X _ _ h2
    refine wpAny_call_entry rx_slot ⟨_, H1, rfl⟩ rx_entry ?_ (rx_args _ _)
    unfold Builtin.«re.Pattern.search»
    refine wpAny_bind ?_
    unfold reTarget
    dsimp only
    refine wpAny_bind (wpAny_of_eq (rx_named _) ?_)
    dsimp only
    refine wpAny_bind (wpAny_pure (wpAny_bind (wpAny_pure (wpAny_bind (wpAny_fieldsOf H1 rfl ?_)))))
    have e1 : reTextOf (Value.str x t) = pure (x.cps, 0) := rfl
    rw [e1]
    refine wpAny_bind (wpAny_pure ?_)
    have g6 : reRawNat ((#[v0, v1, Value.int 0 0, v3, v4, Value.ref tp, Value.int 0 0] : Array Value).getD 6 Value.none) = 0 := rfl
    have g5 : (#[v0, v1, Value.int 0 0, v3, v4, Value.ref tp, Value.int 0 0] : Array Value).getD 5 Value.none = .ref tp := rfl
    have g2 : reRawNat ((#[v0, v1, Value.int 0 0, v3, v4, Value.ref tp, Value.int 0 0] : Array Value).getD 2 Value.none) = 0 := rfl
    have e2 : reNoCollectionInside (Value.str x t) 0 = pure () := rfl
    simp only [g6, g5, g2, e2]
    simp only [beq_self_eq_true, Bool.true_and, Nat.reduceBEq, Bool.false_eq_true, if_false, Bool.and_false, Bool.false_and]
    refine wpAny_bind (wpAny_pure ?_)
    unfold reRawItems
    refine wpAny_bind (wpAny_bind (wpAny_seqItems H2 rfl (wpAny_pure (wpAny_pure ?_))))
    have hlim : min (2 ^ 63 - 1 : Int).toNat x.cps.size = x.cps.size := by
      have : x.cps.size ≤ 16777216 := by rw [sizeLine_eq] at hsz; exact hsz
      omega
    have hpos : min (Int.toNat 0) x.cps.size = 0 := by simp
    simp only [Option.getD_some, h3, hlim, hpos]
    have hend := search_none I.first hclear
    unfold reAnswer
    refine wpAny_bind ?_
    unfold reRunToEnd
    refine wpAny_bind ?_
    have e3 : reDrive (2 ^ 64) (Sre.forSearch code x.cps 0 0 x.cps.size false) = pure ((Sre.forSearch code x.cps 0 0 x.cps.size false).runFor 4) := by
      show (if ((Sre.forSearch code x.cps 0 0 x.cps.size false).runFor reTurnSteps).outcome.isSome then pure ((Sre.forSearch code x.cps 0 0 x.cps.size false).runFor reTurnSteps) else _) = _
      rw [show reTurnSteps = 4 from rfl, hend]; rfl
    refine wpAny_of_eq e3 ?_
    refine wpAny_bind (rules_run (fun i u Q' hq => ?_) ?_ _ _)
    · split
      · exact wpAny_bind (wpAny_rule (wpAny_pure hq))
      · exact wpAny_pure hq
    · simp only [hend]
      exact wpAny_pure (wpAny_pure ⟨.none, rfl, ⟨g, .none, σ, .refl g, R, by simp only [VR], q⟩⟩)
  · exact q.elim
end
end Mine

open PySem PySem.W PyProof.Rows PySem.Calls
set_option Elab.async false
set_option maxRecDepth 100000
set_option linter.unusedVariables false

namespace Mine

/-! ## Loops -/

def Ctx.pin (Φ : Ctx) (ps : List (Addr × Obj)) : Ctx := { Φ with pins := ps ++ Φ.pins }

section
variable {κ : Kap} {Φ : Ctx} {g : G} {σ : St} {s : Shared}

theorem Ctx.Ok.pin (ok : Ctx.Ok κ Φ) (ps : List (Addr × Obj)) : Ctx.Ok κ (Φ.pin ps) :=
  ⟨ok.kinds, ok.kind, ok.globals, ok.builtins, ok.handled, ok.KIn, ok.nolim, ok.globs, ok.depth, ok.cwr, ok.above, ok.cinj, ok.units⟩

theorem Rel.pin (R : Rel κ Φ g σ s) {ps : List (Addr × Obj)} (h1 : ∀ p ∈ ps, s.heap.get? p.1 = some p.2) (h2 : ∀ p ∈ ps, ¬ Known Φ g p.1) : Rel κ (Φ.pin ps) g σ s := by
  refine ⟨R.ns, R.cells, R.keep, R.fz, fun p hp => ?_, R.tr, fun a ha => ⟨(R.muts a ha).1, (R.muts a ha).2.1, fun p hp => ?_⟩, R.nodup, fun p hp => ?_, R.cellsOk, R.gens, R.os, R.forb⟩
  · rcases List.mem_append.mp hp with hp | hp
    · exact h1 p hp
    · exact R.pins p hp
  · rcases List.mem_append.mp hp with hp | hp
    · intro e; exact h2 p hp (.inl (e ▸ ha))
    · exact (R.muts a ha).2.2 p hp
  · rcases List.mem_append.mp hp with hp | hp
    · refine ⟨?_, fun q hq e => h2 p hp (.inr (.inl ⟨q, hq, e⟩))⟩
      show Φ.h₀.get? p.1 = none
      cases q : Φ.h₀.get? p.1 with
      | none => rfl
      | some o => exact absurd (.inr (.inr (.inr (by rw [q]; rfl)))) (h2 p hp)
    · exact R.pinsOk p hp
theorem Rel.unpin {ps : List (Addr × Obj)} (R : Rel κ (Φ.pin ps) g σ s) (hd : ∀ p ∈ ps, ∀ q ∈ Φ.pins, q.1 ≠ p.1) : Rel κ Φ g σ s ∧ (∀ p ∈ ps, s.heap.get? p.1 = some p.2) ∧ ∀ p ∈ ps, ¬ Known Φ g p.1 := by
  refine ⟨⟨R.ns, R.cells, R.keep, R.fz, fun p hp => R.pins p (List.mem_append_right _ hp), R.tr, fun a ha => ⟨(R.muts a ha).1, (R.muts a ha).2.1, fun p hp => (R.muts a ha).2.2 p (List.mem_append_right _ hp)⟩, R.nodup, fun p hp => R.pinsOk p (List.mem_append_right _ hp), R.cellsOk, R.gens, R.os, R.forb⟩,
    fun p hp => R.pins p (List.mem_append_left _ hp), fun p hp k => ?_⟩
  have hpin : p ∈ (Φ.pin ps).pins := List.mem_append_left _ hp
  rcases k with k | ⟨q, hq, e⟩ | ⟨q, hq, e⟩ | k
  · exact (R.muts p.1 k).2.2 p hpin rfl
  · exact (R.pinsOk p hpin).2 q hq e
  · exact hd p hp q hq e
  · rw [show Φ.h₀.get? p.1 = none from (R.pinsOk p hpin).1] at k; cases k
end

/-- a source of items, as a loop sees it -/
structure Src (κ : Kap) (Φ : Ctx) (g₀ : G) (target : Expr) (it : Value) (Is : List Addr) (St : Nat → Heap → Prop) (items : List V) (chk : Mine.St → Prop) : Prop where
  here : ∀ j h, St j h → ∀ I ∈ Is, ∃ o, h.get? I = some o
  next : ∀ j v g σ s (Q : Option Value → Shared → Prop), items[j]? = some v → g₀.le g → Rel κ Φ g σ s → chk σ → St j s.heap → (∀ I ∈ Is, ¬ Known Φ g I) →
    (∀ x s', (∀ (K : Unit → Shared → Prop), (∀ g' h' tk, g.le g' → VR g' v x → Rel κ Φ g' σ { s with heap := h', toks := tk } → (∀ I ∈ Is, ¬ Known Φ g' I) → St (j + 1) h' → K () { s with heap := h', toks := tk }) →
      wpAny (model κ.P.prog Φ.w) Φ.A (letOwnedTupleGo target it x) K NoE s') → Q (some x) s') → wpAny (model κ.P.prog Φ.w) Φ.A (pyNext it) Q NoE s
  stop : ∀ g σ s (Q : Option Value → Shared → Prop), g₀.le g → Rel κ Φ g σ s → chk σ → St items.length s.heap → (∀ I ∈ Is, ¬ Known Φ g I) →
    (∀ h' tk, Rel κ Φ g σ { s with heap := h', toks := tk } → Q none { s with heap := h', toks := tk }) → wpAny (model κ.P.prog Φ.w) Φ.A (pyNext it) Q NoE s
  frame : ∀ j g σ s g' σ' s', Rel κ Φ g σ s → Rel κ Φ g' σ' s' → g₀.le g → g.le g' → St j s.heap → (∀ I ∈ Is, ∀ o, s.heap.get? I = some o → s'.heap.get? I = some o) → St j s'.heap
  self : ∀ j s (Q : Value → Shared → Prop), St j s.heap → Q it s → wpAny (model κ.P.prog Φ.w) Φ.A (pyIter it) Q NoE s

def forL (chk : St → Prop) (tgt : V → W Unit) (body : W Fl) : List V → W Fl
  | [], Q, σ => chk σ ∧ Q .next σ
  | v :: vs, Q, σ => chk σ ∧ tgt v (fun _ σ₁ => body (fun fl σ₂ => match fl with
    | .next => forL chk tgt body vs Q σ₂
    | .cont => forL chk tgt body vs Q σ₂
    | .brk => Q .next σ₂
    | .ret u => Q (.ret u) σ₂) σ₁) σ
theorem forL_chk {chk : St → Prop} {tgt : V → W Unit} {body : W Fl} {l : List V} {Q : Fl → St → Prop} {σ : St} (h : forL chk tgt body l Q σ) : chk σ := by
  cases l <;> exact h.1

/-- the pins of a source's own objects -/
def pinsOf (h : Heap) (Is : List Addr) : List (Addr × Obj) := Is.filterMap fun I => (h.get? I).map fun o => (I, o)
theorem mem_pinsOf {h : Heap} {Is : List Addr} {p : Addr × Obj} : p ∈ pinsOf h Is ↔ p.1 ∈ Is ∧ h.get? p.1 = some p.2 := by
  unfold pinsOf
  rw [List.mem_filterMap]
  constructor
  · rintro ⟨I, hI, e⟩
    cases q : h.get? I with
    | none => rw [q] at e; cases e
    | some o => rw [q] at e; cases e; exact ⟨hI, q⟩
  · rintro ⟨hI, e⟩
    exact ⟨p.1, hI, by rw [e]; rfl⟩

theorem for_src {κ : Kap} {Φ : Ctx} (ok : Ctx.Ok κ Φ) {g : G} {σ : St} {s : Shared} {target : Expr} {it : Value} {Is : List Addr} {S : Nat → Heap → Prop} {items : List V} {chk : St → Prop} {tgt : V → W Unit} {body : List Stmt} {fb : W Fl} {Q : Fl → St → Prop}
    (src : Src κ Φ g target it Is S items chk) (ht : SA κ target tgt) (hb : SB κ body fb) (R : Rel κ Φ g σ s) (h0 : S 0 s.heap) (hI : ∀ I ∈ Is, ¬ Known Φ g I) (h : forL chk tgt fb items Q σ) :
    codeAny (model κ.P.prog Φ.w) Φ.A (.forLoop target it body [] Φ.env) (fun r s' => match r with | .ok f => PF κ Φ g Q f s' | .error _ => False) s := by
  refine codeAny_forLoop_any (fun n s => ∃ j g' σ', n + j = items.length ∧ g.le g' ∧ Rel κ Φ g' σ' s ∧ S j s.heap ∧ (∀ I ∈ Is, ¬ Known Φ g' I) ∧ forL chk tgt fb (items.drop j) Q σ') (fun n s₁ hn => ?_) items.length ⟨0, g, σ, by omega, .refl g, R, h0, hI, by simpa using h⟩
  obtain ⟨j, g₁, σ₁, hj, le₁, R₁, hS, hI₁, hf⟩ := hn
  have hck := forL_chk hf
  cases n with
  | zero =>
    have hj' : j = items.length := by omega
    subst hj'
    rw [List.drop_length] at hf
    refine wpAny_mono (src.stop g₁ σ₁ s₁ _ le₁ R₁ hck hS hI₁ fun h' tk R' => ?_) (fun _ _ p => p) fun _ _ e => e.elim
    exact wpAny_execs_nil ⟨g₁, .next, σ₁, le₁, R', by simp only [FlR], hf.2⟩
  | succ n =>
    have hjl : j < items.length := by omega
    have hd : items.drop j = items[j] :: items.drop (j + 1) := List.drop_eq_getElem_cons hjl
    rw [hd] at hf
    refine wpAny_mono (src.next j items[j] g₁ σ₁ s₁ _ (List.getElem?_eq_getElem hjl) le₁ R₁ hck hS hI₁ fun x s' hgo => ?_) (fun _ _ p => p) fun _ _ e => e.elim
    refine wpAny_mono (hgo (fun _ s'' => wpAny (model κ.P.prog Φ.w) Φ.A (assign target Φ.env x) (fun _ s₂ => wpAny (model κ.P.prog Φ.w) Φ.A (execs body Φ.env) (fun f s₃ => match f with
        | .next | .cont => ∃ m, m < n + 1 ∧ ∃ j g' σ', m + j = items.length ∧ g.le g' ∧ Rel κ Φ g' σ' s₃ ∧ S j s₃.heap ∧ (∀ I ∈ Is, ¬ Known Φ g' I) ∧ forL chk tgt fb (items.drop j) Q σ'
        | .brk => PF κ Φ g Q .next s₃
        | .ret v => PF κ Φ g Q (.ret v) s₃) NoE s₂) NoE s'') fun g₂ h' tk le₂ rx R₂ hI₂ hS₂ => ?_) (fun _ s'' p => wpAny_mono p (fun _ s₂ p => wpAny_mono p (fun f s₃ p => ?_) fun _ _ e => e.elim) fun _ _ e => e.elim) fun _ _ e => e.elim
    · let ps := pinsOf h' Is
      have hp1 : ∀ p ∈ ps, h'.get? p.1 = some p.2 := fun p hp => (mem_pinsOf.mp hp).2
      have hp2 : ∀ p ∈ ps, ¬ Known Φ g₂ p.1 := fun p hp => hI₂ _ (mem_pinsOf.mp hp).1
      have hd' : ∀ p ∈ ps, ∀ q ∈ Φ.pins, q.1 ≠ p.1 := fun p hp q hq e => hp2 p hp (.inr (.inr (.inl ⟨q, hq, e⟩)))
      have RP := R₂.pin hp1 hp2
      refine wpAny_mono (ht (Φ.pin ps) (ok.pin ps) g₂ σ₁ _ _ _ _ RP rx hf.2) (fun _ s₂ p => ?_) fun _ _ e => e
      obtain ⟨g₃, σ₃, le₃, R₃, q₃⟩ := p
      refine wpAny_mono (hb (Φ.pin ps) (ok.pin ps) g₃ σ₃ s₂ _ R₃ q₃) (fun f s₃ p => ?_) fun _ _ e => e
      obtain ⟨g₄, fl, σ₄, le₄, R₄, rf, q₄⟩ := p
      obtain ⟨R₅, k1, k2⟩ := R₄.unpin hd'
      have le := ((le₁.trans le₂).trans le₃).trans le₄
      have cont : forL chk tgt fb (items.drop (j + 1)) Q σ₄ → ∃ m, m < n + 1 ∧ ∃ j g' σ', m + j = items.length ∧ g.le g' ∧ Rel κ Φ g' σ' s₃ ∧ S j s₃.heap ∧ (∀ I ∈ Is, ¬ Known Φ g' I) ∧ forL chk tgt fb (items.drop j) Q σ' := fun hq => by
        refine ⟨n, by omega, j + 1, g₄, σ₄, by omega, le, R₅, ?_, fun I hI => ?_, hq⟩
        · refine src.frame (j + 1) g₂ σ₁ _ g₄ σ₄ s₃ R₂ R₅ (le₁.trans le₂) (le₃.trans le₄) hS₂ fun I hI o ho => k1 (I, o) (mem_pinsOf.mpr ⟨hI, ho⟩)
        · obtain ⟨o, ho⟩ := src.here _ _ hS₂ I hI
          exact k2 (I, o) (mem_pinsOf.mpr ⟨hI, ho⟩)
      cases fl with
      | next => simp only [FlR] at rf; subst rf; exact cont q₄
      | cont => simp only [FlR] at rf; subst rf; exact cont q₄
      | brk => simp only [FlR] at rf; subst rf; exact ⟨g₄, .next, σ₄, le, R₅, by simp only [FlR], q₄⟩
      | ret v => simp only [FlR] at rf; obtain ⟨x, rfl, rv⟩ := rf; exact ⟨g₄, .ret v, σ₄, le, R₅, by simp only [FlR]; exact ⟨x, rfl, rv⟩, q₄⟩
    · cases f <;> exact p

/-- the same source, in whatever frame -/
def SrcAll (P : Prg) (w : World) (A : Around) (g : G) (target : Expr) (it : Value) (Is : List Addr) (S : Nat → Heap → Prop) (items : List V) (chk : List O → Prop) : Prop :=
  ∀ (κ : Kap) (Φ : Ctx), κ.P = P → Φ.w = w → Φ.A = A → Src κ Φ g target it Is S items (fun σ => chk σ.objs)

/-- an iterable expression of a loop -/
def SI (κ : Kap) (target iter : Expr) (f : W (List V × (List O → Prop))) : Prop :=
  ∀ Φ, Ctx.Ok κ Φ → ∀ g σ s Q, Rel κ Φ g σ s → f Q σ → wpAny (model κ.P.prog Φ.w) Φ.A (eval iter Φ.env) (fun x s₁ => wpAny (model κ.P.prog Φ.w) Φ.A (pyIter x)
    (fun it s' => ∃ g' p σ' Is S, g.le g' ∧ Rel κ Φ g' σ' s' ∧ SrcAll κ.P Φ.w Φ.A g' target it Is S p.1 p.2 ∧ S 0 s'.heap ∧ (∀ I ∈ Is, ¬ Known Φ g' I) ∧ Q p σ') NoE s₁) NoE s

def noSet : Expr → Bool
  | .Set .. => false
  | _ => true
theorem noSet_fold {e : Expr} {env : Env} {x : Value} (h : noSet e = true) : foldedSetIterable e env x = pure x := by
  cases e <;> first | rfl | cases h

theorem s_For {κ : Kap} {target iter : Expr} {body : List Stmt} {pos : Pos} {fi : W (List V × (List O → Prop))} {tgt : V → W Unit} {fb : W Fl} (hi : SI κ target iter fi) (ht : SA κ target tgt) (hb : SB κ body fb) (hn : noSet iter = true := by rfl) :
    SS κ (.For target iter body [] pos) (bnd fi fun p => forL (fun σ => p.2 σ.objs) tgt fb p.1) := fun Φ ok g σ s Q R q => by
  refine wpAny_For (wpAny_mono (hi Φ ok g σ s _ R q) (fun x s₁ p => wpAny_mono p (fun it s₂ p => ?_) fun _ _ e => e) fun _ _ e => e) (fun _ => noSet_fold hn)
  obtain ⟨g', ⟨items, chk⟩, σ', Is, S, le, R', src, h0, hI, q'⟩ := p
  refine codeAny_mono (for_src ok (src κ Φ rfl rfl rfl) ht hb R' h0 hI q') fun r s' p => ?_
  cases r with
  | ok f => exact p.le le
  | error e => exact p.elim

end Mine

open PySem PySem.W PyProof.Rows PySem.Calls
set_option Elab.async false
set_option maxRecDepth 100000
set_option linter.unusedVariables false

namespace Mine

/-! ## Sources of items -/

def ownNames : List String := ["enumerate", "zip", "dict_itemiterator", "dict_reverseitemiterator", "odict_iterator", "itertools.zip_longest", "itertools.pairwise"]
theorem lotg {M : Model} {A : Around} {E : Value → Shared → Prop} {s : Shared} {target : Expr} {I : Addr} {x : Value} {o : Obj} {n : String} {K : Unit → Shared → Prop} (ho : s.heap.get? I = some o) (hc : o.cls = .type n) (hn : ownNames.contains n = false) (h : K () s) :
    wpAny M A (letOwnedTupleGo target (.ref I) x) K E s := by
  unfold letOwnedTupleGo
  have fin : ∀ {y : Value}, wpAny M A (do
      let (.ref r, .ref a) := (Value.ref I, y) | return
      let o ← load r
      match o.cls, o.data with
      | .type n, .fields vs =>
        if ["enumerate", "zip", "dict_itemiterator", "dict_reverseitemiterator", "odict_iterator", "itertools.zip_longest", "itertools.pairwise"].contains n && vs[0]? == some (rawInt a) then
          rule "for.unpacks-the-owned-tuple"
          updateField r 0 .none
      | _, _ => pure ()) K E s := by
    intro y
    cases y with
    | ref a =>
      refine wpAny_bind (wpAny_load ho ?_)
      rw [hc]
      cases o.data with
      | fields vs =>
        have hn' : (["enumerate", "zip", "dict_itemiterator", "dict_reverseitemiterator", "odict_iterator", "itertools.zip_longest", "itertools.pairwise"].contains n) = false := hn
        simp only [hn', Bool.false_and, Bool.false_eq_true, if_false]
        exact wpAny_pure h
      | _ => exact wpAny_pure h
    | _ => exact wpAny_pure h
  split
  · exact fin
  · exact fin
  · exact wpAny_pure h

section
variable {κ : Kap} {Φ : Ctx}

theorem notKnown_ne {g : G} {I b : Addr} (h : ¬ Known Φ g I) (k : Known Φ g b) : b ≠ I := fun e => h (e ▸ k)
theorem Rel.sameBut {g : G} {σ : St} {s : Shared} (R : Rel κ Φ g σ s) {I : Addr} (hI : ¬ Known Φ g I) {h' : Heap} {tk : Nat} (hs : Heap.ExtBut I s.heap h') : Rel κ Φ g σ { s with heap := h', toks := tk } :=
  R.ext fun b o k e => hs b o (notKnown_ne hI k) e

/-- a list, frozen or tracked -/
theorem src_list (hh : Φ.A.handled = none) {g₀ : G} {target : Expr} {v : V} {l : List V} {a I : Addr} (rv : VR g₀ v (.ref a)) : Src κ Φ g₀ target (.ref I) [I] (fun j h => h.IsListIter I a j) l (fun σ => seqOf σ.objs v = some l) where
  here := fun j h ⟨o, ho, _⟩ I' hI' => by rw [List.mem_singleton.mp hI']; exact ⟨o, ho⟩
  next := fun j u g σ s Q hu le R hc hS hI hQ => by
    obtain ⟨a', xs, n, e, h1, h2⟩ := R.seq_at (VR.mono le v rv) hc
    cases e
    obtain ⟨x, hx, rx⟩ := h2.get hu
    refine wpAny_pyNext_list_item hS (isList_of h1) (by simpa using hx) fun h' hit hs => hQ x _ fun K hK => ?_
    obtain ⟨o, ho, hc', _⟩ := id hit
    exact lotg (s := { s with heap := h' }) ho hc' (by decide) (hK g h' s.toks (.refl g) rx (R.sameBut (hI I (.head _)) hs.extBut) hI hit)
  stop := fun g σ s Q le R hc hS hI hQ => by
    obtain ⟨a', xs, n, e, h1, h2⟩ := R.seq_at (VR.mono le v rv) hc
    cases e
    refine wpAny_pyNext_list_end hh hS (isList_of h1) (by have := h2.length; simp; omega) fun h' he => hQ h' s.toks (R.sameBut (hI I (.head _)) he)
  frame := fun j g σ s g' σ' s' _ _ _ _ hS hk => by
    obtain ⟨o, ho, r⟩ := hS
    exact ⟨o, hk I (.head _) o ho, r⟩
  self := fun j s Q hS q => wpAny_pyIter_listiter hS q

theorem src_walks {g₀ : G} {target : Expr} {I : Addr} {fp wr : List Addr} {n : Nat} {P : Nat → Value → Prop} {S : Nat → Heap → Prop} {items : List V} (Wk : Walks κ.P.prog Φ.w Φ.A I fp wr n P S) (hwr : ∀ b ∈ wr, b = I) (hfp : ∀ b ∈ fp, b = I ∨ ∃ o, (b, o) ∈ g₀.fz)
    (hn : n = items.length) (hP : ∀ j x, P j x → ∀ v, items[j]? = some v → ∀ g, g₀.le g → VR g v x) (hcls : ∀ j h, S j h → ∃ o T, h.get? I = some o ∧ o.cls = .type T ∧ ownNames.contains T = false) : Src κ Φ g₀ target (.ref I) [I] S items (fun _ => True) where
  here := fun j h hS I' hI' => by rw [List.mem_singleton.mp hI']; obtain ⟨o, _, ho, _⟩ := hcls j h hS; exact ⟨o, ho⟩
  next := fun j u g σ s Q hu le R hc hS hI hQ => by
    have hj : j < n := by rw [hn]; exact (List.getElem?_eq_some_iff.mp hu).1
    refine Wk.item j s Q NoE hj hS fun x h' tk hp hS' hk => hQ x _ fun K hK => ?_
    obtain ⟨o, T, ho, hc', hT⟩ := hcls _ _ hS'
    refine lotg (s := { s with heap := h', toks := tk }) ho hc' hT (hK g h' tk (.refl g) (hP j x hp u hu g le) (R.ext fun b o k e => hk b o (fun hb => notKnown_ne (hI I (.head _)) k (hwr b hb)) e) hI hS')
  stop := fun g σ s Q le R hc hS hI hQ => by
    rw [← hn] at hS
    exact Wk.done s Q NoE hS fun h' tk hk => hQ h' tk (R.ext fun b o k e => hk b o (fun hb => notKnown_ne (hI I (.head _)) k (hwr b hb)) e)
  frame := fun j g σ s g' σ' s' R R' le le' hS hk => by
    refine Wk.frame j _ _ hS fun b hb o ho => ?_
    rcases hfp b hb with rfl | ⟨o', hm⟩
    · exact hk b (.head _) o ho
    · have e1 := R.fz _ (le.1 _ hm)
      have e2 := R'.fz _ (le'.1 _ (le.1 _ hm))
      rw [ho] at e1; cases e1; exact e2
  self := fun j s Q hS q => Wk.self j s Q NoE hS q

/-- the signs of a text -/
def signsV (x : Str) : List V := x.cps.toList.map fun c => .str ⟨#[c]⟩
def itemsW (v : V) : W (List V × (List O → Prop)) := fun Q σ => match v with
  | .str x => Q (signsV x, fun _ => True) σ
  | .tup l => Q (l, fun _ => True) σ
  | v => match seqOf σ.objs v with
    | some l => Q (l, fun os => seqOf os v = some l) σ
    | none => False

theorem push_pack {g : G} {σ : St} {s : Shared} (R : Rel κ Φ g σ s) (o : Obj) : Rel κ Φ g σ { s with heap := s.heap.push o } := R.keeps (tk := s.toks) fun b o e => Heap.get?_push_of_some _ e

theorem i_seq {target iter : Expr} {f : W V} (hi : SE κ iter f) : SI κ target iter (bnd f itemsW) := fun Φ ok g σ s Q R q => by
  refine wpAny_mono (hi Φ ok g σ s _ R q) (fun x s₁ p => ?_) fun _ _ e => e
  obtain ⟨g₁, v, σ₁, le₁, R₁, rv, q₁⟩ := p
  have q₁ : itemsW v Q σ₁ := q₁
  unfold itemsW at q₁
  split at q₁
  · rename_i z _
    simp only [VR] at rv
    obtain ⟨t, rfl⟩ := rv
    have hP : ∀ j x, SignAt z j x → ∀ v, (signsV z)[j]? = some v → ∀ g, g₁.le g → VR g v x := fun j x hx v hv g _ => by
      obtain ⟨c, u, hc, rfl⟩ := hx
      unfold signsV at hv
      rw [List.getElem?_map] at hv
      rw [← Array.getElem?_toList] at hc
      rw [hc] at hv
      simp at hv
      subst hv
      simp only [VR]; exact ⟨_, rfl⟩
    cases ha : z.cps.all (· < 128)
    · refine wpAny_pyIter_wide ha ⟨g₁, (signsV z, fun _ => True), σ₁, [s₁.heap.objs.size], _, le₁, push_pack R₁ _, fun κ' Φ' _ _ eA => src_walks (Walks.strWide (eA ▸ ok.handled) _ z t) (fun b hb => List.mem_singleton.mp hb) (fun b hb => .inl (List.mem_singleton.mp hb)) (by simp [signsV]) hP (fun j h hS => ?_), ⟨_, Heap.get?_push_size _ rfl, rfl, rfl⟩, fun I hI => by rw [List.mem_singleton.mp hI]; exact R₁.fresh, q₁⟩
      obtain ⟨o, ho, hc, _⟩ := hS
      exact ⟨o, _, ho, hc, by decide⟩
    · refine wpAny_pyIter_ascii ha ⟨g₁, (signsV z, fun _ => True), σ₁, [s₁.heap.objs.size], _, le₁, push_pack R₁ _, fun κ' Φ' _ _ eA => src_walks (Walks.strAscii (eA ▸ ok.handled) _ z t) (fun b hb => List.mem_singleton.mp hb) (fun b hb => .inl (List.mem_singleton.mp hb)) (by simp [signsV]) hP (fun j h hS => ?_), ⟨_, Heap.get?_push_size _ rfl, rfl, rfl⟩, fun I hI => by rw [List.mem_singleton.mp hI]; exact R₁.fresh, q₁⟩
      obtain ⟨o, ho, hc, _⟩ := hS
      exact ⟨o, _, ho, hc, by decide⟩
  · rename_i l _
    simp only [VR] at rv
    obtain ⟨ad, xs, n, rfl, hm, h2⟩ := rv
    have h1 := R₁.fz _ hm
    have hne : ad ≠ s₁.heap.objs.size := Nat.ne_of_lt (Heap.lt_size h1)
    refine wpAny_pyIter_tuple (isTuple_of h1) ⟨g₁, (l, fun _ => True), σ₁, [s₁.heap.objs.size], _, le₁, push_pack R₁ _, fun κ' Φ' _ _ eA => src_walks (Walks.tuple (eA ▸ ok.handled) s₁.heap.objs.size ad hne xs.toArray) (fun b hb => List.mem_singleton.mp hb) (fun b hb => ?_) (by simp [h2.length]) (fun j x hx v hv g le => ?_) (fun j h hS => ?_),
      ⟨⟨_, Heap.get?_push_size _ rfl, rfl, rfl⟩, isTuple_of (Heap.get?_push_of_some _ h1)⟩, fun I hI => by rw [List.mem_singleton.mp hI]; exact R₁.fresh, q₁⟩
    · rcases List.mem_cons.mp hb with rfl | hb
      · exact .inl rfl
      · rw [List.mem_singleton.mp hb]; exact .inr ⟨_, hm⟩
    · obtain ⟨x', hx', rx⟩ := h2.get hv
      have : xs[j]? = some x := by simpa using hx
      rw [this] at hx'; cases hx'
      exact VR.mono le v rx
    · obtain ⟨⟨o, ho, hc, _⟩, _⟩ := hS
      exact ⟨o, _, ho, hc, by decide⟩
  · split at q₁
    · rename_i l hl
      obtain ⟨ad, xs, n, rfl, h1, h2⟩ := R₁.seq_at rv hl
      refine wpAny_pyIter_list (isList_of h1) ⟨g₁, (l, fun os => seqOf os v = some l), σ₁, [s₁.heap.objs.size], _, le₁, push_pack R₁ _, fun κ' Φ' _ _ eA => src_list (eA ▸ ok.handled) rv, ⟨_, Heap.get?_push_size _ rfl, rfl, rfl⟩, fun I hI => by rw [List.mem_singleton.mp hI]; exact R₁.fresh, q₁⟩
    · exact q₁.elim
end
end Mine

open PySem PySem.W PyProof.Rows PySem.Calls
set_option Elab.async false
set_option maxRecDepth 100000
set_option linter.unusedVariables false

namespace Mine

section
variable {κ : Kap}

theorem callName_gen {Φ : Ctx} (ok : Ctx.Ok κ Φ) {x : Str} {p pos : Pos} {args : List Expr} {fa : W (List V)} {fv : Value} (hx : gbl κ x fv = true) (ha : SEs κ args fa) (hkeep : Keep κ fv) (hp : plainArgs args = true)
    {g : G} {σ : St} {s : Shared} {QQ : List V → St → Prop} {Post : Value → Shared → Prop} (R : Rel κ Φ g σ s) (h : fa QQ σ)
    (step : ∀ g' vs xs σ' s', g.le g' → Rel κ Φ g' σ' s' → VRs g' vs xs → QQ vs σ' → wpAny (model κ.P.prog Φ.w) Φ.A (call fv xs []) Post NoE s') :
    wpAny (model κ.P.prog Φ.w) Φ.A (eval (.Call (.Name x p) args [] pos) Φ.env) Post NoE s := by
  refine wpAny_Call_Name_kw (wpAny_mono (r_Glob (pos := p) hx Φ ok g σ s (fun v σ' => v = .glob fv ∧ σ' = σ) R ⟨rfl, rfl⟩) (fun y s₁ h => ?_) fun _ _ e => e)
  obtain ⟨g₁, a, σ₁, le₁, R₁, ra, rfl, rfl⟩ := h
  simp only [VR] at ra
  subst ra
  refine callWith_of (P := fun h => KeepsH Φ.h₀ h) (by rw [star_plain args hp, (kw_some [] rfl).2]; rfl) (fun h hh => keep_looks ok hkeep _ h hh) ?_
  refine wpAny_mono (args_sound ok ha rk_nil hp rfl (Q := fun vs _ => QQ vs) R₁ h) (fun a s₂ p => ?_) fun _ _ e => e
  obtain ⟨g', vs, xs, kvs, kxs, σ', rfl, le, R', rv, rk, q⟩ := p
  exact ⟨R'.keep, step g' vs xs σ' s₂ (le₁.trans le) R' rv q⟩

/-! ### range -/
def rangeV (a b : Int) : List V := (List.range (b - a).toNat).map fun (i : Nat) => V.int (a + (i : Int))
def rangeW (vs : List V) : W (List V × (List O → Prop)) := fun Q σ => match vs with
  | [.int n] => -(2 ^ 62) ≤ n ∧ n < 2 ^ 62 ∧ Q (rangeV 0 n, fun _ => True) σ
  | [.int a, .int b] => (-(2 ^ 61) ≤ a ∧ a < 2 ^ 61) ∧ (-(2 ^ 61) ≤ b ∧ b < 2 ^ 61) ∧ Q (rangeV a b, fun _ => True) σ
  | _ => False

theorem range_src {Φ : Ctx} (ok : Ctx.Ok κ Φ) {g : G} {σ : St} {s : Shared} {target : Expr} {a b : Int} {t u v : Tok} {r : Addr} {Q : List V × (List O → Prop) → St → Prop} {g₀ : G} (le₀ : g₀.le g) (R : Rel κ Φ g σ s) (hr : IsRange s.heap r a b 1 t u v)
    (ha : -(2 ^ 62) ≤ a ∧ a < 2 ^ 62) (hb : -(2 ^ 62) ≤ b ∧ b < 2 ^ 62) (hab : b - a < 2 ^ 62) (q : Q (rangeV a b, fun _ => True) σ) :
    wpAny (model κ.P.prog Φ.w) Φ.A (pyIter (.ref r)) (fun it s' => ∃ g' p σ' Is S, g₀.le g' ∧ Rel κ Φ g' σ' s' ∧ SrcAll κ.P Φ.w Φ.A g' target it Is S p.1 p.2 ∧ S 0 s'.heap ∧ (∀ I ∈ Is, ¬ Known Φ g' I) ∧ Q p σ') NoE s := by
  have hsz : Builtin.Range.rangeSize a b 1 = ((b - a).toNat : Int) := by
    rw [rangeSize_one]; split <;> omega
  have hsmall : Builtin.Range.small a b 1 = true := by
    unfold Builtin.Range.small
    rw [hsz]
    simp only [Builtin.Range.rangeFitsLong, Bool.and_eq_true, Bool.or_eq_true, decide_eq_true_eq]
    refine ⟨⟨⟨⟨?_, ?_⟩, ?_⟩, ?_⟩, .inr ?_⟩
    · omega
    · omega
    · omega
    · omega
    · simp only [gt_iff_lt, Int.reduceLT, if_true, decide_eq_true_eq]; simp; omega
  refine wpAny_pyIter_range hr hsmall ?_
  refine ⟨g, (rangeV a b, fun _ => True), σ, [s.heap.objs.size], _, le₀, push_pack R _, fun κ' Φ' _ _ eA => src_walks (Walks.range (eA ▸ ok.handled) s.heap.objs.size a 1 (b - a).toNat) (fun b hb => List.mem_singleton.mp hb) (fun b hb => .inl (List.mem_singleton.mp hb)) (by simp [rangeV]) (fun j x hx v hv g' le => ?_) (fun j h hS => ⟨_, _, hS, rfl, by decide⟩), ?_, fun I hI => (by rw [List.mem_singleton.mp hI]; exact R.fresh), q⟩
  · obtain ⟨t, rfl⟩ := hx
    unfold rangeV at hv
    rw [List.getElem?_map, List.getElem?_range] at hv
    · simp at hv; subst hv
      simp only [VR]; exact ⟨t, by simp⟩
    · cases hx : (List.range (b - a).toNat)[j]? with
      | none => rw [hx] at hv; cases hv
      | some y => have := (List.getElem?_eq_some_iff.mp hx).1; simpa using this
  · show IsRangeIter _ _ _ _ _
    rw [hsz]
    have := Heap.get?_push_size s.heap (o := { cls := .type "range_iterator", data := .fields #[rawInt a, rawInt ((b - a).toNat : Int), rawInt 1] }) rfl
    simpa [IsRangeIter] using this

theorem i_range {target : Expr} {x : Str} {p pos : Pos} {args : List Expr} {fa : W (List V)} (hx : gbl κ x (.type "range") = true) (ha : SEs κ args fa) (hp : plainArgs args = true := by rfl) : SI κ target (.Call (.Name x p) args [] pos) (bnd fa rangeW) := fun Φ ok g σ s Q R q => by
  refine callName_gen ok hx ha keep_type hp R q fun g' vs xs σ' s' le R' rv q' => ?_
  have q' : rangeW vs Q σ' := q'
  unfold rangeW at q'
  split at q'
  · simp only [VRs, VR] at rv
    obtain ⟨_, _, rfl, ⟨t, rfl⟩, rfl⟩ := rv
    obtain ⟨h1, h2, q'⟩ := q'
    refine call_range_1 (range_src ok le ((push_pack R' _).tok _) (Heap.get?_push_size _ rfl) (by omega) (by omega) (by omega) q')
  · simp only [VRs, VR] at rv
    obtain ⟨_, _, rfl, ⟨t, rfl⟩, _, _, rfl, ⟨u, rfl⟩, rfl⟩ := rv
    obtain ⟨h1, h2, q'⟩ := q'
    refine call_range_2 (range_src ok le ((push_pack R' _).tok _) (Heap.get?_push_size _ rfl) (by omega) (by omega) (by omega) q')
  · exact q'.elim

/-! ### enumerate of a list -/
def enumV : Nat → List V → List V
  | _, [] => []
  | i, v :: l => .tup [.int i, v] :: enumV (i + 1) l
theorem enumV_get : ∀ {l : List V} {i j : Nat} {u : V}, (enumV i l)[j]? = some u → ∃ v, l[j]? = some v ∧ u = .tup [.int ((i + j : Nat) : Int), v]
  | [], _, _, _, h => by simp [enumV] at h
  | v :: l, i, 0, u, h => by simp [enumV] at h; exact ⟨v, rfl, by rw [← h]; simp⟩
  | v :: l, i, j + 1, u, h => by
    simp [enumV] at h
    obtain ⟨w, h1, h2⟩ := enumV_get h
    exact ⟨w, by simpa using h1, by rw [h2]; congr 4; omega⟩
theorem enumV_len : ∀ (l : List V) (i : Nat), (enumV i l).length = l.length
  | [], _ => rfl
  | _ :: l, i => by simp [enumV, enumV_len l]
def enumW (vs : List V) : W (List V × (List O → Prop)) := fun Q σ => match vs with
  | [v] => (match seqOf σ.objs v with
    | some l => Q (enumV 0 l, fun os => seqOf os v = some l) σ
    | none => False)
  | _ => False
theorem src_enum {Φ : Ctx} (hh : Φ.A.handled = none) {g₀ : G} {elts : List Expr} {k : Nat} {tp : Pos} {v : V} {l : List V} {a e I : Addr} (hne : e ≠ I) (rv : VR g₀ v (.ref a)) :
    Src κ Φ g₀ (.Tuple elts k tp) (.ref e) [e, I] (fun j h => (∃ old, IsEnum h e I j old) ∧ h.IsListIter I a j) (enumV 0 l) (fun σ => seqOf σ.objs v = some l) where
  here := fun j h ⟨⟨old, h1⟩, ⟨o, ho, _⟩⟩ I' hI' => by
    rcases List.mem_cons.mp hI' with rfl | hI'
    · exact ⟨_, h1⟩
    · rw [List.mem_singleton.mp hI']; exact ⟨o, ho⟩
  next := fun j u g σ s Q hu le R hc hS hI hQ => by
    obtain ⟨a', xs, n, ea, h1, h2⟩ := R.seq_at (VR.mono le v rv) hc
    cases ea
    obtain ⟨w, hw, rfl⟩ := enumV_get hu
    obtain ⟨x, hx, rx⟩ := h2.get hw
    obtain ⟨⟨old, he⟩, hit⟩ := hS
    have nke := hI e (.head _)
    have nkI := hI I (.tail _ (.head _))
    refine wpAny_pyNext_enum_item he hit (isList_of h1) (by simpa using hx) hne fun h' he' hit' ht hsz hk => hQ _ _ fun K hK => ?_
    refine wpAny_letOwnedTupleGo_enum he' fun h'' he'' hs'' => ?_
    have hTne : s.heap.objs.size ≠ e := Nat.ne_of_gt (Heap.lt_size (show s.heap.get? e = some _ from he))
    have R1 : Rel κ Φ g σ { s with heap := h'', toks := s.toks + 1 } := R.ext fun b o kb e0 => hs''.extBut b o (notKnown_ne nke kb) (hk b o (notKnown_ne nke kb) (notKnown_ne nkI kb) e0)
    have hT : h''.get? s.heap.objs.size = some (tupO [.int j s.toks, x] 0) := hs''.extBut _ _ hTne ht
    obtain ⟨R2, le2⟩ := R1.freeze hT R.fresh
    refine hK _ h'' (s.toks + 1) le2 ?_ R2 (fun I' hI' kn => ?_) ⟨⟨x, by have := he''; simpa using this⟩, ?_⟩
    · simp only [VR]
      exact ⟨_, _, 0, rfl, .head _, by simp only [VRs, VR]; exact ⟨_, _, rfl, ⟨s.toks, by simp⟩, _, _, rfl, VR.mono le2 _ rx, rfl⟩⟩
    · have hlt : I' < s.heap.objs.size := by
        rcases List.mem_cons.mp hI' with rfl | hI'
        · exact Heap.lt_size he
        · rw [List.mem_singleton.mp hI']; obtain ⟨o, ho, _⟩ := hit; exact Heap.lt_size ho
      rcases kn with kn | ⟨p, hp, e1⟩ | kn | kn
      · exact hI I' hI' (.inl kn)
      · rcases List.mem_cons.mp hp with rfl | hp
        · exact absurd e1 (Nat.ne_of_gt hlt)
        · exact hI I' hI' (.inr (.inl ⟨p, hp, e1⟩))
      · exact hI I' hI' (.inr (.inr (.inl kn)))
      · exact hI I' hI' (.inr (.inr (.inr kn)))
    · obtain ⟨o, ho, r⟩ := hit'
      exact ⟨o, hs''.extBut _ _ hne.symm ho, r⟩
  stop := fun g σ s Q le R hc hS hI hQ => by
    obtain ⟨a', xs, n, ea, h1, h2⟩ := R.seq_at (VR.mono le v rv) hc
    cases ea
    obtain ⟨⟨old, he⟩, hit⟩ := hS
    refine wpAny_pyNext_enum_end hh he hit (isList_of h1) (by have := h2.length; have := enumV_len l 0; simp; omega) fun h' he' => hQ h' s.toks (R.sameBut (hI I (.tail _ (.head _))) he')
  frame := fun j g σ s g' σ' s' _ _ _ _ hS hk => by
    obtain ⟨⟨old, he⟩, ⟨o, ho, r⟩⟩ := hS
    exact ⟨⟨old, hk e (.head _) _ he⟩, ⟨o, hk I (.tail _ (.head _)) o ho, r⟩⟩
  self := fun j s Q hS q => by
    obtain ⟨⟨old, he⟩, _⟩ := hS
    exact wpAny_pyIter_enum he q

theorem i_enum {elts : List Expr} {k : Nat} {tp : Pos} {x : Str} {p pos : Pos} {args : List Expr} {fa : W (List V)} (hx : gbl κ x (.type "enumerate") = true) (ha : SEs κ args fa) (hp : plainArgs args = true := by rfl) :
    SI κ (.Tuple elts k tp) (.Call (.Name x p) args [] pos) (bnd fa enumW) := fun Φ ok g σ s Q R q => by
  refine callName_gen ok hx ha keep_type hp R q fun g' vs xs σ' s' le R' rv q' => ?_
  have q' : enumW vs Q σ' := q'
  unfold enumW at q'
  split at q'
  · rename_i v _
    split at q'
    · rename_i l hl
      simp only [VRs] at rv
      obtain ⟨_, _, rfl, rv, rfl⟩ := rv
      obtain ⟨a, ys, n, rfl, h1, h2⟩ := R'.seq_at rv hl
      refine call_enumerate_1 h1 fun h' he hit hsz hk => ?_
      have R1 : Rel κ Φ g' σ' { s' with heap := h' } := R'.keeps (tk := s'.toks) hk
      refine wpAny_pyIter_enum he ⟨g', (enumV 0 l, fun os => seqOf os v = some l), σ', [s'.heap.objs.size + 1, s'.heap.objs.size], _, le, R1, fun κ' Φ' _ _ eA => src_enum (eA ▸ ok.handled) (Nat.succ_ne_self _) rv, ⟨⟨_, he⟩, hit⟩, fun I hI kn => ?_, q'⟩
      obtain ⟨o, ho⟩ := R'.known kn
      have := Heap.lt_size ho
      rcases List.mem_cons.mp hI with rfl | hI
      · exact absurd this (Nat.not_lt.mpr (Nat.le_succ _))
      · rw [List.mem_singleton.mp hI] at this; exact absurd this (Nat.lt_irrefl _)
    · exact q'.elim
  · exact q'.elim
end
end Mine

open PySem PySem.W PyProof.Rows PySem.Calls
set_option Elab.async false
set_option maxRecDepth 100000
set_option linter.unusedVariables false

namespace Mine

/-! ## Comprehensions -/

def closG (cells : List (Str × Addr)) : List (Str × NameKind) → List (Str × Addr) → List (Str × Addr)
  | [], acc => acc
  | (n, k) :: r, acc => if k == .free then closG cells r ((n, (cells.lookup n).getD 0) :: acc) else closG cells r acc

theorem closureFor_eq {scope : Scope} {env : Env} (h : ∀ x ∈ scope.names, x.2 = .free → (env.cells.lookup x.1).isSome = true) : closureFor scope env = pure (closG env.cells scope.names []) := by
  simp only [closureFor]
  have key : ∀ (names : List (Str × NameKind)) (acc : List (Str × Addr)), (∀ x ∈ names, x.2 = .free → (env.cells.lookup x.1).isSome = true) →
      (forIn names acc fun x r => if (x.2 == NameKind.free) = true then do let a ← cellOf env x.1; pure (ForInStep.yield ((x.1, a) :: r)) else pure (ForInStep.yield r) : Sem (List (Str × Addr))) = pure (closG env.cells names acc) := by
    intro names
    induction names with
    | nil => intro acc _; rfl
    | cons p r ih =>
      intro acc hh
      obtain ⟨n, k⟩ := p
      rw [List.forIn_cons]
      by_cases hk : (k == NameKind.free) = true
      · obtain ⟨c, hc⟩ := Option.isSome_iff_exists.mp (hh (n, k) (.head _) (by simpa using hk))
        simp only [hk, if_true, cellOf, hc, closG, Option.getD]
        exact ih _ fun x hx => hh x (.tail _ hx)
      · simp only [hk, Bool.false_eq_true, if_false, closG]
        exact ih _ fun x hx => hh x (.tail _ hx)
  exact (congrArg (fun m => m >>= pure) (key scope.names [] h)).trans rfl

theorem closG_lookup {cells : List (Str × Addr)} : ∀ {names : List (Str × NameKind)} {acc : List (Str × Addr)}, (∀ x ∈ names, x.2 = .free → (cells.lookup x.1).isSome = true) → (∀ x c, (x, c) ∈ acc → cells.lookup x = some c) →
    ∀ x c, (x, c) ∈ closG cells names acc → cells.lookup x = some c
  | [], _, _, h, x, c, e => h x c e
  | (n, k) :: r, acc, hh, h, x, c, e => by
    unfold closG at e
    split at e
    · rename_i hk
      refine closG_lookup (fun y hy => hh y (.tail _ hy)) (fun y d hm => ?_) x c e
      rcases List.mem_cons.mp hm with q | q
      · cases q
        obtain ⟨c', hc⟩ := Option.isSome_iff_exists.mp (hh (n, k) (.head _) (by simpa using hk))
        simp only at hc; rw [hc]; rfl
      · exact h y d q
    · exact closG_lookup (fun y hy => hh y (.tail _ hy)) h x c e
theorem closG_mem {cells : List (Str × Addr)} : ∀ {names : List (Str × NameKind)} {acc : List (Str × Addr)} {x : Str}, ((x, NameKind.free) ∈ names ∨ x ∈ acc.map (·.1)) → x ∈ (closG cells names acc).map (·.1)
  | [], _, _, h => h.elim (fun h => nomatch h) id
  | (n, k) :: r, acc, x, h => by
    unfold closG
    split
    · refine closG_mem ?_
      rcases h with h | h
      · rcases List.mem_cons.mp h with q | q
        · cases q; exact .inr (.head _)
        · exact .inl q
      · exact .inr (.tail _ h)
    · rename_i hk
      refine closG_mem ?_
      rcases h with h | h
      · rcases List.mem_cons.mp h with q | q
        · cases q; exact absurd rfl hk
        · exact .inl q
      · exact .inr h

def relN (outer : List (Str × NameKind)) (names : List (Str × NameKind)) : List (Str × NameKind) :=
  names.map fun (n, k) => if (k == .free && outer.lookup n == some .cell) then (n, .cell) else (n, k)
theorem relN_look {outer : List (Str × NameKind)} {x : Str} : ∀ {names : List (Str × NameKind)}, (∀ y ∈ names, y.2 ≠ .cell) → (relN outer names).lookup x = some .cell → (x, NameKind.free) ∈ names ∧ outer.lookup x = some .cell
  | [], _, h => by cases h
  | (n, k) :: r, hc, h => by
    have e : relN outer ((n, k) :: r) = (if (k == .free && outer.lookup n == some .cell) then (n, .cell) else (n, k)) :: relN outer r := rfl
    rw [e] at h
    split at h
    · rename_i hk
      rw [List.lookup_cons] at h
      split at h
      · rename_i hx
        simp only [Bool.and_eq_true, beq_iff_eq] at hk hx
        rw [hx, ← hk.1]; exact ⟨.head _, hk.2⟩
      · obtain ⟨a, b⟩ := relN_look (fun y hy => hc y (.tail _ hy)) h
        exact ⟨.tail _ a, b⟩
    · rw [List.lookup_cons] at h
      split at h
      · exact absurd (Option.some.inj h) (hc (n, k) (.head _))
      · obtain ⟨a, b⟩ := relN_look (fun y hy => hc y (.tail _ hy)) h
        exact ⟨.tail _ a, b⟩

def compOk (κ : Kap) (scope : Scope) (vars : List Str) (caps : List (Option Nat)) : Bool :=
  κ.fn && scope.kind == .function && scope.names.all (fun y => y.2 != .cell && (y.2 != .local || scope.names.lookup y.1 == some .local) && (y.2 != .free || κ.names.lookup y.1 == some .cell))
    && vars.length == caps.length && (vars.zip caps).all (fun y => match y.2 with | some k => slot κ.vars y.1 == some k && (relN κ.names scope.names).lookup y.1 == some .cell | none => true)
structure CompIs (κ : Kap) (scope : Scope) (vars : List Str) (caps : List (Option Nat)) : Prop where
  fn : κ.fn = true
  kind : scope.kind = .function
  nocell : ∀ y ∈ scope.names, y.2 ≠ .cell
  loc : ∀ y ∈ scope.names, y.2 = .local → scope.names.lookup y.1 = some .local
  free : ∀ y ∈ scope.names, y.2 = .free → κ.names.lookup y.1 = some .cell
  len : vars.length = caps.length
  caps : ∀ (i : Nat) x k, vars[i]? = some x → caps[i]? = some (some k) → slot κ.vars x = some k ∧ (relN κ.names scope.names).lookup x = some .cell
theorem compIs_of {κ : Kap} {scope : Scope} {vars : List Str} {caps : List (Option Nat)} (h : compOk κ scope vars caps = true) : CompIs κ scope vars caps := by
  simp only [compOk, Bool.and_eq_true, beq_iff_eq, List.all_eq_true] at h
  obtain ⟨⟨⟨⟨h1, h2⟩, h3⟩, h4⟩, h5⟩ := h
  refine ⟨h1, h2, fun y hy => ?_, fun y hy hk => ?_, fun y hy hk => ?_, h4, fun i x k hx hc => ?_⟩
  · have := (h3 y hy).1.1; simpa using this
  · have := (h3 y hy).1.2; simpa [hk] using this
  · have := (h3 y hy).2; simpa [hk] using this
  · have hz : (vars.zip caps)[i]? = some (x, some k) := by rw [List.getElem?_zip_eq_some]; exact ⟨hx, hc⟩
    have := h5 _ (List.mem_of_getElem? hz)
    simpa using this

theorem relabel_names {κ : Kap} {Φ : Ctx} (ok : Ctx.Ok κ Φ) (scope : Scope) : (relabel scope Φ.env).names = relN κ.names scope.names := by
  show (scope.names.map fun (y : Str × NameKind) => match y with | (n, k) => if (k == NameKind.free && Φ.env.scope.kind == ScopeKind.function && Φ.env.kindOf n == some NameKind.cell) then (n, NameKind.cell) else (n, k)) = _
  unfold relN
  apply List.map_congr_left
  intro y _
  obtain ⟨n, k⟩ := y
  show (if (k == NameKind.free && Φ.env.scope.kind == ScopeKind.function && Φ.env.kindOf n == some NameKind.cell) = true then (n, NameKind.cell) else (n, k)) = _
  rw [ok.kind, ok.kinds n]
  simp

section
variable {prog : Program} {w : World} {A : Around} {R : Result → Shared → Prop} {s : Shared}
theorem compLoop_any {elt target iter : Expr} {ifs : List Expr} {scope : Scope} {pos : Pos} {it acc : Value} {env : Env} (I : Nat → Shared → Prop)
    (turn : ∀ n s, I n s → wpAny (model prog w) A (pyNext it) (fun r s₁ => match r with
      | none => R (.ok .next) s₁
      | some v => wpAny (model prog w) A (letOwnedTupleGo target it v) (fun _ s₁' => wpAny (model prog w) A (assign target env v) (fun _ s₂ =>
          wpAny (model prog w) A (forIn ifs true fun c r => if r = true then do let ok ← isTrue c env (eval c env); pure (ForInStep.yield ok) else pure (ForInStep.yield r)) (fun ok s₃ =>
            if ok = true then wpAny (model prog w) A (eval elt env) (fun x s₄ =>
              wpAny (model prog w) A (call (.builtin "list.append") [acc, x]) (fun _ s₅ => ∃ m, m < n ∧ I m s₅) NoE s₄) NoE s₃
            else ∃ m, m < n ∧ I m s₃) NoE s₂) NoE s₁') NoE s₁) NoE s)
    (n : Nat) (h : I n s) :
    codeAny (model prog w) A (.compLoop (.ListComp elt [⟨target, iter, ifs, 0⟩] scope pos) 0 it acc env) R s := by
  refine codeAny_loop rfl I (fun n s hI => ?_) n h
  show wpAny _ A ((compTurn (.ListComp elt [⟨target, iter, ifs, 0⟩] scope pos) 0 it acc env).onRaise (fun x => do noteFrame x env; theTreesLotGoes x)) _ _ s
  refine wpAny_noted ?_
  rw [compTurn_list]
  refine wpAny_bind (wpAny_standAt (wpAny_bind (wpAny_mono (turn n s hI) (fun r s₁ h₁ => ?_) fun _ _ h' => h'.elim)))
  cases r with
  | none => exact wpAny_pure h₁
  | some v =>
    refine wpAny_bind (wpAny_mono h₁ (fun _ s₁' h₁ => ?_) fun _ _ h' => h'.elim)
    refine wpAny_bind (wpAny_mono h₁ (fun _ s₂ h₂ => wpAny_bind (wpAny_mono h₂ (fun ok s₃ h₃ => ?_) fun _ _ h' => h'.elim)) fun _ _ h' => h'.elim)
    cases ok with
    | false => exact wpAny_pure ⟨rfl, h₃⟩
    | true =>
      exact wpAny_bind (wpAny_bind (wpAny_mono h₃ (fun x s₄ h₄ => wpAny_bind (wpAny_mono h₄ (fun _ s₅ h₅ => wpAny_pure (wpAny_pure ⟨rfl, h₅⟩)) fun _ _ h' => h'.elim)) fun _ _ h' => h'.elim))
end

/-- the tests of a clause -/
def STs (κ : Kap) (ifs : List Expr) (f : W Bool) : Prop :=
  ∀ Φ, Ctx.Ok κ Φ → ∀ g σ s Q, Rel κ Φ g σ s → f Q σ → wpAny (model κ.P.prog Φ.w) Φ.A (forIn ifs true fun c r => if r = true then do let ok ← isTrue c Φ.env (eval c Φ.env); pure (ForInStep.yield ok) else pure (ForInStep.yield r)) (PB κ Φ g Q) NoE s
theorem ts_nil {κ : Kap} : STs κ [] (ret true) := fun Φ ok g σ s Q R q => wpAny_pure ⟨g, σ, .refl g, R, q⟩
theorem ts_one {κ : Kap} {c : Expr} {f : W Bool} (h : ST κ c f) : STs κ [c] f := fun Φ ok g σ s Q R q => by
  rw [List.forIn_cons]
  simp only [if_true]
  exact wpAny_bind (wpAny_bind (wpAny_mono (h Φ ok g σ s Q R q) (fun b s' p => wpAny_pure (wpAny_pure p)) fun _ _ e => e))

def compL (chk : List O → Prop) (tgt : V → W Unit) (ts : W Bool) (el : W V) : List V → List V → (List V → St → Prop) → St → Prop
  | [], acc, Q, σ => chk σ.objs ∧ Q acc σ
  | v :: vs, acc, Q, σ => chk σ.objs ∧ tgt v (fun _ σ₁ => ts (fun b σ₂ => if b = true then el (fun u σ₃ => compL chk tgt ts el vs (acc ++ [u]) Q σ₃) σ₂ else compL chk tgt ts el vs acc Q σ₂) σ₁) σ
theorem compL_chk {chk : List O → Prop} {tgt : V → W Unit} {ts : W Bool} {el : W V} {l acc : List V} {Q : List V → St → Prop} {σ : St} (h : compL chk tgt ts el l acc Q σ) : chk σ.objs := by
  cases l <;> exact h.1

theorem comp_src {κ : Kap} {Φ : Ctx} (ok : Ctx.Ok κ Φ) {g : G} {σ : St} {s : Shared} {elt target iter : Expr} {ifs : List Expr} {scope : Scope} {pos : Pos} {it : Value} {D : Addr} {Is : List Addr} {S : Nat → Heap → Prop} {items : List V} {chk : List O → Prop} {tgt : V → W Unit} {ts : W Bool} {el : W V} {Q : List V → St → Prop}
    (src : SrcAll κ.P Φ.w Φ.A g target it Is S items chk) (ht : SA κ target tgt) (hts : STs κ ifs ts) (hel : SE κ elt el) (R : Rel κ Φ g σ s) (h0 : S 0 s.heap) (hI : ∀ I ∈ Is, ¬ Known Φ g I) (hDk : ¬ Known Φ g D) (hD : D ∉ Is) (hl : ∃ n, s.heap.get? D = some (listO [] n)) (hsz : items.length ≤ sizeLine) (h : compL chk tgt ts el items [] Q σ) :
    codeAny (model κ.P.prog Φ.w) Φ.A (.compLoop (.ListComp elt [⟨target, iter, ifs, 0⟩] scope pos) 0 it (.ref D) Φ.env) (fun r s' => match r with
      | .ok _ => ∃ g' σ' out ys n, g.le g' ∧ Rel κ Φ g' σ' s' ∧ s'.heap.get? D = some (listO ys n) ∧ VRs g' out ys ∧ out.length ≤ items.length ∧ ¬ Known Φ g' D ∧ Q out σ'
      | .error _ => False) s := by
  refine compLoop_any (fun k s => ∃ j g' σ' out ys n, k + j = items.length ∧ g.le g' ∧ Rel κ Φ g' σ' s ∧ S j s.heap ∧ (∀ I ∈ Is, ¬ Known Φ g' I) ∧ ¬ Known Φ g' D ∧ s.heap.get? D = some (listO ys n) ∧ VRs g' out ys ∧ out.length ≤ j ∧ compL chk tgt ts el (items.drop j) out Q σ') (fun k s₁ hk => ?_) items.length
    ⟨0, g, σ, [], [], hl.choose, by omega, .refl g, R, h0, hI, hDk, hl.choose_spec, .nil, Nat.le_refl _, by simpa using h⟩
  obtain ⟨j, g₁, σ₁, out, ys, n, hj, le₁, R₁, hS, hI₁, hDk₁, hL, rL, hol, hf⟩ := hk
  have hck := compL_chk hf
  let ΦD : Ctx := Φ.pin [(D, listO ys n)]
  have okD : Ctx.Ok κ ΦD := ok.pin _
  have RD : Rel κ ΦD g₁ σ₁ s₁ := R₁.pin (fun p hp => by rw [List.mem_singleton.mp hp]; exact hL) (fun p hp => by rw [List.mem_singleton.mp hp]; exact hDk₁)
  have srcD := src κ ΦD rfl rfl rfl
  have hdD : ∀ p ∈ [(D, listO ys n)], ∀ q ∈ Φ.pins, q.1 ≠ p.1 := fun p hp q hq e => by
    rw [List.mem_singleton.mp hp] at e; exact hDk₁ (.inr (.inr (.inl ⟨q, hq, e⟩)))
  have knD : ∀ {g' b}, Known ΦD g' b → Known Φ g' b ∨ b = D := fun {g' b} kb => by
    rcases kb with kb | kb | ⟨p, hp, e⟩ | kb
    · exact .inl (.inl kb)
    · exact .inl (.inr (.inl kb))
    · rcases List.mem_cons.mp hp with rfl | hp
      · exact .inr e.symm
      · exact .inl (.inr (.inr (.inl ⟨p, hp, e⟩)))
    · exact .inl (.inr (.inr (.inr kb)))
  have hI₁D : ∀ I ∈ Is, ¬ Known ΦD g₁ I := fun I hI kn => by
    rcases knD kn with kn | rfl
    · exact hI₁ I hI kn
    · exact hD hI
  cases k with
  | zero =>
    have hj' : j = items.length := by omega
    subst hj'
    rw [List.drop_length] at hf
    refine srcD.stop g₁ σ₁ s₁ _ le₁ RD hck hS hI₁D fun h' tk R' => ?_
    obtain ⟨R'', k1, k2⟩ := R'.unpin hdD
    exact ⟨g₁, σ₁, out, ys, n, le₁, R'', k1 _ (.head _), rL, hol, hDk₁, hf.2⟩
  | succ k =>
    have hjl : j < items.length := by omega
    have hd : items.drop j = items[j] :: items.drop (j + 1) := List.drop_eq_getElem_cons hjl
    rw [hd] at hf
    refine srcD.next j items[j] g₁ σ₁ s₁ _ (List.getElem?_eq_getElem hjl) le₁ RD hck hS hI₁D fun x s' hgo => ?_
    refine hgo _ fun g₂ h' tk le₂ rx R₂ hI₂ hS₂ => ?_
    let ps := pinsOf h' Is
    have hp1 : ∀ p ∈ ps, h'.get? p.1 = some p.2 := fun p hp => (mem_pinsOf.mp hp).2
    have hp2 : ∀ p ∈ ps, ¬ Known ΦD g₂ p.1 := fun p hp => hI₂ _ (mem_pinsOf.mp hp).1
    have hd' : ∀ p ∈ ps, ∀ q ∈ ΦD.pins, q.1 ≠ p.1 := fun p hp q hq e => hp2 p hp (.inr (.inr (.inl ⟨q, hq, e⟩)))
    have RP := R₂.pin hp1 hp2
    have okP := okD.pin ps
    refine wpAny_mono (ht (ΦD.pin ps) okP g₂ σ₁ _ _ _ _ RP rx hf.2) (fun _ s₂ p => ?_) fun _ _ e => e
    obtain ⟨g₃, σ₃, le₃, R₃, q₃⟩ := p
    refine wpAny_mono (hts (ΦD.pin ps) okP g₃ σ₃ s₂ _ R₃ q₃) (fun b s₃ p => ?_) fun _ _ e => e
    obtain ⟨g₄, σ₄, le₄, R₄, q₄⟩ := p
    have out' : ∀ {g₅ : G} {σ₅ : St} {s₅ : Shared}, g₄.le g₅ → Rel κ (ΦD.pin ps) g₅ σ₅ s₅ → Rel κ Φ g₅ σ₅ s₅ ∧ S (j + 1) s₅.heap ∧ (∀ I ∈ Is, ¬ Known Φ g₅ I) ∧ ¬ Known Φ g₅ D ∧ s₅.heap.get? D = some (listO ys n) := fun {g₅ σ₅ s₅} le₅ R₅ => by
      obtain ⟨R₆, k1, k2⟩ := R₅.unpin hd'
      obtain ⟨R₇, k3, k4⟩ := R₆.unpin hdD
      refine ⟨R₇, ?_, fun I hI kn => ?_, k4 _ (.head _), k3 _ (.head _)⟩
      · exact srcD.frame (j + 1) g₂ σ₁ _ g₅ σ₅ s₅ R₂ R₆ (le₁.trans le₂) ((le₃.trans le₄).trans le₅) hS₂ fun I hI o ho => k1 (I, o) (mem_pinsOf.mpr ⟨hI, ho⟩)
      · obtain ⟨o, ho⟩ := srcD.here _ _ hS₂ I hI
        refine k2 (I, o) (mem_pinsOf.mpr ⟨hI, ho⟩) ?_
        rcases kn with kn | kn | ⟨p, hp, e⟩ | kn
        · exact .inl kn
        · exact .inr (.inl kn)
        · exact .inr (.inr (.inl ⟨p, .tail _ hp, e⟩))
        · exact .inr (.inr (.inr kn))
    have le := ((le₁.trans le₂).trans le₃).trans le₄
    cases b with
    | false =>
      simp only [Bool.false_eq_true, if_false] at q₄ ⊢
      obtain ⟨R₅, a1, a2, a3, a4⟩ := out' (.refl _) R₄
      exact ⟨k, by omega, j + 1, g₄, σ₄, out, ys, n, by omega, le, R₅, a1, a2, a3, a4, VRs.mono ((le₂.trans le₃).trans le₄) _ rL, by omega, q₄⟩
    | true =>
      simp only [if_true] at q₄ ⊢
      refine wpAny_mono (hel (ΦD.pin ps) okP g₄ σ₄ s₃ _ R₄ q₄) (fun y s₄ p => ?_) fun _ _ e => e
      obtain ⟨g₅, u, σ₅, le₅, R₅, ru, q₅⟩ := p
      obtain ⟨R₆, a1, a2, a3, a4⟩ := out' le₅ R₅
      have hys : ys.length = out.length := rL.length
      refine wpAny_list_append_plain (items := ys.toArray) ⟨n, a4⟩ (fun h'' hp hs => ?_) (by simp; omega)
      obtain ⟨n', hn'⟩ := hp
      refine ⟨k, by omega, j + 1, g₅, σ₅, out ++ [u], ys ++ [y], n', by omega, le.trans le₅, R₆.sameBut a3 (tk := s₄.toks) hs.extBut, ?_, a2, a3, ?_, VRs.append (VRs.mono (((le₂.trans le₃).trans le₄).trans le₅) _ rL) (.one ru), by simp; omega, q₅⟩
      · exact (src κ Φ rfl rfl rfl).frame (j + 1) g₅ σ₅ s₄ g₅ σ₅ _ R₆ (R₆.sameBut a3 (tk := s₄.toks) hs.extBut) (le.trans le₅) (.refl _) a1 fun I hI o ho => hs.extBut I o (fun e => hD (e ▸ hI)) ho
      · simpa using hn'

/-- the comprehension's own frame -/
def compW (fi : W (List V × (List O → Prop))) (caps : List (Option Nat)) (tgt : V → W Unit) (ts : W Bool) (el : W V) : W (List V) := fun Q σ =>
  fi (fun p σ₁ => p.1.length ≤ sizeLine ∧ compL p.2 tgt ts el p.1 [] (fun out σ₂ => Q out ⟨σ₁.loc, σ₂.objs⟩) ⟨caps.map fun o => o.bind (lget σ₁.loc), σ₁.objs⟩) σ

theorem lget_caps : ∀ {caps : List (Option Nat)} {f : Option Nat → Option V} {k : Nat} {v : V}, lget (caps.map f) k = some v → ∃ o, caps[k]? = some o ∧ f o = some v
  | [], _, _, _, h => by cases h
  | o :: _, _, 0, _, h => ⟨o, rfl, h⟩
  | _ :: l, f, k + 1, v, h => lget_caps (caps := l) (k := k) h

theorem comp_enter {κ : Kap} {Φ : Ctx} (ok : Ctx.Ok κ Φ) {elt target iter : Expr} {ifs : List Expr} {scope : Scope} {pos ps' : Pos} {vars : List Str} {caps : List (Option Nat)} {fi : W (List V × (List O → Prop))} {tgt : V → W Unit} {ts : W Bool} {el : W V}
    (hc : CompIs κ scope vars caps) (hi : SI κ target iter fi) (ht : SA ⟨κ.P, relN κ.names scope.names, vars, κ.D, false⟩ target tgt) (hts : STs ⟨κ.P, relN κ.names scope.names, vars, κ.D, false⟩ ifs ts) (hel : SE ⟨κ.P, relN κ.names scope.names, vars, κ.D, false⟩ elt el) (hn : noSet iter = true)
    {g : G} {σ : St} {s : Shared} {Q : List V → St → Prop} (R : Rel κ Φ g σ s) (h : compW fi caps tgt ts el Q σ) {use : Option (Value → Sem Unit)} {QQ : Value → Shared → Prop}
    (hfin : ∀ g' σ' s' out ys n D C m, g.le g' → Rel κ Φ g' σ' s' → s'.heap.get? D = some (listO ys n) → VRs g' out ys → out.length ≤ sizeLine → ¬ Known Φ g' D → ¬ Known Φ g' C → D ≠ C → s'.heap.Ns C m → Q out σ' → compPost (model κ.P.prog Φ.w) Φ.A NoE use QQ (.ref D) C (.ok .next) s') :
    wpAny (model κ.P.prog Φ.w) Φ.A (comprehension (.ListComp elt [⟨target, iter, ifs, 0⟩] scope pos) scope Φ.env ps' (newList []) false (eval iter Φ.env) use) QQ NoE s := by
  have hcells : ∀ x ∈ scope.names, x.2 = .free → (Φ.env.cells.lookup x.1).isSome = true := fun x hx hf => by
    obtain ⟨c, e, _⟩ := ok.cwr hc.fn x.1 (hc.free x hx hf); rw [e]; rfl
  refine wpAny_comprehension_free (g := ⟨target, iter, ifs, 0⟩) (gs := []) rfl (fun _ => noSet_fold hn) (closureFor_eq hcells) hc.kind hc.loc ?_
  refine wpAny_mono (hi Φ ok g σ s _ R h) (fun x s₁ p => wpAny_mono p (fun it s₂ p => ?_) fun _ _ e => e) fun _ _ e => e
  obtain ⟨g₂, ⟨items, chk⟩, σ₂, Is, S, le₂, R₂, src, hS, hI, hsz, hL⟩ := p
  simp only at hsz hL
  refine wpAny_newObj_type (wpAny_newFunctionEnv hc.nocell (by intro y hy; simp at hy) (fun h₁ hns₁ hsb₁ => ?_) hc.kind)
  dsimp only at hns₁ hsb₁ ⊢
  generalize hH2 : s₂.heap.push { cls := .type "list", dict := none, data := .seq ([] : List Value).toArray } = H2 at hns₁ hsb₁ ⊢
  have hCe : H2.objs.size = s₂.heap.objs.size + 1 := by rw [← hH2, Heap.size_push]
  let D := s₂.heap.objs.size
  let C := H2.objs.size
  let cl := closG Φ.env.cells scope.names []
  let cenv : Env := compEnvC scope cl C Φ.env
  let κ' : Kap := ⟨κ.P, relN κ.names scope.names, vars, κ.D, false⟩
  let Φ' : Ctx := { w := Φ.w, h₀ := hideAll s₂.heap (Is ++ g₂.tr), A := Φ.A, env := cenv, cw := [], pins := [], os := Φ.os, forb := Φ.env.locals :: (Φ.cw ++ (Φ.pins.map (·.1) ++ Φ.forb)) }
  have EN : Enters κ Φ g₂ s₂ Φ' Is := ⟨hI, rfl, rfl, rfl, rfl, rfl⟩
  have ltSize : ∀ {b}, Known Φ g₂ b → b < D := fun hb => by obtain ⟨o, ho⟩ := R₂.known hb; exact Heap.lt_size ho
  have hDC : D < C := by show s₂.heap.objs.size < H2.objs.size; rw [hCe]; exact Nat.lt_succ_self _
  have old : ∀ b o, s₂.heap.get? b = some o → h₁.get? b = some o := fun b o e => hsb₁.extBut b o (Nat.ne_of_lt (Nat.lt_trans (Heap.lt_size e) hDC)) (Heap.get?_push_of_some _ (hH2 ▸ Heap.get?_push_of_some _ e))
  have hacc : ∃ n, h₁.get? D = some (listO [] n) := ⟨_, hsb₁.extBut _ _ (Nat.ne_of_lt hDC) (Heap.get?_push_of_some _ (hH2 ▸ Heap.get?_push_size _ rfl))⟩
  have newNone : ∀ b, D ≤ b → Φ'.h₀.get? b = none := fun b hb => by
    cases q : Φ'.h₀.get? b with
    | none => rfl
    | some o => exact absurd (Heap.lt_size (of_hideAll _ q)) (Nat.not_lt.mpr hb)
  have inH : ∀ b, Known Φ g₂ b → b ∉ g₂.tr → (Φ'.h₀.get? b).isSome = true := fun b k hb => by
    obtain ⟨o, e⟩ := R₂.known k
    show ((hideAll s₂.heap (Is ++ g₂.tr)).get? b).isSome = true
    rw [hideAll_get _ e (EN.notex k hb)]; rfl
  have h0no : ∀ b o, Φ.h₀.get? b = some o → b ∉ g₂.tr := fun b o e hb => by rw [(R₂.muts b (tr_mut hb)).1] at e; cases e
  have keep0 : KeepsH Φ.h₀ Φ'.h₀ := fun b o e => hideAll_get _ (R₂.keep b o e) (EN.notex (.inr (.inr (.inr (by rw [e]; rfl)))) (h0no b o e))
  have clLook : ∀ x c, cl.lookup x = some c → Φ.env.cells.lookup x = some c := fun x c e => closG_lookup hcells (fun _ _ h => (by cases h)) x c (lookup_mem e)
  have cellK : ∀ x c, cenv.kindOf x = some .cell → cl.lookup x = some c → Known Φ g₂ c ∧ c ∉ g₂.tr ∧ Φ.env.kindOf x = some .cell := fun x c hk e => by
    have hk' : (relN κ.names scope.names).lookup x = some .cell := by rw [← relabel_names ok]; exact hk
    have hx := relN_look hc.nocell hk'
    have hk2 : Φ.env.kindOf x = some .cell := (ok.kinds x).trans hx.2
    rcases R₂.cellsOk x c hk2 (clLook x c e) with z | z
    · exact ⟨.inl (.tail _ (List.mem_append_left _ z)), tr_not R₂ (.tail _ z), hk2⟩
    · obtain ⟨o, ho⟩ := Option.isSome_iff_exists.mp z
      exact ⟨.inr (.inr (.inr z)), h0no c o ho, hk2⟩
  have ok' : Ctx.Ok κ' Φ' := by
    refine ⟨fun x => ?_, hc.kind, ok.globals, ok.builtins, ok.handled, fun a o e => keep0 a o (ok.KIn a o e), ok.nolim.keeps keep0, ?_, ok.depth, (fun h => by cases h), ?_, fun x y c hx hy => ok.cinj x y c (clLook x c hx) (clLook y c hy), ok.units⟩
    · show (relabel scope Φ.env).names.lookup x = _
      rw [relabel_names ok]
    · obtain ⟨mg, mb, h1, h2, h3⟩ := ok.globs
      exact ⟨mg, mb, h1.keeps keep0, h2.keeps keep0, h3⟩
    · show (hideAll s₂.heap (Is ++ g₂.tr)).objs.size ≤ C
      rw [hideAll_size]; exact Nat.le_of_lt hDC
  have R' : Rel κ' Φ' g₂ ⟨caps.map fun o => o.bind (lget σ₂.loc), σ₂.objs⟩ { s₂ with heap := h₁, toks := s₂.toks + ([] : List (Str × Value)).length } := by
    refine ⟨⟨_, hns₁, fun x k v hsl hl => ?_⟩, (fun c hc => by cases hc), fun b o e => old b o (of_hideAll _ e), fun p hp => old _ _ (R₂.fz p hp), (fun p hp => by cases hp), ⟨R₂.tr.1, fun i a o e1 e2 => ?_⟩, fun a ha => ?_, ?_, (fun p hp => by cases hp), fun x c hk e => .inr ?_, R₂.gens, R₂.os, fun a ha => ?_⟩
    · obtain ⟨o, ho, hv⟩ := lget_caps hl
      cases o with
      | none => cases hv
      | some i =>
        obtain ⟨hs1, hs2⟩ := hc.caps k x i (slot_get hsl) ho
        have hk' : cenv.kindOf x = some .cell := by show (relabel scope Φ.env).names.lookup x = _; rw [relabel_names ok]; exact hs2
        have hk'' : Φ'.env.kindOf x = some .cell := hk'
        rw [hk'']
        obtain ⟨m, hm, lr⟩ := R₂.ns
        have hx := relN_look hc.nocell hs2
        have hk2 : Φ.env.kindOf x = some .cell := (ok.kinds x).trans hx.2
        have := lr x i v hs1 hv
        simp only [hk2] at this
        obtain ⟨c, val, h1, ⟨oc, hoc, hd⟩, h3⟩ := this
        obtain ⟨c', hc'⟩ := Option.isSome_iff_exists.mp (lookup_isSome_of_mem (closG_mem (cells := Φ.env.cells) (acc := []) (.inl hx.1)))
        have e1 := clLook x c' hc'
        rw [h1] at e1; cases e1
        exact ⟨c, val, hc', ⟨oc, old _ _ hoc, hd⟩, h3⟩
    · obtain ⟨ob, h1, h2⟩ := R₂.tr.2 i a o e1 e2
      exact ⟨ob, old _ _ h1, h2⟩
    · have cases2 : a = C ∨ a ∈ g₂.tr := by
        rcases List.mem_cons.mp ha with rfl | ha
        · exact .inl rfl
        · exact .inr (by simpa [Φ'] using ha)
      rcases cases2 with rfl | h
      · exact ⟨newNone _ (Nat.le_of_lt hDC), fun p hp e => Nat.lt_irrefl _ (Nat.lt_trans (e ▸ ltSize (.inr (.inl ⟨p, hp, rfl⟩)) : C < D) hDC), (fun p hp => by cases hp)⟩
      · exact ⟨hideAll_none _ (List.mem_append_right _ h), (R₂.muts a (tr_mut h)).2.1, (fun p hp => by cases hp)⟩
    · show (C :: ([] ++ g₂.tr)).Nodup
      rw [List.nil_append, List.nodup_cons]
      exact ⟨fun hm => Nat.lt_irrefl _ (Nat.lt_trans (ltSize (.inl (tr_mut hm))) hDC), (List.nodup_append.mp (show ((Φ.env.locals :: Φ.cw) ++ g₂.tr).Nodup from R₂.nodup)).2.1⟩
    · obtain ⟨a, b, _⟩ := cellK x c hk e
      exact inH c a b
    · have hkn : Known Φ g₂ a ∧ a ∉ g₂.tr ∧ ∀ p ∈ g₂.fz, p.1 ≠ a := by
        rcases List.mem_cons.mp ha with rfl | ha
        · exact ⟨.inl (.head _), tr_not R₂ (.head _), (R₂.muts _ (.head _)).2.1⟩
        · rcases List.mem_append.mp ha with ha | ha
          · exact ⟨.inl (.tail _ (List.mem_append_left _ ha)), tr_not R₂ (.tail _ ha), (R₂.muts _ (.tail _ (List.mem_append_left _ ha))).2.1⟩
          · rcases List.mem_append.mp ha with ha | ha
            · obtain ⟨p, hp, rfl⟩ := List.mem_map.mp ha
              exact ⟨.inr (.inr (.inl ⟨p, hp, rfl⟩)), fun q => (R₂.muts _ (tr_mut q)).2.2 p hp rfl, (R₂.pinsOk p hp).2⟩
            · obtain ⟨o, ho⟩ := Option.isSome_iff_exists.mp (R₂.forb a ha).1
              exact ⟨.inr (.inr (.inr (R₂.forb a ha).1)), h0no a o ho, (R₂.forb a ha).2⟩
      exact ⟨inH a hkn.1 hkn.2.1, hkn.2.2⟩
  have lt' : ∀ I ∈ Is, I < D := fun I hIm => by
    obtain ⟨o, ho⟩ := (src κ Φ rfl rfl rfl).here _ _ hS I hIm; exact Heap.lt_size ho
  have notK' : ∀ b, b ≠ C → ¬ Known Φ g₂ b → Φ'.h₀.get? b = none → ¬ Known Φ' g₂ b := fun b hbC hb h0 kn => by
    rcases kn with kn | kn | ⟨p, hp, _⟩ | kn
    · rcases List.mem_cons.mp kn with rfl | kn
      · exact hbC rfl
      · exact hb (.inl (tr_mut (by simpa [Φ'] using kn)))
    · exact hb (.inr (.inl kn))
    · cases hp
    · rw [h0] at kn; cases kn
  have hI' : ∀ I ∈ Is, ¬ Known Φ' g₂ I := fun I hIm => notK' I (Nat.ne_of_lt (Nat.lt_trans (lt' I hIm) hDC)) (hI I hIm) (hideAll_none _ (List.mem_append_left _ hIm))
  have hDk' : ¬ Known Φ' g₂ D := notK' D (Nat.ne_of_lt hDC) R₂.fresh (newNone _ (Nat.le_refl _))
  have hDI : D ∉ Is := fun hm => Nat.lt_irrefl _ (lt' D hm)
  have hS₁ : S 0 h₁ := (src κ Φ rfl rfl rfl).frame 0 g₂ σ₂ s₂ g₂ σ₂ { s₂ with heap := h₁ } R₂ (R₂.keeps (tk := s₂.toks) old) (.refl _) (.refl _) hS fun I hIm o ho => old I o ho
  have loop := comp_src (scope := scope) (iter := iter) (pos := pos) ok' (src := src) ht hts hel R' hS₁ hI' hDk' hDI hacc hsz hL
  have loop' := codeAny_mono loop (R' := compPost (model κ.P.prog Φ.w) Φ.A NoE use QQ (.ref D) C) fun r s' p => ?_
  rotate_left
  · cases r with
    | error e => exact p.elim
    | ok f =>
      obtain ⟨g₃, σ₃, out, ys, n, le₃, R₃, hD₃, rO, hlen, hDk₃, q₃⟩ := p
      have RB := EN.back R₂ le₃ R₃
      have hCm : C ∈ Φ'.muts g₃ := .head _
      obtain ⟨m, hm, _⟩ := R₃.ns
      have nk : ∀ b, Known Φ g₃ b → Known Φ' g₃ b := fun b kb => by
        rcases EN.known R₂ kb with z | z | z
        · exact .inl (tr_mut z)
        · exact .inr (.inl z)
        · exact .inr (.inr (.inr z))
      have := hfin g₃ { σ₂ with objs := σ₃.objs } s' out ys n D C m (le₂.trans le₃) RB hD₃ rO (Nat.le_trans hlen hsz) (fun kn => hDk₃ (nk D kn)) (fun kn => ?_) (Nat.ne_of_lt hDC) hm q₃
      · cases use <;> exact this
      · rcases EN.known R₂ kn with z | z | z
        · exact (List.nodup_cons.mp (show (C :: ([] ++ g₃.tr)).Nodup from R₃.nodup)).1 z
        · obtain ⟨p, hp, e⟩ := z; exact (R₃.muts C hCm).2.1 p hp e
        · rw [(R₃.muts C hCm).1] at z; cases z
  exact codeAny_compStart_list loop' (wpAny_mono ((src κ' Φ' rfl rfl rfl).self 0 _ (fun it' s' => codeAny (model κ.P.prog Φ.w) Φ.A (.compLoop (.ListComp elt [⟨target, iter, ifs, 0⟩] scope pos) 0 it' (.ref D) Φ'.env) (compPost (model κ.P.prog Φ.w) Φ.A NoE use QQ (.ref D) C) s') hS₁ loop') (fun _ _ q => q) fun _ _ e => e.elim)

section
variable {κ : Kap} {elt target iter : Expr} {ifs : List Expr} {scope : Scope} {pos : Pos} {caps : List (Option Nat)} {fi : W (List V × (List O → Prop))} {tgt : V → W Unit} {ts : W Bool} {el : W V}

def lstW' (l : List V) : W V := fun Q σ => Q (.lst l) σ
def refW' (l : List V) : W V := fun Q σ => Q (.ref σ.objs.length) { σ with objs := σ.objs ++ [.list l] }

theorem r_ListComp (vars : List Str) (hi : SI κ target iter fi) (ht : SA ⟨κ.P, relN κ.names scope.names, vars, κ.D, false⟩ target tgt) (hts : STs ⟨κ.P, relN κ.names scope.names, vars, κ.D, false⟩ ifs ts) (hel : SE ⟨κ.P, relN κ.names scope.names, vars, κ.D, false⟩ elt el)
    (hc : compOk κ scope vars caps = true) (hn : noSet iter = true := by rfl) : SE κ (.ListComp elt [⟨target, iter, ifs, 0⟩] scope pos) (bnd (compW fi caps tgt ts el) lstW') := fun Φ ok g σ s Q R q => by
  rw [eval_ListComp]
  refine comp_enter (use := none) ok (compIs_of hc) hi ht hts hel hn R q fun g' σ' s' out ys n D C m le R' hD rO hlen hDk hCk hne hm q' => ?_
  refine ⟨m, hm, fun h' hs => ?_⟩
  have R'' := R'.sameBut hCk (tk := s'.toks) hs.extBut
  obtain ⟨R₃, le₃⟩ := R''.freeze (hs.extBut _ _ hne hD) hDk
  exact ⟨_, .lst out, σ', le.trans le₃, R₃, by simp only [VR]; exact ⟨D, ys, n, rfl, .head _, VRs.mono le₃ _ rO⟩, q'⟩
theorem r_ListCompT (vars : List Str) (hi : SI κ target iter fi) (ht : SA ⟨κ.P, relN κ.names scope.names, vars, κ.D, false⟩ target tgt) (hts : STs ⟨κ.P, relN κ.names scope.names, vars, κ.D, false⟩ ifs ts) (hel : SE ⟨κ.P, relN κ.names scope.names, vars, κ.D, false⟩ elt el)
    (hc : compOk κ scope vars caps = true) (hn : noSet iter = true := by rfl) : SE κ (.ListComp elt [⟨target, iter, ifs, 0⟩] scope pos) (bnd (compW fi caps tgt ts el) refW') := fun Φ ok g σ s Q R q => by
  rw [eval_ListComp]
  refine comp_enter (use := none) ok (compIs_of hc) hi ht hts hel hn R q fun g' σ' s' out ys n D C m le R' hD rO hlen hDk hCk hne hm q' => ?_
  refine ⟨m, hm, fun h' hs => ?_⟩
  have R'' := R'.sameBut hCk (tk := s'.toks) hs.extBut
  obtain ⟨R₃, le₃⟩ := R''.track (o := .list out) (hs.extBut _ _ hne hD) hDk ⟨ys, n, rfl, rO⟩
  exact ⟨_, .ref σ'.objs.length, _, le.trans le₃, R₃, by simp only [VR]; exact ⟨D, rfl, by rw [← R'.tr.1]; simp⟩, q'⟩

def swOk (κ : Kap) (value : Expr) (scope : Scope) (y : Str) (py spos : Pos) : Bool :=
  κ.names.lookup y == some .local && py.line == value.pos.line && !(scope.names.any fun z => z.1 == y && (z.2 == .local || z.2 == .cell))
theorem sw_true {Φ : Ctx} (ok : Ctx.Ok κ Φ) {y : Str} {py spos : Pos} (h : swOk κ (.ListComp elt [⟨target, iter, ifs, 0⟩] scope pos) scope y py spos = true) :
    swapsWith (.ListComp elt [⟨target, iter, ifs, 0⟩] scope pos) (some (.Name y py)) spos.line Φ.env = pure true := by
  simp only [swOk, Bool.and_eq_true] at h
  simp only [swapsWith, Env.blockKind, ok.kind, ok.kinds]
  rw [beq_iff_eq.mp h.1.1, h.1.2]
  have : (scope.names.any fun x => match x with | (n, k) => n == y && (k == .local || k == .cell)) = false := by simpa using h.2
  simp [this, ScopeKind.isAnnotationScope]

/-- `y = [...]`, where the name is put before the comprehension's own names go -/
theorem s_AssignComp {y : Str} {k : Nat} {py spos : Pos} (vars : List Str) (hi : SI κ target iter fi) (ht : SA ⟨κ.P, relN κ.names scope.names, vars, κ.D, false⟩ target tgt) (hts : STs ⟨κ.P, relN κ.names scope.names, vars, κ.D, false⟩ ifs ts) (hel : SE ⟨κ.P, relN κ.names scope.names, vars, κ.D, false⟩ elt el)
    (hc : compOk κ scope vars caps = true) (hy : stl κ y k = true) (hsw : swOk κ (.ListComp elt [⟨target, iter, ifs, 0⟩] scope pos) scope y py spos = true) (hn : noSet iter = true := by rfl) :
    SS κ (.Assign [.Name y py] (.ListComp elt [⟨target, iter, ifs, 0⟩] scope pos) spos) (bnd (compW fi caps tgt ts el) fun l => bnd (lstW' l) fun v => bnd (setv k v) fun _ => ret .next) := fun Φ ok g σ s Q R q => by
  rw [exec_Assign_Name_used _ _ _ _ (sw_true ok hsw)]
  refine wpAny_bind (wpAny_standAt (wpAny_bind ?_))
  show wpAny _ Φ.A (do let _ ← comprehension (.ListComp elt [⟨target, iter, ifs, 0⟩] scope pos) scope Φ.env _ (newList []) false (eval iter Φ.env) (some (assign (.Name y py) Φ.env))) _ _ s
  refine wpAny_bind (wpAny_mono (comp_enter (use := some (assign (.Name y py) Φ.env)) (QQ := fun _ s' => PF κ Φ g Q .next s') ok (compIs_of hc) hi ht hts hel hn R q fun g' σ' s' out ys n D C m le R' hD rO hlen hDk hCk hne hm q' => ?_) (fun _ s' hq => wpAny_pure (wpAny_pure hq)) fun _ _ e => e)
  obtain ⟨R₃, le₃⟩ := R'.freeze hD hDk
  obtain ⟨o, es, ep, ho, rm⟩ := hm
  have hCk₃ : ¬ Known Φ ⟨(D, listO ys n) :: g'.fz, g'.tr⟩ C := fun kn => by
    rcases kn with kn | ⟨p, hp, e⟩ | kn | kn
    · exact hCk (.inl kn)
    · rcases List.mem_cons.mp hp with rfl | hp
      · exact hne e
      · exact hCk (.inr (.inl ⟨p, hp, e⟩))
    · exact hCk (.inr (.inr (.inl kn)))
    · exact hCk (.inr (.inr (.inr kn)))
  have RP := R₃.pin (ps := [(C, o)]) (fun p hp => by rw [List.mem_singleton.mp hp]; exact ho) (fun p hp => by rw [List.mem_singleton.mp hp]; exact hCk₃)
  have hd : ∀ p ∈ [(C, o)], ∀ q ∈ Φ.pins, q.1 ≠ p.1 := fun p hp q hq e => by rw [List.mem_singleton.mp hp] at e; exact hCk (.inr (.inr (.inl ⟨q, hq, e⟩)))
  have q' : setv k (.lst out) (fun _ σ => Q .next σ) σ' := q'
  show wpAny _ Φ.A (assign (.Name y py) Φ.env (.ref D)) _ _ _
  refine wpAny_mono (a_Name (pos := py) hy (Φ.pin [(C, o)]) (ok.pin _) _ σ' s' _ (.lst out) (.ref D) RP (by simp only [VR]; exact ⟨D, ys, n, rfl, .head _, VRs.mono le₃ _ rO⟩) q') (fun _ s'' p => ?_) fun _ _ e => e
  obtain ⟨g₄, σ₄, le₄, R₄, q₄⟩ := p
  obtain ⟨R₅, k1, k2⟩ := R₄.unpin hd
  refine ⟨m, ⟨o, es, ep, k1 _ (.head _), rm⟩, fun h' hs => ?_⟩
  exact ⟨g₄, .next, σ₄, (le.trans le₃).trans le₄, R₅.sameBut (k2 _ (.head _)) (tk := s''.toks) hs.extBut, by simp only [FlR], q₄⟩

theorem sw_false {Φ : Ctx} (ok : Ctx.Ok κ Φ) {y : Str} {py spos : Pos} (h : (κ.names.lookup y == some .local) = false) :
    swapsWith (.ListComp elt [⟨target, iter, ifs, 0⟩] scope pos) (some (.Name y py)) spos.line Φ.env = pure false := by
  simp only [swapsWith, ok.kinds, h]
  simp
theorem s_AssignC {x : Str} {k : Nat} {p spos : Pos} {f : W V} (he : SE κ (.ListComp elt [⟨target, iter, ifs, 0⟩] scope pos) f) (hx : stl κ x k = true) (hs : (κ.names.lookup x == some .local) = false := by rfl) :
    SS κ (.Assign [.Name x p] (.ListComp elt [⟨target, iter, ifs, 0⟩] scope pos) spos) (bnd f fun v => bnd (setv k v) fun _ => ret .next) := fun Φ ok g σ s Q R q => by
  refine wpAny_Assign_Name (wpAny_mono (he Φ ok g σ s _ R q) (fun x s₁ p => ?_) fun _ _ e => e) (sw_false ok hs)
  obtain ⟨g₁, a, σ₁, le₁, R₁, ra, q₁⟩ := p
  refine wpAny_mono (storev ok R₁ hx ra q₁) (fun _ s₂ p => ?_) fun _ _ e => e
  obtain ⟨g₂, σ₂, le₂, R₂, q₂⟩ := p
  exact ⟨g₂, .next, σ₂, le₁.trans le₂, R₂, by simp only [FlR], q₂⟩
end
end Mine

open PySem PySem.W PyProof.Rows PySem.Calls
set_option Elab.async false
set_option maxRecDepth 100000
set_option linter.unusedVariables false

namespace Mine
section
variable {κ : Kap}

/-! ## The name `__debug__` -/
theorem r_debug {x : Str} {pos : Pos} (hx : (x == ("__debug__" : Str)) = true) : SE κ (.Name x pos) (ret (.bool true)) := fun Φ ok g σ s Q R q => by
  show wpAny _ _ (do standAt pos; if (x == ("__debug__" : Str)) = true then debugConstant else loadName Φ.env x) _ _ s
  refine wpAny_bind (wpAny_standAt ?_)
  rw [if_pos hx]
  exact wpAny_bind (wpAny_rule (wpAny_pure ⟨g, .bool true, σ, .refl g, R, by simp only [VR], q⟩))

/-! ## Tuple targets -/
def SAs (κ : Kap) (ts : List Expr) (f : List V → W Unit) : Prop :=
  ∀ Φ, Ctx.Ok κ Φ → ∀ g σ s Q vs xs, Rel κ Φ g σ s → VRs g vs xs → f vs Q σ → wpAny (model κ.P.prog Φ.w) Φ.A (assignInOrder ((assignEach ts Φ.env).map (·.2)) xs) (PU κ Φ g Q) NoE s
def tgts (f : V → W Unit) (h : List V → W Unit) (vs : List V) : W Unit := match vs with
  | v :: vs => bnd (f v) fun _ => h vs
  | [] => fun _ _ => False
def tgtN (vs : List V) : W Unit := match vs with
  | [] => ret ()
  | _ :: _ => fun _ _ => False
theorem as_nil : SAs κ [] tgtN := fun Φ ok g σ s Q vs xs R rv q => by
  cases vs with
  | nil => simp only [VRs] at rv; subst rv; exact wpAny_pure ⟨g, σ, .refl g, R, q⟩
  | cons v vs => exact (show False from q).elim
theorem as_cons {e : Expr} {es : List Expr} {f : V → W Unit} {h : List V → W Unit} (he : SA κ e f) (hes : SAs κ es h) (hn : isStarred e = false := by rfl) : SAs κ (e :: es) (tgts f h) := fun Φ ok g σ s Q vs xs R rv q => by
  cases vs with
  | nil => exact (show False from q).elim
  | cons v vs =>
    simp only [VRs] at rv
    obtain ⟨y, ys, rfl, ry, rys⟩ := rv
    have : assignEach (e :: es) Φ.env = (false, assign e Φ.env) :: assignEach es Φ.env := by cases e <;> first | rfl | cases hn
    rw [this]
    show wpAny _ _ (do holding ys (assign e Φ.env y); assignInOrder ((assignEach es Φ.env).map (·.2)) ys) _ _ s
    refine wpAny_bind (wpAny_holding (wpAny_mono (he Φ ok g σ s _ v y R ry q) (fun _ s₁ p => ?_) fun _ _ e => e))
    obtain ⟨g₁, σ₁, le₁, R₁, q₁⟩ := p
    exact wPU le₁ (hes Φ ok g₁ σ₁ s₁ Q vs ys R₁ (VRs.mono le₁ vs rys) q₁)
theorem assignEach_facts {env : Env} : ∀ {ts : List Expr}, plainArgs ts = true → (assignEach ts env).length = ts.length ∧ (assignEach ts env).findIdx? (·.1) = none
  | [], _ => ⟨rfl, rfl⟩
  | e :: es, h => by
    simp only [plainArgs, List.all_cons, Bool.and_eq_true, Bool.not_eq_true'] at h
    obtain ⟨h1, h2⟩ := assignEach_facts (env := env) (ts := es) h.2
    have : assignEach (e :: es) env = (false, assign e env) :: assignEach es env := by cases e <;> first | rfl | cases h.1
    rw [this]
    exact ⟨by simp [h1], by simp only [List.findIdx?_cons, Bool.false_eq_true, if_false, h2]; rfl⟩
def tupT (n : Nat) (h : List V → W Unit) (v : V) : W Unit := fun Q σ => match v with
  | .tup l => l.length = n ∧ h l Q σ
  | _ => False
theorem a_Tuple {ts : List Expr} {k} {pos : Pos} {h : List V → W Unit} (hs : SAs κ ts h) (hp : plainArgs ts = true := by rfl) : SA κ (.Tuple ts k pos) (tupT ts.length h) := fun Φ ok g σ s Q v x R rv q => by
  unfold tupT at q
  split at q
  · rename_i l
    simp only [VR] at rv
    obtain ⟨a, xs, n, rfl, hm, rl⟩ := rv
    have h1 := R.fz _ hm
    obtain ⟨f1, f2⟩ := assignEach_facts (env := Φ.env) hp
    refine wpAny_assign_Tuple ok.handled (items := xs.toArray) (isTuple_of h1) (by rw [f1]; simp [rl.length, q.1]) f2 fun h' he => ?_
    exact hs Φ ok g σ _ Q l xs (R.sameBut (tk := s.toks) R.fresh he) rl q.2
  · exact q.elim

/-! ## Calls of built-in types and functions -/
def lenA (vs kvs : List V) : W V := fun Q σ => match vs with
  | [.str x] => x.length ≤ sizeLine ∧ Q (.int x.length) σ
  | [v] => (match seqOf σ.objs v with
    | some l => l.length ≤ sizeLine ∧ Q (.int l.length) σ
    | none => False)
  | _ => False
theorem cal_len : CalOK κ (.builtin "len") [] lenA := fun Φ ok g σ s vs xs kvs kxs Q R rv rk q => by
  unfold lenA at q
  split at q
  · simp only [VRs, VR] at rv
    obtain ⟨_, _, rfl, ⟨t, rfl⟩, rfl⟩ := rv
    have := q.1
    rw [sizeLine_eq] at this
    exact P.len_str (by omega) ⟨g, .int _, σ, .refl g, R.tok _, by simp only [VR]; exact ⟨_, rfl⟩, q.2⟩
  · split at q
    · rename_i l hl
      simp only [VRs] at rv
      obtain ⟨_, _, rfl, rv, rfl⟩ := rv
      obtain ⟨a, ys, n, rfl, h1, h2⟩ := R.seq_at rv hl
      have := q.1
      rw [sizeLine_eq] at this
      refine call_len_list (isList_of h1) (by simp [h2.length]; omega) ⟨g, .int l.length, σ, .refl g, R.tok _, by simp only [VR]; exact ⟨s.toks + 1, by simp [h2.length]⟩, q.2⟩
    · exact q.elim
  · exact q.elim

def listA (trk : Bool) (vs kvs : List V) : W V := fun Q σ => match vs with
  | [v] => (match seqOf σ.objs v with
    | some l => l.length ≤ sizeLine ∧ (if trk then Q (.ref σ.objs.length) { σ with objs := σ.objs ++ [.list l] } else Q (.lst l) σ)
    | none => False)
  | _ => False
theorem cal_list (trk : Bool) : CalOK κ (.type "list") [] (listA trk) := fun Φ ok g σ s vs xs kvs kxs Q R rv rk q => by
  unfold listA at q
  split at q
  · split at q
    · rename_i l hl
      simp only [VRs] at rv
      obtain ⟨_, _, rfl, rv, rfl⟩ := rv
      obtain ⟨a, ys, n, rfl, h1, h2⟩ := R.seq_at rv hl
      refine call_list_seq a (.inl rfl) h1 rfl rfl (fun h' c' hk ho => ?_) (by simp [h2.length]; exact q.1)
      have R1 : Rel κ Φ g σ { s with heap := h' } := R.keeps (tk := s.toks) hk
      cases trk with
      | false =>
        obtain ⟨R2, le⟩ := R1.freeze (o := listO ys c') ho R.fresh
        exact ⟨_, .lst l, σ, le, R2, by simp only [VR]; exact ⟨_, ys, c', rfl, .head _, VRs.mono le _ h2⟩, q.2⟩
      | true =>
        obtain ⟨R2, le⟩ := R1.track (ob := listO ys c') (o := .list l) ho R.fresh ⟨ys, c', rfl, h2⟩
        exact ⟨_, .ref σ.objs.length, _, le, R2, by simp only [VR]; exact ⟨_, rfl, by rw [← R.tr.1]; simp⟩, q.2⟩
    · exact q.elim
  · exact q.elim

/-- a number's text -/
def intS (i : Int) : Str := Str.ofString (toString i)
def strA (vs kvs : List V) : W V := fun Q σ => match vs with
  | [.int i] => i.natAbs < 2 ^ 1000 ∧ Q (.str (intS i)) σ
  | [.str x] => Q (.str x) σ
  | _ => False
theorem log2_of {i : Int} (h : i.natAbs < 2 ^ 1000) : i.natAbs.log2 < 1920 := by
  by_cases h0 : i.natAbs = 0
  · rw [h0]; decide
  · have : i.natAbs.log2 < 1000 := (Nat.log2_lt h0).mpr h
    omega
theorem cal_str : CalOK κ (.type "str") [] strA := fun Φ ok g σ s vs xs kvs kxs Q R rv rk q => by
  have rk := rk
  unfold strA at q
  split at q
  · simp only [VRs, VR] at rv
    obtain ⟨_, _, rfl, ⟨t, rfl⟩, rfl⟩ := rv
    exact P.str_of_int (log2_of q.1) ⟨g, .str _, σ, .refl g, R.tok _, by simp only [VR]; exact ⟨_, rfl⟩, q.2⟩
  · simp only [VRs, VR] at rv
    obtain ⟨_, _, rfl, ⟨t, rfl⟩, rfl⟩ := rv
    exact P.str_of_str ⟨g, .str _, σ, .refl g, R, by simp only [VR]; exact ⟨_, rfl⟩, q⟩
  · exact q.elim

def typeA (vs kvs : List V) : W V := fun Q σ => match vs with
  | [.str _] => Q (.glob (.type "str")) σ
  | [.int _] => Q (.glob (.type "int")) σ
  | [v] => (match seqOf σ.objs v with
    | some l => Q (.glob (.type "list")) σ
    | none => False)
  | _ => False
theorem cal_type : CalOK κ (.type "type") [] typeA := fun Φ ok g σ s vs xs kvs kxs Q R rv rk q => by
  unfold typeA at q
  split at q
  · simp only [VRs, VR] at rv
    obtain ⟨_, _, rfl, ⟨t, rfl⟩, rfl⟩ := rv
    exact call_type_of (typeIs_str _ _ _) (by decide) ⟨g, .glob _, σ, .refl g, R, by simp only [VR], q⟩
  · simp only [VRs, VR] at rv
    obtain ⟨_, _, rfl, ⟨t, rfl⟩, rfl⟩ := rv
    exact call_type_of (typeIs_int _ _ _) (by decide) ⟨g, .glob _, σ, .refl g, R, by simp only [VR], q⟩
  · split at q
    · rename_i l hl
      simp only [VRs] at rv
      obtain ⟨_, _, rfl, rv, rfl⟩ := rv
      obtain ⟨a, ys, n, rfl, h1, h2⟩ := R.seq_at rv hl
      exact call_type_of (isList_of h1).typeIs (by decide) ⟨g, .glob _, σ, .refl g, R, by simp only [VR], q⟩
    · exact q.elim
  · exact q.elim

/-! ## join -/
def strsOf : List V → Option (List Str)
  | [] => some []
  | .str x :: r => (strsOf r).map (x :: ·)
  | _ :: _ => none
theorem strsOf_vrs {g : G} : ∀ {l : List V} {xs : List Value} {ys : List Str}, VRs g l xs → strsOf l = some ys → StrsAre xs ys
  | [], xs, ys, r, e => by simp only [VRs] at r; subst r; cases e; exact .nil
  | v :: l, xs, ys, r, e => by
    simp only [VRs] at r
    obtain ⟨y, zs, rfl, ry, rz⟩ := r
    cases v with
    | str x =>
      simp only [strsOf] at e
      cases q : strsOf l with
      | none => rw [q] at e; cases e
      | some us =>
        rw [q] at e; cases e
        simp only [VR] at ry
        obtain ⟨t, rfl⟩ := ry
        exact .cons _ _ (strsOf_vrs rz q)
    | _ => cases e
def joinA (vs kvs : List V) : W V := fun Q σ => match vs with
  | [.str x, v] => (match (seqOf σ.objs v).bind strsOf with
    | some ys => (ys.map (·.length)).sum + ys.length * x.length ≤ 16777216 ∧ Q (.str (Txt.join x ys)) σ
    | none => False)
  | _ => False
theorem cal_join : CalOK κ (.builtin "str.join") [] joinA := fun Φ ok g σ s vs xs kvs kxs Q R rv rk q => by
  unfold joinA at q
  split at q
  · split at q
    · rename_i ys hy
      simp only [VRs] at rv
      obtain ⟨_, _, rfl, r1, _, _, rfl, r2, rfl⟩ := rv
      simp only [VR] at r1
      obtain ⟨t, rfl⟩ := r1
      obtain ⟨l, hl, hs⟩ := Option.bind_eq_some_iff.mp hy
      obtain ⟨a, zs, n, rfl, h1, h2⟩ := R.seq_at r2 hl
      exact join_list (isList_of h1) (by simpa using strsOf_vrs h2 hs) q.1 fun t' k => ⟨g, .str _, σ, .refl g, R.tok _, by simp only [VR]; exact ⟨_, rfl⟩, q.2⟩
    · exact q.elim
  · exact q.elim

/-! ## '%s: %s' of a pair -/
set_option maxHeartbeats 4000000 in
theorem pct_meets {b : Addr} {t ta tb : Tok} {x y : Str} (hx : x.length ≤ 100000) (hy : y.length ≤ 100000) :
    Meets (Builtin.«str.__mod__» ⟨[.str ⟨#[37, 115, 58, 32, 37, 115]⟩ t, .ref b], []⟩) (fun _ R s => IsTup s.heap b #[.str x ta, .str y tb] ∧ ∀ t' k, R (.ok (.ret (.str (x ++ ⟨#[58, 32]⟩ ++ y) t'))) { s with toks := k }) := by
  kpt_run

/-! ## pop -/
def popA (vs kvs : List V) : W V := fun Q σ => match vs with
  | [.ref i] => (match lstAt σ.objs i with
    | some l => l.length ≤ sizeLine ∧ (match l.getLast? with
      | some v => Q v { σ with objs := σ.objs.set i (.list l.dropLast) }
      | none => False)
    | none => False)
  | [.ref i, .int k] => (match lstAt σ.objs i with
    | some l => l.length ≤ sizeLine ∧ 0 ≤ k ∧ (match l[k.toNat]? with
      | some v => Q v { σ with objs := σ.objs.set i (.list (l.eraseIdx k.toNat)) }
      | none => False)
    | none => False)
  | _ => False
theorem cal_pop : CalOK κ (.builtin "list.pop") [] popA := fun Φ ok g σ s vs xs kvs kxs Q R rv rk q => by
  have hk : kxs = [] ∨ True := .inr trivial
  unfold popA at q
  split at q
  · rename_i i
    split at q
    · rename_i l hl
      obtain ⟨hz, q⟩ := q
      split at q
      · rename_i v hv
        simp only [VRs] at rv
        obtain ⟨x, _, rfl, ri, rfl⟩ := rv
        obtain ⟨a, xs, n, rfl, hi, h1, h2⟩ := R.ref_at ri hl
        rw [List.getLast?_eq_getElem?] at hv
        obtain ⟨y, hy, ry⟩ := h2.get hv
        have hlen := h2.length
        have hne : 0 < l.length := by
          have := (List.getElem?_eq_some_iff.mp hv).1; omega
        refine call_meets F.slot_list_pop (isList_of h1).typeIs F.entry_list_pop (F.args_list_pop_1 _) (MeetsSeq.list_pop_last a xs.toArray n y (by simpa [hlen] using hy) (by simp [hlen]; exact hz)) ⟨h1, ?_⟩
        obtain ⟨n', e⟩ := mapSeq_listO (fun zs => zs.eraseIdxIfInBounds (xs.toArray.size - 1)) xs xs.dropLast n (by
          have : xs.length - 1 < xs.length := by omega
          simp [Array.eraseIdxIfInBounds, this, List.eraseIdx_length_sub_one])
        have h3 := Heap.get?_update_self (h := s.heap) (Obj.mapSeq fun zs => zs.eraseIdxIfInBounds (xs.toArray.size - 1)) h1 (by rw [e]; rfl)
        rw [e] at h3
        have R' := R.turn (o := .list l.dropLast) (tk := s.toks) hi h3 ⟨xs.dropLast, _, rfl, ?_⟩ fun b o hb e => (Heap.get?_update_other _ _ (Ne.symm hb)).trans e
        · exact ⟨g, v, _, .refl g, R', ry, q⟩
        · rw [List.dropLast_eq_take, List.dropLast_eq_take, hlen]
          refine VRs.of_get (by simp [hlen]) fun j u z e1 e2 => ?_
          rw [List.getElem?_take] at e1 e2
          split at e1
          · rename_i hj
            rw [if_pos hj] at e2
            obtain ⟨z', hz', rz⟩ := h2.get e1
            rw [e2] at hz'; cases hz'; exact rz
          · cases e1
      · exact q.elim
    · exact q.elim
  · rename_i i k
    split at q
    · rename_i l hl
      obtain ⟨hz, h0, q⟩ := q
      split at q
      · rename_i v hv
        simp only [VRs] at rv
        obtain ⟨x, _, rfl, ri, x', _, rfl, rk', rfl⟩ := rv
        simp only [VR] at rk'
        obtain ⟨tk, rfl⟩ := rk'
        obtain ⟨a, xs, n, rfl, hi, h1, h2⟩ := R.ref_at ri hl
        obtain ⟨y, hy, ry⟩ := h2.get hv
        have hlen := h2.length
        have hkl : k.toNat < l.length := (List.getElem?_eq_some_iff.mp hv).1
        have hz' := hz
        rw [sizeLine_eq] at hz'
        have hidx : seqIndex? k xs.toArray.size = some k.toNat := by
          unfold seqIndex?
          have : ¬ k < 0 := by omega
          simp [this]; omega
        refine call_meets F.slot_list_pop (isList_of h1).typeIs F.entry_list_pop (F.args_list_pop_2 _ _) (MeetsSeq.list_pop_at a xs.toArray n k tk k.toNat y (fitsIndex_of h0 (by omega)) hidx (by simpa using hy) (by simp [hlen]; exact hz)) ⟨h1, ?_⟩
        obtain ⟨n', e⟩ := mapSeq_listO (fun zs => zs.eraseIdxIfInBounds k.toNat) xs (xs.eraseIdx k.toNat) n (by
          have : k.toNat < xs.length := by omega
          simp [Array.eraseIdxIfInBounds, this])
        have h3 := Heap.get?_update_self (h := s.heap) (Obj.mapSeq fun zs => zs.eraseIdxIfInBounds k.toNat) h1 (by rw [e]; rfl)
        rw [e] at h3
        have R' := R.turn (o := .list (l.eraseIdx k.toNat)) (tk := s.toks) hi h3 ⟨xs.eraseIdx k.toNat, _, rfl, ?_⟩ fun b o hb e => (Heap.get?_update_other _ _ (Ne.symm hb)).trans e
        · exact ⟨g, v, _, .refl g, R', ry, q⟩
        · refine VRs.of_get (by simp [List.length_eraseIdx, hlen]) fun j u z e1 e2 => ?_
          rw [List.getElem?_eraseIdx] at e1 e2
          split at e1
          · rename_i hj
            rw [if_pos hj] at e2
            obtain ⟨z', hz', rz⟩ := h2.get e1
            rw [e2] at hz'; cases hz'; exact rz
          · rename_i hj
            rw [if_neg hj] at e2
            obtain ⟨z', hz', rz⟩ := h2.get e1
            rw [e2] at hz'; cases hz'; exact rz
      · exact q.elim
    · exact q.elim
  · exact q.elim
def pctA (a b : V) : W V := fun Q σ => match a, b with
  | .str f, .tup [.str x, .str y] => f = (⟨#[37, 115, 58, 32, 37, 115]⟩ : Str) ∧ x.length ≤ 100000 ∧ y.length ≤ 100000 ∧ Q (.str (x ++ (⟨#[58, 32]⟩ : Str) ++ y)) σ
  | _, _ => False
theorem pct_sound {Φ : Ctx} {g : G} {σ : St} {s : Shared} (R : Rel κ Φ g σ s) {a b : V} {x y : Value} (ha : VR g a x) (hb : VR g b y) {Q : V → St → Prop} (h : pctA a b Q σ) :
    wpAny (model κ.P.prog Φ.w) Φ.A (binaryOp .Mod x y) (PE κ Φ g Q) NoE s := by
  unfold pctA at h
  split at h
  · simp only [VR, VRs] at ha hb
    obtain ⟨t, rfl⟩ := ha
    obtain ⟨ad, xs, n, rfl, hm, _, _, rfl, ⟨t1, rfl⟩, _, _, rfl, ⟨t2, rfl⟩, rfl⟩ := hb
    obtain ⟨rfl, hx, hy, q⟩ := h
    have h1 := R.fz _ hm
    have ht : IsTup s.heap ad #[_, _] := ⟨_, h1, rfl, n, rfl⟩
    have hT : s.TypeIs (.ref ad) "tuple" := ⟨_, h1, rfl⟩
    exact KPt.bin_left (T := "str") (U := "tuple") (op := .Mod) (by decide) (typeIs_str s _ t) hT F.fills_str_mod KPt.fills_tuple F.slot_str_mod
      (call_meets F.slot_str_mod (typeIs_str s _ t) F.entry_str_mod (F.args_str_mod_2 _ _) (pct_meets hx hy) ⟨ht, fun t' k => ⟨(fun e => nomatch e), g, .str _, σ, .refl g, R.tok _, by simp only [VR]; exact ⟨_, rfl⟩, q⟩⟩)
  · exact h.elim
theorem r_Pct {l r : Expr} {pos : Pos} {f h : W V} (hl : SE κ l f) (hr : SE κ r h) : SE κ (.BinOp l .Mod r pos) (bnd f fun a => bnd h fun b => pctA a b) := fun Φ ok g σ s Q R q => by
  refine wpAny_BinOp (wpAny_mono (hl Φ ok g σ s _ R q) (fun x s₁ p => ?_) fun _ _ e => e)
  obtain ⟨g₁, a, σ₁, le₁, R₁, ra, q₁⟩ := p
  refine wpAny_mono (hr Φ ok g₁ σ₁ s₁ _ R₁ q₁) (fun y s₂ p => ?_) fun _ _ e => e
  obtain ⟨g₂, b, σ₂, le₂, R₂, rb, q₂⟩ := p
  exact wPE (le₁.trans le₂) (pct_sound R₂ (VR.mono le₂ a ra) rb q₂)

/-! ## xs[:] = ys -/
theorem setItem_all {prog : Program} {w : World} {A : Around} {E : Value → Shared → Prop} {s : Shared} {l v sl : Addr} {xs ys : List Value} {n n' : Nat} {Q : Unit → Shared → Prop} (hl : s.heap.get? l = some (listO xs n)) (hv : s.heap.get? v = some (listO ys n')) (hne : l ≠ v)
    (hs : s.heap.IsSliceOf sl .none .none .none) (hsz : xs.length + ys.length ≤ sizeLine)
    (h : ∀ h' n'', h'.get? l = some (listO ys n'') → (∀ b o, b ≠ l → s.heap.get? b = some o → h'.get? b = some o) → Q () { s with heap := h' }) :
    wpAny (model prog w) A (setItem (.ref l) (.ref sl) (.ref v)) Q E s := by
  have hL := isList_of hl
  obtain ⟨os, hos, hcs, hds⟩ := id hs
  have hTs : s.TypeIs (.ref sl) "slice" := ⟨os, hos, hcs⟩
  unfold setItem
  refine wpAny_holding ?_
  refine wpAny_bind (wpAny_sequenceKey hL.typeIs (by decide) ?_)
  refine wpAny_bind (wpAny_callSpecial?_slot (name := Str.ofString "__setitem__") hL.typeIs slot_list_setitem
    (wpAny_call_entry slot_list_setitem hL.typeIs entry_list_setitem ?_ (args_list_setitem _ _ _)))
  show wpAny _ _ (Builtin.List.listSubscript? (.ref sl) >>= _) _ _ s
  refine wpAny_bind ?_
  unfold Builtin.List.listSubscript?
  refine wpAny_bind (wpAny_specialOf hTs slice_no_index ?_)
  simp only [Option.isNone_none, if_true]
  refine wpAny_pure ?_
  show wpAny _ _ (typeOf (.ref sl) >>= _) _ _ s
  refine wpAny_bind (wpAny_typeOf hTs ?_)
  rw [if_neg (by decide)]
  rw [listSliceParts_eq]
  refine wpAny_bind (wpAny_bind (wpAny_field hos hds (x := .none) rfl (wpAny_bind (wpAny_listPart .none ?_))))
  rw [if_neg (by decide)]
  refine wpAny_bind (wpAny_field hos hds (x := .none) rfl (wpAny_bind (wpAny_listPart .none ?_)))
  refine wpAny_bind (wpAny_field hos hds (x := .none) rfl (wpAny_bind (wpAny_listPart .none (wpAny_pure ?_))))
  have hsame : Builtin.List.listSameRef (.ref l) (.ref v) = false := by show (l == v) = false; simpa using hne
  rw [hsame]
  simp only [Bool.false_eq_true, if_false]
  refine wpAny_bind (m := Builtin.List.listAllItems (.ref v) _) ?_
  unfold Builtin.List.listAllItems
  refine wpAny_bind (wpAny_typeOf (isList_of hv).typeIs ?_)
  rw [if_pos (by decide)]
  unfold Builtin.List.listItems
  refine wpAny_bind (wpAny_seqItems hv rfl (wpAny_pure ?_))
  refine wpAny_bind (wpAny_bind (wpAny_seqItems hl rfl (wpAny_pure ?_)))
  refine wpAny_bind (wpAny_of_eq (sliceIndices_raw none none none _ (by simp)) ?_)
  have hb : sliceBounds none none none xs.toArray.size = (0, (xs.length : Int), 1) := by simp [sliceBounds]
  rw [hb]
  rw [if_pos (show (((0 : Int), (xs.length : Int), (1 : Int)).2.snd == 1) = true from rfl)]
  refine wpAny_bind (wpAny_rule ?_)
  have hlong : Builtin.List.listTooLong (xs.toArray.size + ys.toArray.size) = false := by
    unfold Builtin.List.listTooLong
    simpa using hsz
  rw [hlong]
  simp only [Bool.false_eq_true, if_false]
  obtain ⟨n'', e⟩ := mapSeq_listO (fun zs => zs.extract 0 (Int.toNat 0) ++ ys.toArray ++ zs.extract (max (0 : Int) xs.length).toNat) xs ys n (by
    have : (max (0 : Int) xs.length).toNat = xs.length := by omega
    simp [this])
  unfold Builtin.List.listUpdate
  refine wpAny_bind (wpAny_updateSeq hl rfl (wpAny_bind (wpAny_letGo (wpAny_pure ⟨.none, rfl, wpAny_pure (h _ n'' ?_ fun b o hb e => (Heap.get?_update_other _ _ (Ne.symm hb)).trans e)⟩))) (hz := ?_) (_hz' := ?_))
  · rw [Heap.get?_update_self (h := s.heap) _ hl (by rw [e]; rfl), e]
  · simp; omega
  · have : (max (0 : Int) xs.length).toNat = xs.length := by omega
    simp [this]; omega
def sliceSetA (v u : V) : W Unit := fun Q σ => match v, u with
  | .ref i, .lst l => (match lstAt σ.objs i with
    | some l' => l'.length + l.length ≤ sizeLine ∧ Q () { σ with objs := σ.objs.set i (.list l) }
    | none => False)
  | _, _ => False
theorem a_SliceAll {value : Expr} {p p' : Pos} {f : W V} (hv : SE κ value f) : SA κ (.Subscript value (.Slice none none none p') p) (fun u => bnd f fun v => sliceSetA v u) := fun Φ ok g σ s Q u yu R ru q => by
  rw [arm_assign_Subscript]
  refine wpAny_bind (wpAny_holding (wpAny_mono (hv Φ ok g σ s _ R q) (fun x s₁ p => ?_) fun _ _ e => e))
  obtain ⟨g₁, v, σ₁, le₁, R₁, rv, q₁⟩ := p
  have q₁ : sliceSetA v u Q σ₁ := q₁
  unfold sliceSetA at q₁
  split at q₁
  · rename_i i l _
    split at q₁
    · rename_i l' hl
      replace ru := VR.mono le₁ _ ru
      simp only [VR] at ru
      obtain ⟨b, ys, n', rfl, hm, ry⟩ := ru
      obtain ⟨a, xs, n, rfl, hi, h1, h2⟩ := R₁.ref_at rv hl
      have hb := R₁.fz _ hm
      have hne : a ≠ b := fun e => (R₁.muts a (tr_mut (List.mem_of_getElem? hi))).2.1 _ hm e.symm
      refine wpAny_bind (wpAny_holding ?_)
      show wpAny _ _ (do
        let l ← valueOrNone (evalOpt none Φ.env)
        let u ← holding [l] (valueOrNone (evalOpt none Φ.env))
        let s ← holding [l, u] (valueOrNone (evalOpt none Φ.env))
        newFields "slice" [l, u, s]) _ _ s₁
      refine wpAny_bind (wpAny_pure (wpAny_bind (wpAny_holding (wpAny_pure (wpAny_bind (wpAny_holding (wpAny_pure ?_)))))))
      refine wpAny_newObj_type ?_
      refine wpAny_bind (wpAny_standAt (wpAny_bind (wpAny_holding (setItem_all (n := n) (n' := n') (xs := xs) (ys := ys) (Heap.get?_push_of_some _ h1) (Heap.get?_push_of_some _ hb) hne (Heap.IsSliceOf.new ..) (by have := h2.length; have := ry.length; have := q₁.1; omega) fun h' n'' h3 hk => ?_))))
      refine wpAny_release ?_
      have R2 : Rel κ Φ g₁ σ₁ { s₁ with heap := s₁.heap.push { cls := .type "slice", data := .fields #[.none, .none, .none] } } := R₁.keeps (tk := s₁.toks) fun b o e => Heap.get?_push_of_some _ e
      exact ⟨g₁, _, le₁, R2.turn (o := .list l) (tk := s₁.toks) hi h3 ⟨ys, n'', rfl, ry⟩ hk, q₁.2⟩
    · exact q₁.elim
  · exact q₁.elim

end
end Mine

open PySem PySem.W PyProof.Rows PySem.Calls
set_option Elab.async false
set_option maxRecDepth 100000
set_option linter.unusedVariables false

namespace Mine

theorem s_dead {κ : Kap} {st : Stmt} : SS κ st (fun _ _ => False) := fun _ _ _ _ _ _ _ q => q.elim
theorem b_dead {κ : Kap} {b : List Stmt} : SB κ b (fun _ _ => False) := fun _ _ _ _ _ _ _ q => q.elim
theorem r_dead {κ : Kap} {e : Expr} : SE κ e (fun _ _ => False) := fun _ _ _ _ _ _ _ q => q.elim

/-! ## Facts of the program's objects -/
def objFd : Obj → Option FuncData
  | ⟨_, _, .func fd, _⟩ => some fd
  | _ => none
def stmtsOf : FuncBody → List Stmt
  | .stmts b => b
  | _ => []
theorem fnAt_of {k : Frag} {f : Addr} {fd : FuncData} (h : (k.lookup f).bind objFd = some fd) : ∃ oc od osl, k.lookup f = some ⟨oc, od, .func fd, osl⟩ := by
  obtain ⟨o, h1, h2⟩ := Option.bind_eq_some_iff.mp h
  obtain ⟨oc, od, d, osl⟩ := o
  cases d <;> simp only [objFd] at h2 <;> first | (cases h2; exact ⟨oc, od, osl, h1⟩) | cases h2
def q0 : Params := { strHash := fun _ => 0, shareClass := fun _ => 0, mergeTok := fun t => t, idOf := fun _ => 0, idOfShared := fun _ _ => 0, followText := fun _ => false, idOfImm := fun _ => 0 }
theorem len0 {α : Type} {l : List α} (h : l.length = 0) : l = [] := List.eq_nil_of_length_eq_zero h
theorem len1 {α : Type} {l : List α} (h : l.length = 1) : ∃ a, l = [a] := List.length_eq_one_iff.mp h
theorem len2 {α : Type} {l : List α} (h : l.length = 2) : ∃ a b, l = [a, b] := by
  match l, h with
  | [a, b], _ => exact ⟨a, b, rfl⟩
theorem len3 {α : Type} {l : List α} (h : l.length = 3) : ∃ a b c, l = [a, b, c] := by
  match l, h with
  | [a, b, c], _ => exact ⟨a, b, c, rfl⟩

/-! ## Loops over a row -/
section
variable {α : Type}
theorem compL_pure {chk : List O → Prop} {tgt : V → W Unit} {ts : W Bool} {el : W V} (emb : α → V) (p : α → Bool) (f : α → V) (J : St → Prop) (hchk : ∀ σ, J σ → chk σ.objs) : ∀ {L : List α} {acc : List V} {Q : List V → St → Prop} {σ : St},
    (∀ a ∈ L, ∀ σ (Q : Option V → St → Prop), J σ → (∀ σ', J σ' → Q (if p a then some (f a) else none) σ') → tgt (emb a) (fun _ σ₁ => ts (fun b σ₂ => if b = true then el (fun u σ₃ => Q (some u) σ₃) σ₂ else Q none σ₂) σ₁) σ) →
    J σ → (∀ σ', J σ' → Q (acc ++ (L.filter p).map f) σ') → compL chk tgt ts el (L.map emb) acc Q σ
  | [], acc, Q, σ, _, hJ, hQ => ⟨hchk σ hJ, by simpa using hQ σ hJ⟩
  | a :: L, acc, Q, σ, hs, hJ, hQ => by
    refine ⟨hchk σ hJ, hs a (.head _) σ (fun o σ' => match o with | some u => compL chk tgt ts el (L.map emb) (acc ++ [u]) Q σ' | none => compL chk tgt ts el (L.map emb) acc Q σ') hJ fun σ' hJ' => ?_⟩
    have ih := fun (acc : List V) (h : ∀ σ', J σ' → Q (acc ++ (L.filter p).map f) σ') => compL_pure emb p f J hchk (L := L) (acc := acc) (Q := Q) (σ := σ') (fun b hb => hs b (.tail _ hb)) hJ' h
    cases hp : p a
    · simp only [Bool.false_eq_true, if_false]
      refine ih acc fun σ'' h => ?_
      have := hQ σ'' h
      simpa [hp] using this
    · simp only [if_true]
      refine ih _ fun σ'' h => ?_
      have := hQ σ'' h
      simpa [hp] using this

/-- a loop with an invariant over the items that are left -/
theorem forL_inv {chk : St → Prop} {tgt : V → W Unit} {body : W Fl} {Q : Fl → St → Prop} (I : List V → St → Prop) (hchk : ∀ l σ, I l σ → chk σ)
    (hstep : ∀ v l σ (K : Fl → St → Prop), I (v :: l) σ → (∀ σ₂, I l σ₂ → K .next σ₂) → (∀ σ₂, I l σ₂ → K .cont σ₂) → (∀ σ₂, Q .next σ₂ → K .brk σ₂) → (∀ u σ₂, Q (.ret u) σ₂ → K (.ret u) σ₂) → tgt v (fun _ σ₁ => body K σ₁) σ)
    (hend : ∀ σ, I [] σ → Q .next σ) : ∀ l σ, I l σ → forL chk tgt body l Q σ
  | [], σ, h => ⟨hchk _ σ h, hend σ h⟩
  | v :: l, σ, h => ⟨hchk _ σ h, hstep v l σ _ h (fun σ₂ h₂ => forL_inv I hchk hstep hend l σ₂ h₂) (fun σ₂ h₂ => forL_inv I hchk hstep hend l σ₂ h₂) (fun _ h₂ => h₂) (fun _ _ h₂ => h₂)⟩
end
end Mine

open PySem PySem.W PyProof.Rows PySem.Calls
set_option Elab.async false
set_option maxRecDepth 100000
set_option linter.unusedVariables false

namespace Mine

/-! ## The two patterns of the program -/
def codeN : Array Nat := #[14, 10, 4, 1, 1, 22, 0, 31, 16, 127, 0, 13, 7, 22, 0, 31, 16, 127, 0, 1]
def codeV : Array Nat := #[14, 14, 4, 1, 1, 9, 4294966783, 0, 0, 2147483648, 0, 0, 0, 0, 0, 13, 11, 9, 4294966783, 0, 0, 2147483648, 0, 0, 0, 0, 0, 1]
def okN (x : Str) : Prop := x.length ≤ 100000 ∧ ∀ c ∈ x.cps.toList, 32 ≤ c ∧ c ≠ 127
def okV (x : Str) : Prop := x.length ≤ 100000 ∧ ∀ c ∈ x.cps.toList, (32 ≤ c ∧ c ≠ 127) ∨ c = 9
theorem clearN {x : Str} (h : ∀ c ∈ x.cps.toList, 32 ≤ c ∧ c ≠ 127) : Clear codeN x.cps := fun c hc seen => by
  obtain ⟨h1, h2⟩ := h c hc
  have e1 : (decide (0 ≤ c) && decide (c ≤ 31)) = false := by simp; omega
  have e2 : (c == 127) = false := by simpa using h2
  refine ⟨((seen.add 22).add 16).add 0, ?_⟩
  show (if (decide (0 ≤ c) && decide (c ≤ 31)) = true then _ else (if (c == 127) = true then _ else _)) = _
  rw [e1, e2]
  rfl
theorem clearV {x : Str} (h : ∀ c ∈ x.cps.toList, (32 ≤ c ∧ c ≠ 127) ∨ c = 9) : Clear codeV x.cps := fun c hc seen => by
  have h := h c hc
  have e1 : (decide (c < 256) && (codeV.getD (5 + (1 + c / 32)) 0).testBit (c % 32)) = false := by
    by_cases hlt : c < 256
    · have key : ∀ c : Fin 256, ((32 ≤ c.val ∧ c.val ≠ 127) ∨ c.val = 9) → (codeV.getD (5 + (1 + c.val / 32)) 0).testBit (c.val % 32) = false := by decide +kernel
      rw [key ⟨c, hlt⟩ h]; simp
    · simp [hlt]
  refine ⟨(seen.add 9).add 0, ?_⟩
  show (if (decide (c < 256) && (codeV.getD (5 + (1 + c / 32)) 0).testBit (c % 32)) = true then _ else _) = _
  rw [e1]
  rfl

section
variable {κ : Kap}
theorem meth_or {n : Str} {fv : Value} {g₁ g₂ : V → St → Prop} (h₁ : MethOK κ n fv g₁) (h₂ : MethOK κ n fv g₂) : MethOK κ n fv (fun v σ => g₁ v σ ∨ g₂ v σ) :=
  fun Φ ok g σ s v x pl Q R rv hg q => hg.elim (fun h => h₁ Φ ok g σ s v x pl Q R rv h q) fun h => h₂ Φ ok g σ s v x pl Q R rv h q
theorem cal_or {fv : Value} {kws : List Str} {f₁ f₂ : List V → List V → W V} (h₁ : CalOK κ fv kws f₁) (h₂ : CalOK κ fv kws f₂) : CalOK κ fv kws (fun vs kvs Q σ => f₁ vs kvs Q σ ∨ f₂ vs kvs Q σ) :=
  fun Φ ok g σ s vs xs kvs kxs Q R rv rk q => q.elim (fun q => h₁ Φ ok g σ s vs xs kvs kxs Q R rv rk q) fun q => h₂ Φ ok g σ s vs xs kvs kxs Q R rv rk q
end

/-! ## Tables -/
def TB (objs : List O) (i j : Nat) (l : List V) : Prop := objs[i]? = some (.attrs [("_headers", .ref j)]) ∧ lstAt objs j = some l
def prV (p : Str × Str) : V := .tup [.str p.1, .str p.2]
def okK (x : Str) : Prop := okN x ∧ okN (Txt.lower x)
def Tab (L : List (Str × Str)) : Prop := L.length ≤ 1000 ∧ ∀ p ∈ L, okK p.1 ∧ okV p.2
def same (x : Str) (p : Str × Str) : Bool := Txt.lower p.1 == Txt.lower x
def getL (L : List (Str × Str)) (x : Str) : V := match L.find? (same x) with
  | some p => .str p.2
  | none => .none
def delL (L : List (Str × Str)) (x : Str) : List (Str × Str) := L.filter fun p => !same x p
def fmtL (p : Str × Str) : Str := p.1 ++ (⟨#[58, 32]⟩ : Str) ++ p.2
def crlf : Str := ⟨#[13, 10]⟩
def textL (L : List (Str × Str)) : Str := Txt.join crlf (L.map fmtL ++ [⟨#[]⟩, ⟨#[]⟩])

theorem lst_set {objs : List O} {j : Nat} {l l' : List V} (h : lstAt objs j = some l) : lstAt (objs.set j (.list l')) j = some l' := by
  unfold lstAt at h ⊢
  split at h
  · rename_i e
    rw [List.getElem?_set_self (List.getElem?_eq_some_iff.mp e).1]
  · cases h
theorem lst_set_ne {objs : List O} {i j : Nat} {o : O} (h : i ≠ j) : lstAt (objs.set i o) j = lstAt objs j := by
  unfold lstAt; rw [List.getElem?_set_ne h]
theorem TB.ne {objs : List O} {i j : Nat} {l : List V} (h : TB objs i j l) : i ≠ j := fun e => by
  subst e
  have := h.2
  unfold lstAt at this
  rw [h.1] at this
  cases this
theorem TB.set {objs : List O} {i j : Nat} {l l' : List V} (h : TB objs i j l) : TB (objs.set j (.list l')) i j l' :=
  ⟨by rw [List.getElem?_set_ne h.ne.symm]; exact h.1, lst_set h.2⟩
theorem getL_handed {L : List (Str × Str)} {x : Str} : (∃ y, getL L x = .str y) ∨ getL L x = .none := by
  unfold getL
  split
  · exact .inl ⟨_, rfl⟩
  · exact .inr rfl
end Mine

open PySem PySem.W PyProof.Rows PySem.Calls
set_option Elab.async false
set_option maxRecDepth 100000
set_option linter.unusedVariables false
set_option linter.unusedSimpArgs false

namespace Mine

theorem seqF_of {f h : W Fl} {Q : Fl → St → Prop} {σ : St} (P : St → Prop) (h1 : ∀ K : Fl → St → Prop, (∀ σ', P σ' → K .next σ') → f K σ) (h2 : ∀ σ', P σ' → h Q σ') : seqF f h Q σ := h1 _ fun σ' hp => h2 σ' hp
/-- a statement that may return -/
theorem seqF_ret {f h : W Fl} {Q : Fl → St → Prop} {σ : St} (P : St → Prop) (h1 : ∀ K : Fl → St → Prop, (∀ σ', P σ' → K .next σ') → (∀ v σ', Q (.ret v) σ' → K (.ret v) σ') → f K σ) (h2 : ∀ σ', P σ' → h Q σ') : seqF f h Q σ :=
  h1 _ (fun σ' hp => h2 σ' hp) (fun v σ' hq => hq)
theorem seqF_flow {f h : W Fl} {Q : Fl → St → Prop} {σ : St} (P : St → Prop) (h1 : ∀ K : Fl → St → Prop, (∀ σ', P σ' → K .next σ') → (∀ v σ', Q (.ret v) σ' → K (.ret v) σ') → (∀ σ', Q .brk σ' → K .brk σ') → (∀ σ', Q .cont σ' → K .cont σ') → f K σ) (h2 : ∀ σ', P σ' → h Q σ') : seqF f h Q σ :=
  h1 _ (fun σ' hp => h2 σ' hp) (fun v σ' hq => hq) (fun σ' hq => hq) (fun σ' hq => hq)

section
variable {objs : List O}
theorem seqOpt_some {α : Type} : ∀ (l : List α), seqOpt (l.map some) = some l
  | [] => rfl
  | a :: l => by simp [seqOpt, seqOpt_some l]
theorem nrm_str {n : Nat} {x : Str} : nrm objs (n + 1) (.str x) = some (.str x) := rfl
theorem nrm_int {n : Nat} {x : Int} : nrm objs (n + 1) (.int x) = some (.int x) := rfl
theorem nrm_lst {n : Nat} {l : List V} (h : ∀ v ∈ l, nrm objs n v = some v) : nrm objs (n + 1) (.lst l) = some (.lst l) := by
  have e : l.map (nrm objs n) = l.map some := List.map_congr_left h
  simp only [nrm, e, seqOpt_some, Option.map_some]
theorem nrm_tup {n : Nat} {l : List V} (h : ∀ v ∈ l, nrm objs n v = some v) : nrm objs (n + 1) (.tup l) = some (.tup l) := by
  have e : l.map (nrm objs n) = l.map some := List.map_congr_left h
  simp only [nrm, e, seqOpt_some, Option.map_some]
theorem nrm_ref {n i : Nat} {l : List V} (hi : lstAt objs i = some l) (h : ∀ v ∈ l, nrm objs n v = some v) : nrm objs (n + 1) (.ref i) = some (.lst l) := by
  have e : l.map (nrm objs n) = l.map some := List.map_congr_left h
  simp only [nrm, hi, e, seqOpt_some, Option.map_some]
theorem nrm_prV {n : Nat} {p : Str × Str} : nrm objs (n + 2) (prV p) = some (prV p) := nrm_tup fun v hv => by
  rcases List.mem_cons.mp hv with rfl | hv
  · rfl
  · rw [List.mem_singleton.mp hv]; rfl
theorem nrm_seqv {n : Nat} {a : V} {l : List V} (ha : seqOf objs a = some l) (h : ∀ v ∈ l, nrm objs n v = some v) : nrm objs (n + 1) a = some (.lst l) := by
  cases a with
  | lst m => simp only [seqOf] at ha; cases ha; exact nrm_lst h
  | ref i => exact nrm_ref ha h
  | _ => cases ha
end

theorem veqs_map {α : Type} {f : α → V} [DecidableEq α] (h : ∀ a b, veq (f a) (f b) = some (decide (a = b))) : ∀ (l m : List α), veqs (l.map f) (m.map f) = some (decide (l = m))
  | [], [] => rfl
  | [], _ :: _ => rfl
  | _ :: _, [] => rfl
  | a :: l, b :: m => by
    simp only [List.map_cons, veqs, h a b, veqs_map h l m, List.cons.injEq]
    by_cases h1 : a = b <;> by_cases h2 : l = m <;> simp [h1, h2]
theorem veq_str (a b : Str) : veq (.str a) (.str b) = some (decide (a = b)) := by
  simp only [veq, Option.some.injEq]
  by_cases h : a = b <;> simp [h]
theorem veq_prV (p q : Str × Str) : veq (prV p) (prV q) = some (decide (p = q)) := by
  obtain ⟨a, b⟩ := p
  obtain ⟨c, d⟩ := q
  have e : veq (prV (a, b)) (prV (c, d)) = some ((a == c) && ((b == d) && true)) := by simp [prV, veq, veqs]
  rw [e]
  by_cases h1 : a = c <;> by_cases h2 : b = d <;> simp [h1, h2]
theorem eqA_seq {α : Type} [DecidableEq α] {f : α → V} {σ : St} {a b : V} {l m : List α} {Q : Bool → St → Prop} (h : ∀ a b, veq (f a) (f b) = some (decide (a = b))) (hn : ∀ x objs, nrm objs 7 (f x) = some (f x))
    (ha : seqOf σ.objs a = some (l.map f)) (hb : seqOf σ.objs b = some (m.map f)) (q : Q (decide (l = m)) σ) : eqA a b Q σ := by
  have e1 : nrm σ.objs 8 a = some (.lst (l.map f)) := nrm_seqv ha fun v hv => by obtain ⟨x, _, rfl⟩ := List.mem_map.mp hv; exact hn x _
  have e2 : nrm σ.objs 8 b = some (.lst (m.map f)) := nrm_seqv hb fun v hv => by obtain ⟨x, _, rfl⟩ := List.mem_map.mp hv; exact hn x _
  unfold eqA
  split
  · cases ha
  · cases ha
  · rw [e1, e2]
    simp only [veq, veqs_map h]
    exact q
theorem eqA_pairs {σ : St} {a b : V} {l m : List (Str × Str)} {Q : Bool → St → Prop} (ha : seqOf σ.objs a = some (l.map prV)) (hb : seqOf σ.objs b = some (m.map prV)) (q : Q (decide (l = m)) σ) : eqA a b Q σ :=
  eqA_seq veq_prV (fun _ _ => nrm_prV) ha hb q
theorem eqA_strs {σ : St} {a b : V} {l m : List Str} {Q : Bool → St → Prop} (ha : seqOf σ.objs a = some (l.map .str)) (hb : seqOf σ.objs b = some (m.map .str)) (q : Q (decide (l = m)) σ) : eqA a b Q σ :=
  eqA_seq veq_str (fun _ _ => nrm_str) ha hb q
theorem eqA_pr {σ : St} {p r : Str × Str} {Q : Bool → St → Prop} (q : Q (decide (p = r)) σ) : eqA (prV p) (prV r) Q σ := by
  have e1 : nrm σ.objs 8 (prV p) = some (prV p) := nrm_prV
  have e2 : nrm σ.objs 8 (prV r) = some (prV r) := nrm_prV
  have : eqA (prV p) (prV r) Q σ = (match nrm σ.objs 8 (prV p), nrm σ.objs 8 (prV r) with
    | some a', some b' => (match veq a' b' with
      | some r => Q r σ
      | none => False)
    | _, _ => False) := rfl
  rw [this, e1, e2]
  simp only [veq_prV]
  exact q
theorem memA_map {α : Type} {objs : List O} {f : α → V} {a : V} {p : α → Bool} (h : ∀ x, nrm objs 8 (f x) = some (f x)) (h' : ∀ x, veq (f x) a = some (p x)) : ∀ (l : List α), memA objs a (l.map f) = some (l.any p)
  | [] => rfl
  | x :: l => by simp only [List.map_cons, memA, h x, h' x, memA_map h h' l, List.any_cons]
theorem inA_strs {σ : St} {x : Str} {b : V} {l : List Str} {Q : Bool → St → Prop} (hb : seqOf σ.objs b = some (l.map .str)) (q : Q (l.any fun y => decide (y = x)) σ) : inA (.str x) b Q σ := by
  unfold inA
  rw [hb]
  simp only [nrm_str, memA_map (fun y => nrm_str) (fun y => veq_str y x) l]
  exact q
theorem enumV_mem : ∀ {l : List V} {i : Nat} {v : V}, v ∈ enumV i l → ∃ j u, v = .tup [.int ((j : Nat) : Int), u] ∧ u ∈ l ∧ i ≤ j ∧ j < i + l.length
  | [], _, _, h => by cases h
  | u :: l, i, v, h => by
    simp only [enumV] at h
    rcases List.mem_cons.mp h with rfl | h
    · exact ⟨i, u, rfl, .head _, Nat.le_refl _, by simp⟩
    · obtain ⟨j, w, h1, h2, h3, h4⟩ := enumV_mem h
      exact ⟨j, w, h1, .tail _ h2, by omega, by simp; omega⟩
theorem okV_int : ∀ i < 100, okV (intS ((i : Nat) : Int)) := by
  have key : ∀ i < 100, ((intS ((i : Nat) : Int)).length ≤ 100000 && (intS ((i : Nat) : Int)).cps.toList.all fun c => decide (32 ≤ c) && c != 127) = true := by decide +kernel
  intro i hi
  have := key i hi
  simp only [Bool.and_eq_true, decide_eq_true_eq, List.all_eq_true, bne_iff_ne] at this
  exact ⟨this.1, fun c hc => .inl (this.2 c hc)⟩
theorem okV_empty : okV ⟨#[]⟩ := ⟨by decide, fun c hc => by cases hc⟩
end Mine

open PySem PySem.W PyProof.Rows PySem.Calls
set_option Elab.async false
set_option maxRecDepth 100000
set_option linter.unusedVariables false
set_option linter.unusedSimpArgs false

namespace Mine

/-! ## The law's own frame -/
def globAt (k : Frag) : Option (Array DictEntry) := match k.lookup mainGlobals with
  | some o => (match o.data with
    | .dict es _ => some es
    | _ => none)
  | none => none
def globOK (es : Array DictEntry) (gl : List (Str × Value)) : Bool := gl.all fun p => match nsFind es p.1 with
  | some v => v == p.2
  | none => bootBuiltins p.1 == some p.2 && p.1 != ("__name__" : Str)

def globChk (k : Frag) (gl : List (Str × Value)) : Bool := match globAt k with
  | some es => globOK es gl
  | none => false
theorem glob_of {K : Frag} {gl : List (Str × Value)} {es : Array DictEntry} {h : Heap} {mg mb : Str → Option Value} (X : K.In h) (he : globAt K = some es) (hok : globOK es gl = true) (hg : h.Ns mainGlobals mg) (hb : ∀ x : Str, x ≠ "__name__" → mb x = bootBuiltins x) :
    ∀ x v, gl.lookup x = some v → mg x = some v ∨ (mg x = none ∧ mb x = some v) := fun x v hx => by
  unfold globAt at he
  split at he
  · rename_i o ho
    split at he
    · rename_i es' ep hd
      cases he
      obtain ⟨o', es'', ep'', h1, h2, h3, h4⟩ := hg
      have := X _ _ ho
      rw [h1] at this; cases this
      rw [hd] at h2; cases h2
      have hm := lookup_mem hx
      have hc := List.all_eq_true.mp hok _ hm
      simp only at hc
      rw [← h4 x]
      cases q : nsFind es x with
      | some u =>
        rw [q] at hc
        simp only [beq_iff_eq] at hc
        exact .inl (by rw [hc])
      | none =>
        rw [q] at hc
        simp only [Bool.and_eq_true, beq_iff_eq, bne_iff_ne] at hc
        exact .inr ⟨rfl, by rw [hb x hc.2]; exact hc.1⟩
    · cases he
  · cases he

theorem well_ints {P : Params} {h : Heap} : ∀ {ns : List Int} {vs : List Value}, WellAll P h vs (ofPys (ns.map .int)) → ∀ g, VRs g (ns.map .int) vs
  | [], vs, h, g => by cases h; exact .nil
  | n :: ns, vs, h, g => by
    cases h with
    | cons h1 h2 =>
      cases h1 with
      | int i t => exact .cons (by simp only [VR]; exact ⟨t, rfl⟩) (well_ints h2 g)
theorem law_end {P : Prg} {names : List (Str × NameKind)} {vars : List Str} {D : Nat} {body : List Stmt} {fb : W Fl} {w : World} {s₁ : Shared} {h₁ : Heap} {mg mb : Str → Option Value} {env : Env} {A : Around} {a : Addr} {ns : List Int} {tk : Nat}
    {Post : Flow → Shared → Prop} {E : Value → Shared → Prop} {mL : Str → Option Value}
    (hb : SB ⟨P, names, vars, D, true⟩ body fb) (hrun : fb (fun fl _ => fl = .ret (.bool true)) ⟨initLoc vars ["script"] [.lst (ns.map .int)], []⟩)
    (KX : (P.K w.params).In s₁.heap) (hg : s₁.heap.Ns mainGlobals mg) (hbn : s₁.heap.Ns builtinsNs mb) (hbt : ∀ x : Str, x ≠ "__name__" → mb x = bootBuiltins x) (nolim : s₁.heap.NoLimit)
    (hchk : ∀ q, globChk (P.K q) P.glob = true)
    (hkinds : ∀ x, env.kindOf x = names.lookup x) (hkind : env.scope.kind = .function) (hglo : env.globals = mainGlobals) (hbui : env.builtins = builtinsNs) (hloc : env.locals = s₁.heap.objs.size) (hcells : env.cells = [])
    (hnc : ∀ x ∈ names, x.2 ≠ .cell) (hAe : A = callerA.deeper env) (hD : D ≤ 50)
    (F : Fr s₁.heap s₁.heap.objs.size h₁ mL) (hmL : mL "script" = some (.ref a)) (hgens : s₁.gens = #[]) (hW : Well w.params s₁.heap (.ref a) (ofPy (.list (ns.map .int))))
    (hQ : ∀ s' m, Fr s₁.heap s₁.heap.objs.size s'.heap m → s'.gens = #[] → s'.os = s₁.os → Post (.ret (.bool true)) s') :
    wpAny (model P.prog w) A (execs body env) Post E { s₁ with heap := h₁, toks := tk } := by
  have hA : A.handled = none := by rw [hAe]; rfl
  have hdep : A.depth + 2 * D < recursionLimit := by
    rw [hAe]
    show callerA.depth + 1 + 2 * D < recursionLimit
    have h1 : callerA.depth + 1 + 100 < recursionLimit := by decide
    omega
  have hun : A.units + 20 * D + 100 < cLine := by
    rw [hAe]
    show callerA.units + 3 + 20 * D + 100 < cLine
    have h1 : callerA.units + 3 + 1000 + 100 < cLine := by decide
    omega
  obtain ⟨es, he, hok⟩ : ∃ es, globAt (P.K w.params) = some es ∧ globOK es P.glob = true := by
    have := hchk w.params
    unfold globChk at this
    split at this
    · rename_i es e; exact ⟨es, e, this⟩
    · cases this
  obtain ⟨vs, hget, hall⟩ : ∃ vs : List Value, s₁.heap.get? a = some (listO vs 0) ∧ WellAll w.params s₁.heap vs (ofPys (ns.map .int)) := by
    cases hW with
    | list h1 h2 => exact ⟨_, h1, h2⟩
  let Φ : Ctx := { w := w, h₀ := s₁.heap, A := A, env := env, cw := [], pins := [], os := s₁.os, forb := [] }
  let g : G := ⟨[(a, listO vs 0)], []⟩
  have hnone : s₁.heap.get? env.locals = none := by
    rw [hloc]
    cases q : s₁.heap.get? s₁.heap.objs.size with
    | none => rfl
    | some o => exact absurd (Heap.lt_size q) (Nat.lt_irrefl _)
  have notcell : ∀ x, names.lookup x = some .cell → False := fun x hx => hnc _ (lookup_mem hx) rfl
  have ok : Ctx.Ok ⟨P, names, vars, D, true⟩ Φ := by
    refine ⟨hkinds, hkind, hglo, hbui, hA, KX, nolim, ⟨mg, mb, hg, hbn, glob_of KX he hok hg hbt⟩, hdep, fun _ x hx => (notcell x hx).elim, ?_, fun x y c hx => ?_, hun⟩
    · show s₁.heap.objs.size ≤ env.locals; rw [hloc]; exact Nat.le_refl _
    · rw [show Φ.env.cells = [] from hcells] at hx; cases hx
  have R : Rel ⟨P, names, vars, D, true⟩ Φ g ⟨initLoc vars ["script"] [.lst (ns.map .int)], []⟩ { s₁ with heap := h₁, toks := tk } := by
    refine ⟨⟨mL, by show h₁.Ns env.locals mL; rw [hloc]; exact F.ns, fun x k v hsl hl => ?_⟩, (fun c hc => by cases hc), F.keep, fun p hp => ?_, (fun p hp => by cases hp), ⟨rfl, fun i b o e => ?_⟩, fun b hb => ?_, ?_, (fun p hp => by cases hp), fun x c hk e => ?_, hgens, rfl, (fun b hb => by cases hb)⟩
    · have hl' : lget (vars.map fun x => ([(("script" : Str), V.lst (ns.map .int))] : List (Str × V)).lookup x) k = some v := hl
      rw [lget_map (slot_get hsl)] at hl'
      rw [List.lookup_cons] at hl'
      split at hl'
      · rename_i hx
        have := beq_iff_eq.mp hx
        subst this
        cases hl'
        split
        · refine ⟨_, hmL, ?_⟩
          simp only [VR]
          exact ⟨a, vs, 0, rfl, .head _, well_ints hall g⟩
        · rename_i hc
          exact (notcell _ ((hkinds _).symm.trans hc)).elim
        · trivial
      · cases hl'
    · rw [List.mem_singleton.mp hp]; exact F.keep _ _ hget
    · exact absurd e (by simp [g])
    · have hb' : b = env.locals := by simpa [Ctx.muts, Φ, g] using hb
      subst hb'
      refine ⟨hnone, fun p hp e => ?_, (fun p hp => by cases hp)⟩
      rw [List.mem_singleton.mp hp] at e
      rw [← (show a = env.locals from e), hget] at hnone; cases hnone
    · show ([env.locals] : List Addr).Nodup
      exact List.nodup_cons.mpr ⟨by simp, List.nodup_nil⟩
    · rw [show Φ.env.cells = [] from hcells] at e; cases e
  refine wpAny_mono (hb Φ ok g _ _ _ R hrun) (fun f s' p => ?_) fun _ _ e => e.elim
  obtain ⟨g', fl, σ', le, R', rf, rfl⟩ := p
  simp only [FlR] at rf
  obtain ⟨x, rfl, rx⟩ := rf
  simp only [VR] at rx
  subst rx
  obtain ⟨m, hm, _⟩ := R'.ns
  exact hQ s' m ⟨by rw [← hloc]; exact hm, R'.keep, Nat.le_refl _⟩ R'.gens R'.os
end Mine

open PySem PySem.W PyProof.Rows PySem.Calls
set_option Elab.async false
set_option maxRecDepth 100000
set_option linter.unusedVariables false
set_option linter.unusedSimpArgs false

namespace Mine

/-! ## xs[i] = v -/
def idxN (k : Int) (n : Nat) : Option Nat := if 0 ≤ k then (if k < n then some k.toNat else none) else if -(n : Int) ≤ k then some (k + n).toNat else none
theorem idxN_lt {k : Int} {n m : Nat} (h : idxN k n = some m) : m < n := by
  unfold idxN at h
  split at h
  · split at h
    · cases h; omega
    · cases h
  · split at h
    · cases h; omega
    · cases h

theorem setItem_idx {prog : Program} {w : World} {A : Around} {E : Value → Shared → Prop} {s : Shared} {l : Addr} {xs : List Value} {n m : Nat} {k : Int} {t : Tok} {v : Value} {Q : Unit → Shared → Prop} (hl : s.heap.get? l = some (listO xs n))
    (hfit : -(2 ^ 62) ≤ k ∧ k < 2 ^ 62) (hm : idxN k xs.length = some m)
    (h : ∀ h' n', h'.get? l = some (listO (xs.set m v) n') → (∀ b o, b ≠ l → s.heap.get? b = some o → h'.get? b = some o) → Q () { s with heap := h' }) :
    wpAny (model prog w) A (setItem (.ref l) (.int k t) v) Q E s := by
  have hL := isList_of hl
  have hml := idxN_lt hm
  have hfit' : Builtin.List.listFitsIndex k = true := by
    unfold Builtin.List.listFitsIndex
    simp only [Bool.and_eq_true, decide_eq_true_eq]
    omega
  unfold setItem
  refine wpAny_holding ?_
  refine wpAny_bind (wpAny_sequenceKey hL.typeIs (by decide) ?_)
  refine wpAny_bind (wpAny_callSpecial?_slot (name := Str.ofString "__setitem__") hL.typeIs slot_list_setitem
    (wpAny_call_entry slot_list_setitem hL.typeIs entry_list_setitem ?_ (args_list_setitem _ _ _)))
  show wpAny _ _ (Builtin.List.listSubscript? (.int k t) >>= _) _ _ s
  refine wpAny_bind (wpAny_listSubscript_int hfit' ?_)
  obtain ⟨n', e⟩ := mapSeq_listO (fun zs => zs.setIfInBounds m v) xs (xs.set m v) n (by simp)
  have hupd : (s.heap.update l (Obj.mapSeq fun zs => zs.setIfInBounds m v)).get? l = some (listO (xs.set m v) n') := by
    rw [Heap.get?_update_self (h := s.heap) _ hl (by rw [e]; rfl), e]
  have fin : wpAny (model prog w) A.in1 (setSeqItemAt l m v >>= fun _ => PySem.ret .none) (fun fin s' => ∃ v, fin = Fin.done (Flow.ret v) ∧ wpAny (model prog w) A (pure ()) Q E s') E s :=
    wpAny_bind (wpAny_setSeqItemAt hl rfl (wpAny_pure ⟨.none, rfl, wpAny_pure (h _ n' hupd fun b o hb e => (Heap.get?_update_other _ _ (Ne.symm hb)).trans e)⟩))
  have hx : (xs.toArray)[m]? = some xs[m] := by simp [hml]
  unfold idxN at hm
  split at hm
  · rename_i h0
    split at hm
    · rename_i h1
      cases hm
      obtain ⟨j, rfl⟩ := Int.eq_ofNat_of_zero_le h0
      show wpAny _ _ ((seqItemAt l j >>= fun r => pure (r.map (j, ·))) >>= _) _ _ s
      refine wpAny_bind (wpAny_bind (wpAny_seqItemAt hl rfl (wpAny_pure ?_)))
      have hx' : (xs.toArray)[j]? = some xs[(j : Int).toNat] := hx
      rw [hx']
      exact fin
    · cases hm
  · rename_i h0
    split at hm
    · rename_i h1
      cases hm
      obtain ⟨j, rfl⟩ := Int.eq_negSucc_of_lt_zero (show k < 0 by omega)
      have hsi : seqIndex? (Int.negSucc j) xs.toArray.size = some (Int.negSucc j + xs.length).toNat := by
        rw [MeetsSeq.seqIndex_neg (by omega) (by simp; omega)]; simp
      show wpAny _ _ ((Builtin.List.listItems (.ref l) >>= fun ys => pure ((seqIndex? (Int.negSucc j) ys.size).bind fun i => ys[i]?.map (i, ·))) >>= _) _ _ s
      unfold Builtin.List.listItems
      refine wpAny_bind (wpAny_bind (wpAny_bind (wpAny_seqItems hl rfl (wpAny_pure (wpAny_pure ?_)))))
      rw [hsi]
      simp only [Option.bind_some, hx, Option.map_some]
      exact fin
    · cases hm
def setIdxA (v i u : V) : W Unit := fun Q σ => match v, i with
  | .ref j, .int k => (-(2 ^ 62) ≤ k ∧ k < 2 ^ 62) ∧ (match lstAt σ.objs j with
    | some l => (match idxN k l.length with
      | some m => Q () { σ with objs := σ.objs.set j (.list (l.set m u)) }
      | none => False)
    | none => False)
  | _, _ => False
section
variable {κ : Kap}
theorem setIdx_sound {Φ : Ctx} {g : G} {σ : St} {s : Shared} (R : Rel κ Φ g σ s) {v i u : V} {x y z : Value} (rv : VR g v x) (ri : VR g i y) (ru : VR g u z) {Q : Unit → St → Prop} (h : setIdxA v i u Q σ) :
    wpAny (model κ.P.prog Φ.w) Φ.A (setItem x y z) (PU κ Φ g Q) NoE s := by
  unfold setIdxA at h
  split at h
  · rename_i j k
    obtain ⟨hk, h⟩ := h
    split at h
    · rename_i l hl
      split at h
      · rename_i m hm
        simp only [VR] at ri
        obtain ⟨t, rfl⟩ := ri
        obtain ⟨a, xs, n, rfl, hi, h1, h2⟩ := R.ref_at rv hl
        refine setItem_idx h1 hk (by rw [h2.length]; exact hm) fun h' n' h3 hk' => ?_
        refine ⟨g, _, .refl g, R.turn (o := .list (l.set m u)) (tk := s.toks) hi h3 ⟨xs.set m z, n', rfl, ?_⟩ hk', h⟩
        refine VRs.of_get (by simp [h2.length]) fun i v x e1 e2 => ?_
        rw [List.getElem?_set] at e1 e2
        split at e1
        · rename_i hmi
          rw [if_pos hmi] at e2
          split at e1
          · cases e1
            split at e2
            · cases e2; exact ru
            · cases e2
          · cases e1
        · rename_i hmi
          rw [if_neg hmi] at e2
          obtain ⟨x', hx', rx⟩ := h2.get e1
          rw [e2] at hx'; cases hx'; exact rx
      · exact h.elim
    · exact h.elim
  · exact h.elim
theorem a_SubSet {value slice : Expr} {p : Pos} {f h : W V} (hv : SE κ value f) (hi : SE κ slice h) : SA κ (.Subscript value slice p) (fun u => bnd f fun v => bnd h fun i => setIdxA v i u) := fun Φ ok g σ s Q u yu R ru q => by
  rw [arm_assign_Subscript]
  refine wpAny_bind (wpAny_holding (wpAny_mono (hv Φ ok g σ s _ R q) (fun x s₁ p => ?_) fun _ _ e => e))
  obtain ⟨g₁, a, σ₁, le₁, R₁, ra, q₁⟩ := p
  refine wpAny_bind (wpAny_holding (wpAny_mono (hi Φ ok g₁ σ₁ s₁ _ R₁ q₁) (fun y s₂ p => ?_) fun _ _ e => e))
  obtain ⟨g₂, b, σ₂, le₂, R₂, rb, q₂⟩ := p
  refine wpAny_bind (wpAny_standAt (wpAny_bind (wpAny_holding (wpAny_mono (setIdx_sound R₂ (VR.mono le₂ a ra) rb (VR.mono (le₁.trans le₂) u ru) q₂) (fun _ s₃ p => ?_) fun _ _ e => e))))
  obtain ⟨g₃, σ₃, le₃, R₃, q₃⟩ := p
  exact wpAny_release ⟨g₃, σ₃, (le₁.trans le₂).trans le₃, R₃, q₃⟩

/-! ## l op m op r as a test -/
theorem t_Compare2 {l m r : Expr} {op₁ op₂ : CmpOp} {pos : Pos} {f h k : W V} (hl : SE κ l f) (hm : SE κ m h) (hr : SE κ r k) (hb : lastMarks [op₁, op₂] [m, r] = false := by rfl) :
    ST κ (.Compare l [op₁, op₂] [m, r] pos) (bnd f fun a => bnd h fun b => bnd (cmpA op₁ a b) fun t => if t then bnd k fun c => cmpA op₂ b c else ret false) := fun Φ ok g σ s Q R q => by
  refine isTrue_chain (wpAny_mono (hl Φ ok g σ s _ R q) (fun x s₁ p => ?_) fun _ _ e => e) hb
  obtain ⟨g₁, a, σ₁, le₁, R₁, ra, q₁⟩ := p
  refine test_link (wpAny_mono (hm Φ ok g₁ σ₁ s₁ _ R₁ q₁) (fun y s₂ p => ?_) fun _ _ e => e)
  obtain ⟨g₂, b, σ₂, le₂, R₂, rb, q₂⟩ := p
  refine wpAny_mono (cmp_sound ok R₂ (VR.mono le₂ a ra) rb q₂) (fun z s₃ p => ?_) fun _ _ e => e
  obtain ⟨g₃, c, σ₃, le₃, R₃, rc, r', rfl, q₃⟩ := p
  simp only [VR] at rc
  subst rc
  refine wpAny_truthy_bool ?_
  cases r' with
  | false => exact ⟨g₃, σ₃, (le₁.trans le₂).trans le₃, R₃, q₃⟩
  | true =>
    simp only [if_true] at q₃ ⊢
    refine test_last (wpAny_mono (hr Φ ok g₃ σ₃ s₃ _ R₃ q₃) (fun y s₄ p => ?_) fun _ _ e => e)
    obtain ⟨g₄, d, σ₄, le₄, R₄, rd, q₄⟩ := p
    refine wpAny_mono (cmp_sound ok R₄ (VR.mono (le₃.trans le₄) b rb) rd q₄) (fun z s₃ p => ?_) fun _ _ e => e
    obtain ⟨g₅, c, σ₅, le₅, R₅, rc, r, rfl, q₅⟩ := p
    simp only [VR] at rc
    subst rc
    exact wpAny_truthy_bool ⟨g₅, σ₅, (((le₁.trans le₂).trans le₃).trans le₄).trans le₅, R₅, q₅⟩
end

/-! ## The law's own frame, with cells -/
theorem cellsFrom_apart : ∀ (names : List (Str × NameKind)) (n : Nat) (acc : List (Str × Addr)), acc.Pairwise (fun x y => x.2 ≠ y.2) → (∀ p ∈ acc, p.2 < n) → (cellsFrom n names acc).Pairwise (fun x y => x.2 ≠ y.2)
  | [], _, acc, h, _ => h
  | (y, k) :: r, n, acc, h, hl => by
    unfold cellsFrom
    split
    · refine cellsFrom_apart r _ _ (List.pairwise_cons.mpr ⟨fun p hp e => ?_, h⟩) fun p hp => ?_
      · exact absurd (hl p hp) (by rw [← e]; exact Nat.lt_irrefl _)
      · rcases List.mem_cons.mp hp with rfl | hp
        · exact Nat.lt_succ_self _
        · exact Nat.lt_succ_of_lt (hl p hp)
    · exact cellsFrom_apart r _ _ h hl
theorem cells_mem {cm : Str → Option Value} : ∀ {cs : List (Str × Addr)} {news : List (Addr × Obj)}, CellsAre cm cs news → ∀ {p : Str × Addr}, p ∈ cs → ∃ o v, (p.2, o) ∈ news ∧ o.data = .cell v
  | _, _, .nil, _, h => by cases h
  | _, _, .cons hd r, p, h => by
    rcases List.mem_cons.mp h with rfl | h
    · exact ⟨_, _, .head _, hd⟩
    · obtain ⟨o, v, h1, h2⟩ := cells_mem r h
      exact ⟨o, v, .tail _ h1, h2⟩
theorem law_endC {P : Prg} {names : List (Str × NameKind)} {vars : List Str} {D : Nat} {body : List Stmt} {fb : W Fl} {w : World} {s₁ : Shared} {h₁ : Heap} {mg mb : Str → Option Value} {env : Env} {A : Around} {a : Addr} {ns : List Int} {tk : Nat}
    {Post : Flow → Shared → Prop} {E : Value → Shared → Prop} {mL : Str → Option Value}
    (hb : SB ⟨P, names, vars, D, true⟩ body fb) (hrun : fb (fun fl _ => fl = .ret (.bool true)) ⟨initLoc vars ["script"] [.lst (ns.map .int)], []⟩)
    (KX : (P.K w.params).In s₁.heap) (hg : s₁.heap.Ns mainGlobals mg) (hbn : s₁.heap.Ns builtinsNs mb) (hbt : ∀ x : Str, x ≠ "__name__" → mb x = bootBuiltins x) (nolim : s₁.heap.NoLimit)
    (hchk : ∀ q, globChk (P.K q) P.glob = true)
    (hkinds : ∀ x, env.kindOf x = names.lookup x) (hkind : env.scope.kind = .function) (hglo : env.globals = mainGlobals) (hbui : env.builtins = builtinsNs) (hloc : env.locals = s₁.heap.objs.size) (hcells : env.cells = cellsFrom (s₁.heap.objs.size + 1) names []) (hcnd : ((cellsFrom 0 names []).map (·.1)).Nodup) {cm : Str → Option Value} {news : List (Addr × Obj)} (N0 : News s₁.heap s₁.heap.objs.size h₁ news) (X0 : CellsAre cm env.cells news)
    (hnc : names.lookup ("script" : Str) = some NameKind.local) (hAe : A = callerA.deeper env) (hD : D ≤ 50)
    (F : Fr s₁.heap s₁.heap.objs.size h₁ mL) (hmL : mL "script" = some (.ref a)) (hgens : s₁.gens = #[]) (hW : Well w.params s₁.heap (.ref a) (ofPy (.list (ns.map .int))))
    (hQ : ∀ s' m, Fr s₁.heap s₁.heap.objs.size s'.heap m → s'.gens = #[] → s'.os = s₁.os → Post (.ret (.bool true)) s') :
    wpAny (model P.prog w) A (execs body env) Post E { s₁ with heap := h₁, toks := tk } := by
  have hA : A.handled = none := by rw [hAe]; rfl
  have hdep : A.depth + 2 * D < recursionLimit := by
    rw [hAe]
    show callerA.depth + 1 + 2 * D < recursionLimit
    have h1 : callerA.depth + 1 + 100 < recursionLimit := by decide
    omega
  have hun : A.units + 20 * D + 100 < cLine := by
    rw [hAe]
    show callerA.units + 3 + 20 * D + 100 < cLine
    have h1 : callerA.units + 3 + 1000 + 100 < cLine := by decide
    omega
  obtain ⟨es, he, hok⟩ : ∃ es, globAt (P.K w.params) = some es ∧ globOK es P.glob = true := by
    have := hchk w.params
    unfold globChk at this
    split at this
    · rename_i es e; exact ⟨es, e, this⟩
    · cases this
  obtain ⟨vs, hget, hall⟩ : ∃ vs : List Value, s₁.heap.get? a = some (listO vs 0) ∧ WellAll w.params s₁.heap vs (ofPys (ns.map .int)) := by
    cases hW with
    | list h1 h2 => exact ⟨_, h1, h2⟩
  let Φ : Ctx := { w := w, h₀ := s₁.heap, A := A, env := env, cw := env.cells.map (·.2), pins := [], os := s₁.os, forb := [] }
  let g : G := ⟨[(a, listO vs 0)], []⟩
  have hnone : s₁.heap.get? env.locals = none := by
    rw [hloc]
    cases q : s₁.heap.get? s₁.heap.objs.size with
    | none => rfl
    | some o => exact absurd (Heap.lt_size q) (Nat.lt_irrefl _)
  have apart := cellsFrom_apart names (s₁.heap.objs.size + 1) [] .nil (fun p hp => by cases hp)
  rw [← hcells] at apart
  have hcell : ∀ c ∈ env.cells.map (·.2), (∃ v, h₁.IsCell c v) ∧ c ≠ s₁.heap.objs.size ∧ s₁.heap.get? c = none := fun c hc => by
    obtain ⟨p, hp, rfl⟩ := List.mem_map.mp hc
    obtain ⟨o, v, hm, hd⟩ := cells_mem X0 hp
    obtain ⟨h1, h2, h3⟩ := N0 _ hm
    exact ⟨⟨v, o, h1, hd⟩, h2, h3⟩
  have ok : Ctx.Ok ⟨P, names, vars, D, true⟩ Φ := by
    refine ⟨hkinds, hkind, hglo, hbui, hA, KX, nolim, ⟨mg, mb, hg, hbn, glob_of KX he hok hg hbt⟩, hdep, fun _ x hx => ?_, ?_, fun x y c hx hy => ?_, hun⟩
    · have hs : (env.cells.lookup x).isSome = true := by rw [hcells]; exact lookup_isSome_of_mem (cellsFrom_mem _ _ _ x (.inl (lookup_mem hx)))
      obtain ⟨c, hc⟩ := Option.isSome_iff_exists.mp hs
      exact ⟨c, hc, List.mem_map.mpr ⟨(x, c), lookup_mem hc, rfl⟩⟩
    · show s₁.heap.objs.size ≤ env.locals; rw [hloc]; exact Nat.le_refl _
    · exact name_of_addr apart (lookup_mem hx) (lookup_mem hy)
  have R : Rel ⟨P, names, vars, D, true⟩ Φ g ⟨initLoc vars ["script"] [.lst (ns.map .int)], []⟩ { s₁ with heap := h₁, toks := tk } := by
    refine ⟨⟨mL, by show h₁.Ns env.locals mL; rw [hloc]; exact F.ns, fun x k v hsl hl => ?_⟩, (fun c hc => (hcell c hc).1), F.keep, fun p hp => ?_, (fun p hp => by cases hp), ⟨rfl, fun i b o e => ?_⟩, fun b hb => ?_, ?_, (fun p hp => by cases hp), fun x c hk e => ?_, hgens, rfl, (fun b hb => by cases hb)⟩
    · have hl' : lget (vars.map fun x => ([(("script" : Str), V.lst (ns.map .int))] : List (Str × V)).lookup x) k = some v := hl
      rw [lget_map (slot_get hsl)] at hl'
      rw [List.lookup_cons] at hl'
      split at hl'
      · rename_i hx
        have := beq_iff_eq.mp hx
        subst this
        cases hl'
        split
        · refine ⟨_, hmL, ?_⟩
          simp only [VR]
          exact ⟨a, vs, 0, rfl, .head _, well_ints hall g⟩
        · rename_i hc
          rw [show Φ.env.kindOf "script" = names.lookup ("script" : Str) from hkinds _, hnc] at hc; cases hc
        · trivial
      · cases hl'
    · rw [List.mem_singleton.mp hp]; exact F.keep _ _ hget
    · exact absurd e (by simp [g])
    · have hb' : b = env.locals ∨ b ∈ env.cells.map (·.2) := by simpa [Ctx.muts, Φ, g] using hb
      have hbn : s₁.heap.get? b = none := by
        rcases hb' with rfl | hb'
        · exact hnone
        · exact (hcell b hb').2.2
      refine ⟨hbn, fun p hp e => ?_, (fun p hp => by cases hp)⟩
      rw [List.mem_singleton.mp hp] at e
      rw [← (show a = b from e), hget] at hbn; cases hbn
    · show (env.locals :: (env.cells.map (·.2) ++ [])).Nodup
      rw [List.append_nil]
      exact List.nodup_cons.mpr ⟨fun hm => (hcell _ hm).2.1 hloc, List.pairwise_map.mpr apart⟩
    · exact .inl (List.mem_map.mpr ⟨(x, c), lookup_mem e, rfl⟩)
  refine wpAny_mono (hb Φ ok g _ _ _ R hrun) (fun f s' p => ?_) fun _ _ e => e.elim
  obtain ⟨g', fl, σ', le, R', rf, rfl⟩ := p
  simp only [FlR] at rf
  obtain ⟨x, rfl, rx⟩ := rf
  simp only [VR] at rx
  subst rx
  obtain ⟨m, hm, _⟩ := R'.ns
  exact hQ s' m ⟨by rw [← hloc]; exact hm, R'.keep, Nat.le_refl _⟩ R'.gens R'.os
end Mine

open PySem PySem.W PyProof.Rows PySem.Calls
set_option Elab.async false
set_option maxRecDepth 100000
set_option linter.unusedVariables false
set_option linter.unusedSimpArgs false

namespace Mine
section
variable {κ : Kap}
/-! ## chr, ord, find -/
def chrA (vs kvs : List V) : W V := fun Q σ => match vs with
  | [.int i] => 0 ≤ i ∧ i ≤ 1114111 ∧ Q (.str ⟨#[i.toNat]⟩) σ
  | _ => False
theorem cal_chr : CalOK κ (.builtin "chr") [] chrA := fun Φ ok g σ s vs xs kvs kxs Q R rv rk q => by
  unfold chrA at q
  split at q
  · simp only [VRs, VR] at rv
    obtain ⟨_, _, rfl, ⟨t, rfl⟩, rfl⟩ := rv
    exact chr_of_range q.1 q.2.1 (.here (R.tok _) (v := .str _) (by simp only [VR]; exact ⟨_, rfl⟩) q.2.2)
  · exact q.elim
def ordA (vs kvs : List V) : W V := fun Q σ => match vs with
  | [.str x] => x.length = 1 ∧ Q (.int (x.cps.getD 0 0 : Nat)) σ
  | _ => False
theorem cal_ord : CalOK κ (.builtin "ord") [] ordA := fun Φ ok g σ s vs xs kvs kxs Q R rv rk q => by
  unfold ordA at q
  split at q
  · simp only [VRs, VR] at rv
    obtain ⟨_, _, rfl, ⟨t, rfl⟩, rfl⟩ := rv
    exact ord_of_one q.1 (.here (R.tok _) (v := .int _) (by simp only [VR]; exact ⟨_, rfl⟩) q.2)
  · exact q.elim
def findA (vs kvs : List V) : W V := fun Q σ => match vs with
  | [.str x, .str y] => Q (.int (Txt.find x y)) σ
  | [.str x, .str y, .int i] => Q (.int (Txt.find3 x y i)) σ
  | _ => False
theorem cal_find : CalOK κ (.builtin "str.find") [] findA := fun Φ ok g σ s vs xs kvs kxs Q R rv rk q => by
  unfold findA at q
  split at q
  · simp only [VRs, VR] at rv
    obtain ⟨_, _, rfl, ⟨t, rfl⟩, _, _, rfl, ⟨u, rfl⟩, rfl⟩ := rv
    exact SC.find (.here (R.tok _) (v := .int _) (by simp only [VR]; exact ⟨_, rfl⟩) q)
  · simp only [VRs, VR] at rv
    obtain ⟨_, _, rfl, ⟨t, rfl⟩, _, _, rfl, ⟨u, rfl⟩, _, _, rfl, ⟨z, rfl⟩, rfl⟩ := rv
    exact SC.find3 (.here (R.tok _) (v := .int _) (by simp only [VR]; exact ⟨_, rfl⟩) q)
  · exact q.elim
end

/-! ## Texts as lists of codes -/
abbrev S (l : List Nat) : Str := ⟨l.toArray⟩
theorem str_S (x : Str) : x = S x.cps.toList := by cases x; simp
theorem S_cps (l : List Nat) : (S l).cps.toList = l := by simp
theorem S_len (l : List Nat) : (S l).length = l.length := by simp [Str.length]
theorem S_app (a b : List Nat) : S a ++ S b = S (a ++ b) := by
  have : (S a ++ S b).cps = (S (a ++ b)).cps := by rw [Str.cps_append]; simp
  exact congrArg Str.mk this
theorem S_inj {a b : List Nat} : S a = S b ↔ a = b := ⟨fun h => by
  have := congrArg (fun x : Str => x.cps.toList) h
  simpa using this, fun h => by rw [h]⟩
theorem S_beq (a b : List Nat) : (S a == S b) = decide (a = b) := by
  by_cases h : a = b
  · simp [h]
  · have : ¬ S a = S b := fun e => h (S_inj.mp e)
    simp [h, this]
theorem slice_to (l : List Nat) (k : Nat) : Txt.slice (S l) none (some (k : Int)) = S (l.take k) := by
  by_cases h : k ≤ l.length
  · have := beq_iff_eq.mp (slice_closes_toL (x := S l) (j := (k : Int)) (by omega) (by rw [S_len]; omega))
    rw [this]; simp
  · have e : Txt.slice (S l) none (some (k : Int)) = Txt.slice (S l) none (some ((S l).length : Int)) := by
      have h0 : ¬ ((k : Int) < 0) := by omega
      have h1 : ¬ (((S l).length : Int) < 0) := by omega
      have h2 : (1 : Int) > 0 := by decide
      unfold Txt.slice
      simp only [Builtin.Str.strSliceIndices, h0, h1, h2, if_false, if_true, Int.min_eq_right (show ((S l).length : Int) ≤ k by rw [S_len]; omega), Int.min_self]
    have := beq_iff_eq.mp (slice_closes_toL (x := S l) (j := ((S l).length : Int)) (by omega) (by omega))
    rw [e, this, S_len, List.take_of_length_le (show l.length ≤ k by omega)]; simp
theorem slice_from (l : List Nat) (k : Nat) : Txt.slice (S l) (some (k : Int)) none = S (l.drop k) := by
  by_cases h : k ≤ l.length
  · rw [slice_from_eq (b := (l.length : Int)) (by omega) (by rw [S_len]; omega) (by rw [S_len])]
    simp
    rw [List.take_of_length_le]
    simp
  · rw [slice_beyond (by rw [S_len]; omega), List.drop_of_length_le (by omega)]; rfl
theorem slice_mid (l : List Nat) (i j : Nat) (hij : i ≤ j) (hi : i ≤ l.length) : Txt.slice (S l) (some (i : Int)) (some (j : Int)) = S ((l.drop i).take (j - i)) := by
  by_cases h : j ≤ l.length
  · have := beq_iff_eq.mp (slice_closesL (x := S l) (i := (i : Int)) (j := (j : Int)) (by omega) (by omega) (by rw [S_len]; omega))
    rw [this]; simp
  · have e : Txt.slice (S l) (some (i : Int)) (some (j : Int)) = Txt.slice (S l) (some (i : Int)) (some ((S l).length : Int)) := by
      have h0 : ¬ ((j : Int) < 0) := by omega
      have h1 : ¬ (((S l).length : Int) < 0) := by omega
      have h2 : (1 : Int) > 0 := by decide
      unfold Txt.slice
      simp only [Builtin.Str.strSliceIndices, h0, h1, h2, if_false, if_true, Int.min_eq_right (show ((S l).length : Int) ≤ j by rw [S_len]; omega), Int.min_self]
    have := beq_iff_eq.mp (slice_closesL (x := S l) (i := (i : Int)) (j := ((S l).length : Int)) (by omega) (by rw [S_len]; omega) (by omega))
    rw [e, this]
    simp
    rw [S_len]; omega
end Mine

namespace Mine
theorem join_eq (sep : Str) (ys : List Str) : Txt.join sep ys = Str.join sep ys := beq_iff_eq.mp (join_plain_closes sep ys)
theorem join_S : ∀ ls : List (List Nat), Txt.join (S []) (ls.map S) = S ls.flatten
  | [] => by rw [join_eq]; rfl
  | l :: ls => by
    have ih := join_S ls
    rw [join_eq] at ih ⊢
    rw [List.map_cons, StrGather_join, ih, S_app, List.flatten_cons]
where StrGather_join {a : Str} {r : List Str} : Str.join (S []) (a :: r) = a ++ Str.join (S []) r := join_nil_cons a r
theorem textL_nil : textL [] = S [13, 10] := by decide +kernel
theorem textL_cons (a b : List Nat) (L : List (Str × Str)) : textL ((S a, S b) :: L) = S (a ++ [58, 32] ++ b ++ [13, 10]) ++ textL L := by
  unfold textL
  rw [List.map_cons, List.cons_append, join_eq, join_eq]
  have h : ∃ y r, List.map fmtL L ++ [⟨#[]⟩, ⟨#[]⟩] = y :: r := by
    cases L with
    | nil => exact ⟨_, _, rfl⟩
    | cons p L => exact ⟨_, _, rfl⟩
  obtain ⟨y, r, e⟩ := h
  rw [e, join_cons_cons]
  congr 1
  show S a ++ S [58, 32] ++ S b ++ S [13, 10] = _
  rw [S_app, S_app, S_app]
theorem okN_S {l : List Nat} (h1 : l.length ≤ 100000) (h : ∀ c ∈ l, 32 ≤ c ∧ c ≠ 127) : okN (S l) := ⟨by rw [S_len]; exact h1, by rw [S_cps]; exact h⟩
theorem okV_S {l : List Nat} (h1 : l.length ≤ 100000) (h : ∀ c ∈ l, (32 ≤ c ∧ c ≠ 127) ∨ c = 9) : okV (S l) := ⟨by rw [S_len]; exact h1, by rw [S_cps]; exact h⟩
theorem lower_S {l : List Nat} (h : ∀ c ∈ l, c < 128) : Txt.lower (S l) = S (l.map lo1) := by
  rw [lower_ascii (by rw [S_cps]; exact h)]; simp
theorem upper_S {l : List Nat} (h : ∀ c ∈ l, c < 128) : Txt.upper (S l) = S (l.map up1) := by
  rw [upper_ascii (by rw [S_cps]; exact h)]; simp
theorem lo1_rng {c : Nat} (h : 32 ≤ c ∧ c < 127) : 32 ≤ lo1 c ∧ lo1 c < 127 := by unfold lo1; split <;> omega
theorem up1_rng {c : Nat} (h : 32 ≤ c ∧ c < 127) : 32 ≤ up1 c ∧ up1 c < 127 := by unfold up1; split <;> omega
theorem lo1_up1 (c : Nat) : lo1 (up1 c) = lo1 c := by
  unfold lo1 up1
  split
  · split <;> split <;> omega
  · rfl
theorem okK_S {l : List Nat} (h1 : l.length ≤ 100000) (h : ∀ c ∈ l, 32 ≤ c ∧ c < 127) : okK (S l) := by
  refine ⟨okN_S h1 fun c hc => ⟨(h c hc).1, by have := (h c hc).2; omega⟩, ?_⟩
  rw [lower_S fun c hc => by have := (h c hc).2; omega]
  refine okN_S (by simpa using h1) fun c hc => ?_
  obtain ⟨d, hd, rfl⟩ := List.mem_map.mp hc
  have := lo1_rng (h d hd)
  exact ⟨this.1, by omega⟩
end Mine

open PySem PySem.W PyProof.Rows PySem.Calls
set_option Elab.async false
set_option maxRecDepth 100000
set_option linter.unusedVariables false
set_option linter.unusedSimpArgs false

namespace Mine
/-! ## Steps at the head of a precondition -/
section
variable {α β : Type} {loc loc' : List (Option V)} {objs : List O} {σ : St}
theorem bnd_i {m : W α} {k : α → W β} {Q : β → St → Prop} (h : m (fun a σ' => k a Q σ') σ) : bnd m k Q σ := h
theorem ret_i {v : α} {Q : α → St → Prop} (h : Q v σ) : ret v Q σ := h
theorem getv_i {k : Nat} {v : V} {Q : V → St → Prop} (e : lget loc k = some v) (h : Q v ⟨loc, objs⟩) : getv k Q ⟨loc, objs⟩ := by
  unfold getv; simp only [e]; exact h
theorem setv_i {k : Nat} {v : V} {Q : Unit → St → Prop} (hk : decide (k < loc.length) = true) (e : lset loc k v = loc') (h : Q () ⟨loc', objs⟩) : setv k v Q ⟨loc, objs⟩ := by
  unfold setv; exact ⟨of_decide_eq_true hk, by rw [e]; exact h⟩
theorem gdW_i {p : St → Prop} {f : W α} {Q : α → St → Prop} (hp : p σ) (h : f Q σ) : gdW p f Q σ := ⟨hp, h⟩
theorem seqF_i {f h : W Fl} {Q : Fl → St → Prop} (q : f (fun fl σ => match fl with | .next => h Q σ | fl => Q fl σ) σ) : seqF f h Q σ := q
theorem boolV_i {f : W Bool} {Q : V → St → Prop} (h : f (fun b => Q (.bool b)) σ) : boolV f Q σ := h
theorem if_t {c : Bool} {f g : W α} {Q : α → St → Prop} (hc : c = true) (h : f Q σ) : (if c = true then f else g) Q σ := by rw [if_pos hc]; exact h
theorem if_f {c : Bool} {f g : W α} {Q : α → St → Prop} (hc : c = false) (h : g Q σ) : (if c = true then f else g) Q σ := by rw [if_neg (by simp [hc])]; exact h
theorem ifp_t {c : Bool} {p q : Prop} (hc : c = true) (h : p) : if c = true then p else q := by rw [if_pos hc]; exact h
theorem ifp_f {c : Bool} {p q : Prop} (hc : c = false) (h : q) : if c = true then p else q := by rw [if_neg (by simp [hc])]; exact h
theorem if_b {c : Bool} {f g : W α} {Q : α → St → Prop} (h1 : c = true → f Q σ) (h2 : c = false → g Q σ) : (if c = true then f else g) Q σ := by
  cases c
  · exact if_f rfl (h2 rfl)
  · exact if_t rfl (h1 rfl)

/-! comparisons -/
section
variable {i j : Int} {x y : Str} {Q : Bool → St → Prop}
theorem dec_i {p : Prop} [Decidable p] {b : Bool} {R : Bool → Prop} (hb : b = decide p) (h1 : p → R true) (h2 : ¬ p → R false) : R b := by
  subst hb
  by_cases h : p
  · simp only [h, decide_true]; exact h1 h
  · simp only [h, decide_false]; exact h2 h
theorem eq_i (h1 : i = j → Q true σ) (h2 : i ≠ j → Q false σ) : cmpA .Eq (.int i) (.int j) Q σ :=
  show Q (i == j) σ from dec_i (R := fun b => Q b σ) (by by_cases h : i = j <;> simp [h]) h1 h2
theorem ne_i (h1 : i = j → Q false σ) (h2 : i ≠ j → Q true σ) : cmpA .NotEq (.int i) (.int j) Q σ :=
  show Q (!(i == j)) σ from dec_i (p := i ≠ j) (R := fun b => Q b σ) (by by_cases h : i = j <;> simp [h]) h2 (fun h => h1 (Classical.not_not.mp h))
theorem eq_s (h1 : x = y → Q true σ) (h2 : x ≠ y → Q false σ) : cmpA .Eq (.str x) (.str y) Q σ :=
  show Q (x == y) σ from dec_i (R := fun b => Q b σ) (by by_cases h : x = y <;> simp [h]) h1 h2
theorem ne_s (h1 : x = y → Q false σ) (h2 : x ≠ y → Q true σ) : cmpA .NotEq (.str x) (.str y) Q σ :=
  show Q (!(x == y)) σ from dec_i (p := x ≠ y) (R := fun b => Q b σ) (by by_cases h : x = y <;> simp [h]) h2 (fun h => h1 (Classical.not_not.mp h))
theorem lt_i (h1 : i < j → Q true σ) (h2 : ¬ i < j → Q false σ) : cmpA .Lt (.int i) (.int j) Q σ :=
  show Q (decide (i < j)) σ from dec_i (R := fun b => Q b σ) rfl h1 h2
theorem le_i (h1 : i ≤ j → Q true σ) (h2 : ¬ i ≤ j → Q false σ) : cmpA .LtE (.int i) (.int j) Q σ :=
  show Q (decide (i ≤ j)) σ from dec_i (R := fun b => Q b σ) rfl h1 h2
theorem gt_i (h1 : j < i → Q true σ) (h2 : ¬ j < i → Q false σ) : cmpA .Gt (.int i) (.int j) Q σ :=
  show Q (decide (j < i)) σ from dec_i (R := fun b => Q b σ) rfl h1 h2
theorem ge_i (h1 : j ≤ i → Q true σ) (h2 : ¬ j ≤ i → Q false σ) : cmpA .GtE (.int i) (.int j) Q σ :=
  show Q (decide (j ≤ i)) σ from dec_i (R := fun b => Q b σ) rfl h1 h2
theorem is_n {a : V} (h : Q (isN a) σ) : cmpA .Is a .none Q σ := h
theorem isnt_n {a : V} (h : Q (!isN a) σ) : cmpA .IsNot a .none Q σ := h
theorem eq_v {a b : V} (h : eqA a b Q σ) : cmpA .Eq a b Q σ := h
theorem ne_v {a b : V} (h : eqA a b (fun r => Q (!r)) σ) : cmpA .NotEq a b Q σ := h
theorem in_v {a b : V} (h : inA a b Q σ) : cmpA .In a b Q σ := h
theorem notin_v {a b : V} (h : inA a b (fun r => Q (!r)) σ) : cmpA .NotIn a b Q σ := h
theorem tr_b {b : Bool} (h : Q b σ) : truthA (.bool b) Q σ := h
theorem tr_n (h : Q false σ) : truthA .none Q σ := h
theorem tr_l {a : V} {l : List V} (hl : seqOf σ.objs a = some l) (hz : l.length ≤ sizeLine) (h1 : l = [] → Q false σ) (h2 : l ≠ [] → Q true σ) : truthA a Q σ := by
  have e : truthA a Q σ = (l.length ≤ sizeLine ∧ Q (l.length != 0) σ) := by
    cases a <;> first | (cases hl; done) | (unfold truthA; simp only [hl])
  rw [e]
  refine ⟨hz, ?_⟩
  cases l with
  | nil => exact h1 rfl
  | cons a l => exact h2 (by simp)
end

/-! operators -/
section
variable {i j : Int} {x y : Str} {Q : V → St → Prop}
theorem add_i (h : Q (.int (i + j)) σ) : binA .Add (.int i) (.int j) Q σ := h
theorem sub_i (h : Q (.int (i - j)) σ) : binA .Sub (.int i) (.int j) Q σ := h
theorem mul_i (hm : IntMulOk i j) (h : Q (.int (i * j)) σ) : binA .Mult (.int i) (.int j) Q σ := ⟨hm, h⟩
theorem div_i (hj : j ≠ 0 ∧ j.natAbs < 1000) (h : Q (.int (i.fdiv j)) σ) : binA .FloorDiv (.int i) (.int j) Q σ := ⟨hj, h⟩
theorem mod_i (hj : j ≠ 0) (h : Q (.int (i.fmod j)) σ) : binA .Mod (.int i) (.int j) Q σ := ⟨hj, h⟩
theorem add_s (hl : x.length + y.length ≤ sizeLine) (h : Q (.str (x ++ y)) σ) : binA .Add (.str x) (.str y) Q σ := ⟨hl, h⟩
theorem add_l {a b : V} {l m : List V} (ha : seqOf σ.objs a = some l) (hb : seqOf σ.objs b = some m) (hl : l.length + m.length ≤ sizeLine) (h : Q (.lst (l ++ m)) σ) : binA .Add a b Q σ := by
  have e : binA .Add a b Q σ = (l.length + m.length ≤ sizeLine ∧ Q (.lst (l ++ m)) σ) := by
    cases a <;> first | (cases ha; done) | (unfold binA; simp only [ha, hb])
  rw [e]; exact ⟨hl, h⟩
theorem neg_i (h : Q (.int (-i)) σ) : unA .USub (.int i) Q σ := h
theorem aadd_i (h : Q (.int (i + j)) σ) : augA .Add (.int i) (.int j) Q σ := h
theorem asub_i (h : Q (.int (i - j)) σ) : augA .Sub (.int i) (.int j) Q σ := h
theorem aadd_s (hl : x.length + y.length ≤ sizeLine) (h : Q (.str (x ++ y)) σ) : augA .Add (.str x) (.str y) Q σ := ⟨hl, h⟩
theorem lst_i {l : List V} (hl : l.length ≤ sizeLine) (h : Q (.lst l) σ) : lstW l Q σ := ⟨hl, h⟩
theorem lst_i' {l : List V} (h : Q (.lst l) σ) : lstW' l Q σ := h
theorem tup_i {l : List V} (hl : l.length ≤ sizeLine) (h : Q (.tup l) σ) : tupW l Q σ := ⟨hl, h⟩
theorem ref_i {l : List V} (hl : l.length ≤ sizeLine) (h : Q (.ref objs.length) ⟨loc, objs ++ [.list l]⟩) : refW l Q ⟨loc, objs⟩ := ⟨hl, h⟩
theorem fnW_i {n m : Nat} {spec : Spec} {vs kvs : List V} (h1 : vs.length = n) (h2 : kvs.length = m) (h : spec vs kvs objs fun v objs' => Q v ⟨loc, objs'⟩) : fnW n m spec vs kvs Q ⟨loc, objs⟩ := ⟨h1, h2, h⟩
theorem instW_i {C i n : Nat} {spec : Spec} {args : List V} {l : List (Str × V)} (hi : objs[i]? = some (.attrs l)) (hn : (V.inst C i :: args).length = n) (h : spec (.inst C i :: args) [] objs fun u objs' => Q u ⟨loc, objs'⟩) : instW C n spec (.inst C i) args Q ⟨loc, objs⟩ :=
  ⟨rfl, ⟨l, hi⟩, hn, h⟩
theorem newW_i {C n m : Nat} {spec : Spec} {vs kvs : List V} (h1 : vs.length + 1 = n) (h2 : kvs.length = m) (h : spec (.inst C objs.length :: vs) kvs (objs ++ [.attrs []]) fun v objs' => v = .none ∧ Q (.inst C objs.length) ⟨loc, objs'⟩) :
    newW C n m spec vs kvs Q ⟨loc, objs⟩ := ⟨h1, h2, h⟩
theorem strF_i {f : Str → Str} {kvs : List V} (hl : x.length ≤ 5592405) (h : Q (.str (f x)) σ) : strFn f [.str x] kvs Q σ := ⟨hl, h⟩
theorem len_s {kvs : List V} (hl : x.length ≤ sizeLine) (h : Q (.int x.length) σ) : lenA [.str x] kvs Q σ := ⟨hl, h⟩
theorem len_l {a : V} {l kvs : List V} (ha : seqOf σ.objs a = some l) (hl : l.length ≤ sizeLine) (h : Q (.int l.length) σ) : lenA [a] kvs Q σ := by
  have e : lenA [a] kvs Q σ = (l.length ≤ sizeLine ∧ Q (.int l.length) σ) := by
    cases a <;> first | (cases ha; done) | (unfold lenA; simp only [ha])
  rw [e]; exact ⟨hl, h⟩
theorem sub_s {k : Int} (hk : -(2 ^ 62) ≤ k ∧ k < 2 ^ 62) (hc : (Txt.charAt x k).isSome = true) (h : Q (.str (Txt.item x k)) σ) : subA (.str x) (.int k) Q σ := ⟨hk.1, hk.2, hc, h⟩
theorem sub_t {l : List V} {u : V} {k : Int} (hk : -(2 ^ 62) ≤ k ∧ k < 2 ^ 62) (hu : idxL l k = some u) (h : Q u σ) : subA (.tup l) (.int k) Q σ := by
  unfold subA; simp only [hu]; exact ⟨hk.1, hk.2, h⟩
theorem sub_l {a : V} {l : List V} {u : V} {k : Int} (ha : seqOf σ.objs a = some l) (hk : -(2 ^ 62) ≤ k ∧ k < 2 ^ 62) (hu : idxL l k = some u) (h : Q u σ) : subA a (.int k) Q σ := by
  have e : subA a (.int k) Q σ = (-(2 ^ 62) ≤ k ∧ k < 2 ^ 62 ∧ Q u σ) := by
    cases a <;> first | (cases ha; done) | (unfold subA; simp only [ha, hu])
  rw [e]; exact ⟨hk.1, hk.2, h⟩
theorem slc_s {t : Bool} {lo hi : Option Int} (hl : x.length ≤ sizeLine) (h : Q (.str (Txt.slice x lo hi)) σ) : sliceA t lo hi (.str x) Q σ := ⟨hl, h⟩
theorem slc_l {a : V} {l l' : List V} {lo hi : Option Int} (ha : seqOf σ.objs a = some l) (hl : l.length ≤ sizeLine) (hc : cutL l lo hi = some l') (h : Q (.lst l') σ) : sliceA false lo hi a Q σ := by
  have e : sliceA false lo hi a Q σ = (l.length ≤ sizeLine ∧ Q (.lst l') σ) := by
    cases a <;> first | (cases ha; done) | (unfold sliceA; simp only [ha, hc]; simp)
  rw [e]; exact ⟨hl, h⟩
theorem app_i {i : Nat} {v : V} {l kvs : List V} (hl : lstAt objs i = some l) (hz : l.length ≤ sizeLine) (h : Q .none ⟨loc, objs.set i (.list (l ++ [v]))⟩) : appendA [.ref i, v] kvs Q ⟨loc, objs⟩ := by
  unfold appendA; simp only [hl]; exact ⟨hz, h⟩
theorem str_i {kvs : List V} (hi : i.natAbs < 2 ^ 1000) (h : Q (.str (intS i)) σ) : strA [.int i] kvs Q σ := ⟨hi, h⟩
theorem chr_i {kvs : List V} (h0 : 0 ≤ i) (h1 : i ≤ 1114111) (h : Q (.str ⟨#[i.toNat]⟩) σ) : chrA [.int i] kvs Q σ := ⟨h0, h1, h⟩
theorem ord_i {kvs : List V} (h0 : x.length = 1) (h : Q (.int (x.cps.getD 0 0 : Nat)) σ) : ordA [.str x] kvs Q σ := ⟨h0, h⟩
theorem lenI_i {C i n : Nat} {spec : Spec} {kvs : List V} {l : List (Str × V)} (hi : objs[i]? = some (.attrs l)) (hn : 1 = n) (h : spec [.inst C i] [] objs fun u objs' => ∃ k : Int, u = .int k ∧ 0 ≤ k ∧ k < 2 ^ 62 ∧ Q (.int k) ⟨loc, objs'⟩) : lenInstW C n spec [.inst C i] kvs Q ⟨loc, objs⟩ :=
  ⟨rfl, ⟨l, hi⟩, hn, h⟩
theorem strI_i {C i n : Nat} {spec : Spec} {kvs : List V} {l : List (Str × V)} (hi : objs[i]? = some (.attrs l)) (hn : 1 = n) (h : spec [.inst C i] [] objs fun u objs' => ∃ z : Str, u = .str z ∧ Q (.str z) ⟨loc, objs'⟩) : strInstW C n spec [.inst C i] kvs Q ⟨loc, objs⟩ :=
  ⟨rfl, ⟨l, hi⟩, hn, h⟩
theorem join_i {v : V} {kvs l : List V} {ys : List Str} (hv : seqOf σ.objs v = some l) (hs : strsOf l = some ys) (hl : (ys.map (·.length)).sum + ys.length * x.length ≤ 16777216) (h : Q (.str (Txt.join x ys)) σ) : joinA [.str x, v] kvs Q σ := by
  unfold joinA; simp only [hv, Option.bind_some, hs]; exact ⟨hl, h⟩
theorem listF_i {v : V} {l kvs : List V} (hv : seqOf σ.objs v = some l) (hl : l.length ≤ sizeLine) (h : Q (.lst l) σ) : listA false [v] kvs Q σ := by
  unfold listA; simp only [hv]; exact ⟨hl, h⟩
theorem listT_i {v : V} {l kvs : List V} (hv : seqOf objs v = some l) (hl : l.length ≤ sizeLine) (h : Q (.ref objs.length) ⟨loc, objs ++ [.list l]⟩) : listA true [v] kvs Q ⟨loc, objs⟩ := by
  unfold listA; simp only [hv]; exact ⟨hl, h⟩
end
section
variable {Q : List V × (List O → Prop) → St → Prop} {i j : Int}
theorem rng1_i (h1 : -(2 ^ 62) ≤ i) (h2 : i < 2 ^ 62) (h : Q (rangeV 0 i, fun _ => True) σ) : rangeW [.int i] Q σ := ⟨h1, h2, h⟩
theorem rng2_i (h1 : -(2 ^ 61) ≤ i ∧ i < 2 ^ 61) (h2 : -(2 ^ 61) ≤ j ∧ j < 2 ^ 61) (h : Q (rangeV i j, fun _ => True) σ) : rangeW [.int i, .int j] Q σ := ⟨h1, h2, h⟩
theorem itm_s {x : Str} (h : Q (signsV x, fun _ => True) σ) : itemsW (.str x) Q σ := h
theorem itm_t {l : List V} (h : Q (l, fun _ => True) σ) : itemsW (.tup l) Q σ := h
theorem itm_l {a : V} {l : List V} (ha : seqOf σ.objs a = some l) (h : Q (l, fun os => seqOf os a = some l) σ) : itemsW a Q σ := by
  have e : itemsW a Q σ = Q (l, fun os => seqOf os a = some l) σ := by
    cases a <;> first | (cases ha; done) | (unfold itemsW; simp only [ha])
  rw [e]; exact h
theorem enm_l {a : V} {l : List V} (ha : seqOf σ.objs a = some l) (h : Q (enumV 0 l, fun os => seqOf os a = some l) σ) : enumW [a] Q σ := by
  unfold enumW; simp only [ha]; exact h
end
theorem int_i {i : Int} {Q : Option Int → St → Prop} (h : Q (some i) σ) : intW (.int i) Q σ := h
theorem comp_i {fi : W (List V × (List O → Prop))} {caps : List (Option Nat)} {tgt : V → W Unit} {ts : W Bool} {el : W V} {Q : List V → St → Prop}
    (h : fi (fun p σ₁ => p.1.length ≤ sizeLine ∧ compL p.2 tgt ts el p.1 [] (fun out σ₂ => Q out ⟨σ₁.loc, σ₂.objs⟩) ⟨caps.map fun o => o.bind (lget σ₁.loc), σ₁.objs⟩) σ) : compW fi caps tgt ts el Q σ := h
theorem tup_tgt {n : Nat} {h : List V → W Unit} {l : List V} {Q : Unit → St → Prop} (hn : l.length = n) (q : h l Q σ) : tupT n h (.tup l) Q σ := ⟨hn, q⟩
theorem tgts_i {f : V → W Unit} {h : List V → W Unit} {v : V} {vs : List V} {Q : Unit → St → Prop} (q : f v (fun _ σ' => h vs Q σ') σ) : tgts f h (v :: vs) Q σ := q
theorem tgtN_i {Q : Unit → St → Prop} (q : Q () σ) : tgtN [] Q σ := q
end

theorem veqs_flat : ∀ (l : List V), (∀ v ∈ l, (∃ x, v = .str x) ∨ v = .none) → veqs l l = some true
  | [], _ => rfl
  | v :: l, h => by
    have hv : veq v v = some true := by
      rcases h v (.head _) with ⟨x, rfl⟩ | rfl
      · simp [veq]
      · rfl
    simp only [veqs, hv, veqs_flat l fun u hu => h u (.tail _ hu), Bool.and_self]
theorem eqA_flat {l : List V} {σ : St} {Q : Bool → St → Prop} (h : ∀ v ∈ l, (∃ x, v = .str x) ∨ v = .none) (q : Q true σ) : eqA (.lst l) (.lst l) Q σ := by
  have e : nrm σ.objs 8 (.lst l) = some (.lst l) := nrm_lst fun v hv => by
    rcases h v hv with ⟨x, rfl⟩ | rfl <;> rfl
  unfold eqA
  simp only [e, veq, veqs_flat l h]
  exact q
/-- a loop over a list of things -/
theorem forL_over {α : Type} (emb : α → V) {chk : St → Prop} {tgt : V → W Unit} {body : W Fl} {Q : Fl → St → Prop} (I : List α → List α → St → Prop) (hchk : ∀ d l σ, I d l σ → chk σ)
    (hstep : ∀ d a l σ (K : Fl → St → Prop), I d (a :: l) σ → (∀ σ₂, I (d ++ [a]) l σ₂ → K .next σ₂) → (∀ σ₂, I (d ++ [a]) l σ₂ → K .cont σ₂) → (∀ σ₂, Q .next σ₂ → K .brk σ₂) → (∀ u σ₂, Q (.ret u) σ₂ → K (.ret u) σ₂) → tgt (emb a) (fun _ σ₁ => body K σ₁) σ)
    (hend : ∀ d σ, I d [] σ → Q .next σ) : ∀ (l d : List α) (σ : St), I d l σ → forL chk tgt body (l.map emb) Q σ
  | [], d, σ, h => ⟨hchk _ _ σ h, hend d σ h⟩
  | a :: l, d, σ, h => ⟨hchk _ _ σ h, hstep d a l σ _ h (fun σ₂ h₂ => forL_over emb I hchk hstep hend l _ σ₂ h₂) (fun σ₂ h₂ => forL_over emb I hchk hstep hend l _ σ₂ h₂) (fun _ h₂ => h₂) (fun _ _ h₂ => h₂)⟩
/-- a loop over a range from 0 -/
theorem rangeV_nat (n : Nat) : rangeV 0 (n : Int) = (List.range n).map fun i : Nat => V.int (i : Int) := by simp [rangeV]
theorem forL_range {chk : St → Prop} {tgt : V → W Unit} {body : W Fl} {Q : Fl → St → Prop} (I : Nat → St → Prop) (n : Nat) (hchk : ∀ k σ, I k σ → chk σ)
    (hstep : ∀ k σ (K : Fl → St → Prop), k < n → I k σ → (∀ σ₂, I (k + 1) σ₂ → K .next σ₂) → (∀ σ₂, I (k + 1) σ₂ → K .cont σ₂) → (∀ σ₂, Q .next σ₂ → K .brk σ₂) → (∀ u σ₂, Q (.ret u) σ₂ → K (.ret u) σ₂) → tgt (.int (k : Int)) (fun _ σ₁ => body K σ₁) σ)
    (hend : ∀ σ, I n σ → Q .next σ) {σ : St} (h : I 0 σ) : forL chk tgt body (rangeV 0 (n : Int)) Q σ := by
  rw [rangeV_nat]
  refine forL_over (fun i : Nat => V.int (i : Int)) (fun d l σ => d ++ l = List.range n ∧ I d.length σ) (fun d l σ h => hchk _ _ h.2) (fun d a l σ K h hn hc hb hr => ?_) (fun d σ h => ?_) _ [] σ ⟨rfl, h⟩
  · obtain ⟨hd, hI⟩ := h
    have hlen : d.length < n := by
      have := congrArg List.length hd
      simp at this; omega
    have ha : a = d.length := by
      have h1 : (d ++ a :: l)[d.length]? = some a := by simp
      rw [hd, List.getElem?_range hlen] at h1
      exact (Option.some.inj h1).symm
    subst ha
    exact hstep _ _ _ hlen hI (fun σ₂ h₂ => hn σ₂ ⟨by simpa using hd, by simpa using h₂⟩) (fun σ₂ h₂ => hc σ₂ ⟨by simpa using hd, by simpa using h₂⟩) hb hr
  · obtain ⟨hd, hI⟩ := h
    have : d.length = n := by
      have := congrArg List.length hd
      simpa using this
    rw [this] at hI; exact hend σ hI
end Mine

open PySem PySem.W PyProof.Rows PySem.Calls
set_option Elab.async false
set_option maxRecDepth 100000
set_option linter.unusedVariables false
set_option linter.unusedSimpArgs false

namespace Mine
/-! ## find -/
open PySem.Builtin.Str in
theorem subAt_S (T y : List Nat) (i : Nat) : subAt (S T) (S y) i = true ↔ (T.drop i).take y.length = y := by
  unfold subAt
  rw [beq_iff_eq, ← Array.toList_inj, S_len]
  simp [List.extract_eq_take_drop]
open PySem.Builtin.Str PySem.StrLaws in
theorem occ_at {T y : List Nat} {lo k : Nat} (hk : lo ≤ k) (hA : (T.drop k).take y.length = y) (hle : k + y.length ≤ T.length) (hno : ∀ j, lo ≤ j → j < k → (T.drop j).take y.length ≠ y) : ∃ r, occurrences (S T) (S y) lo (S T).length 1 = k :: r := by
  have at_iff : ∀ i, At (S T) (S y) (S T).length i ↔ i + y.length ≤ T.length ∧ (T.drop i).take y.length = y := fun i => by
    unfold At; rw [S_len, S_len, subAt_S]
  rcases occ_head_from (S T) (S y) lo 1 (Nat.le_refl 1) with ⟨_, hn⟩ | ⟨i, r, h0, hlo, hi, hn⟩
  · exact absurd ((at_iff k).mpr ⟨hle, hA⟩) (hn k hk)
  · have h1 := (at_iff i).mp hi
    have : i = k := by
      rcases Nat.lt_trichotomy i k with h | h | h
      · exact absurd h1.2 (hno i hlo h)
      · exact h
      · exact absurd ((at_iff k).mpr ⟨hle, hA⟩) (hn k hk h)
    subst this
    exact ⟨r, h0⟩
theorem no_before {T w y : List Nat} {c : Nat} {lo : Nat} {r : List Nat} (hT : T.drop lo = w ++ r) (hc : c ∉ w) (hy : y.head? = some c) : ∀ j, lo ≤ j → j < lo + w.length → (T.drop j).take y.length ≠ y := by
  intro j h1 h2 e
  cases y with
  | nil => cases hy
  | cons d y =>
    simp at hy
    subst hy
    have hd : T.drop j = (w ++ r).drop (j - lo) := by rw [← hT, List.drop_drop]; congr 1; omega
    rw [hd, List.drop_append_of_le_length (by omega)] at e
    have hlt : j - lo < w.length := by omega
    rw [List.drop_eq_getElem_cons hlt, List.cons_append, List.length_cons, List.take_succ_cons] at e
    exact hc ((List.cons.inj e).1 ▸ List.getElem_mem hlt)
/-- the first y behind w -/
theorem find3_S {T w y r : List Nat} {c lo : Nat} (hT : T.drop lo = w ++ (y ++ r)) (hlo : lo ≤ T.length) (hc : c ∉ w) (hy : y.head? = some c) : Txt.find3 (S T) (S y) (lo : Int) = ((lo + w.length : Nat) : Int) := by
  have hlen : T.length = lo + (w.length + (y.length + r.length)) := by
    have := congrArg List.length hT
    simp at this; omega
  have hA : (T.drop (lo + w.length)).take y.length = y := by
    rw [← List.drop_drop, hT]; simp
  obtain ⟨q, e⟩ := occ_at (T := T) (y := y) (lo := lo) (k := lo + w.length) (by omega) hA (by omega) (no_before hT hc hy)
  have hf : fromIndex (S T).length (lo : Int) = lo := by
    unfold fromIndex
    rw [if_neg (by omega)]; omega
  unfold Txt.find3
  rw [hf, e]
theorem find_S {w y r : List Nat} {c : Nat} (hc : c ∉ w) (hy : y.head? = some c) : Txt.find (S (w ++ (y ++ r))) (S y) = (w.length : Int) := by
  have hA : ((w ++ (y ++ r)).drop (0 + w.length)).take y.length = y := by simp
  obtain ⟨q, e⟩ := occ_at (T := w ++ (y ++ r)) (y := y) (lo := 0) (k := 0 + w.length) (by omega) hA (by simp) (no_before (lo := 0) (w := w) (r := y ++ r) (by simp) hc hy)
  unfold Txt.find
  rw [e]; simp
theorem find_i {x y : Str} {kvs : List V} {Q : V → St → Prop} {σ : St} (h : Q (.int (Txt.find x y)) σ) : findA [.str x, .str y] kvs Q σ := h
theorem find3_i {x y : Str} {i : Int} {kvs : List V} {Q : V → St → Prop} {σ : St} (h : Q (.int (Txt.find3 x y i)) σ) : findA [.str x, .str y, .int i] kvs Q σ := h
/-- xs[i] = v in a list that is tracked -/
theorem setI_i {j m : Nat} {k : Int} {u : V} {l : List V} {loc : List (Option V)} {objs : List O} {Q : Unit → St → Prop} (hk : -(2 ^ 62) ≤ k ∧ k < 2 ^ 62) (hl : lstAt objs j = some l) (hm : idxN k l.length = some m) (h : Q () ⟨loc, objs.set j (.list (l.set m u))⟩) : setIdxA (.ref j) (.int k) u Q ⟨loc, objs⟩ := by
  unfold setIdxA; simp only [hl, hm]; exact ⟨hk, h⟩
theorem idx_last {l : List V} {v : V} : idxL (l ++ [v]) (-1) = some v := by
  unfold idxL
  rw [if_neg (by decide), if_pos (by simp; omega)]
  have : ((-1 : Int) + (l ++ [v]).length).toNat = l.length := by simp; omega
  rw [this]; simp
theorem idxN_last {n : Nat} : idxN (-1) (n + 1) = some n := by
  unfold idxN
  rw [if_neg (by decide), if_pos (by omega)]
  congr 1; omega
end Mine

open PySem PySem.W PyProof.Rows PySem.Calls
set_option Elab.async false
set_option maxRecDepth 100000
set_option linter.unusedVariables false
set_option linter.unusedSimpArgs false

namespace Mine
/-! ## min of two, list.index, rows of ints -/
theorem ints_are {g : G} : ∀ {ns : List Int} {xs : List Value}, VRs g (ns.map V.int) xs → IntsAre xs ns
  | [], xs, h => by simp only [List.map_nil, VRs] at h; subst h; exact .nil
  | n :: ns, xs, h => by
    simp only [List.map_cons, VRs, VR] at h
    obtain ⟨y, ys, rfl, ⟨t, rfl⟩, h⟩ := h
    exact .cons n t (ints_are h)
theorem lay_ints {ns : List Int} (hl : ns.length ≤ 10000) (hb : ∀ n ∈ ns, n.natAbs < 2 ^ 64) : PyData.layable0 (.list (ns.map .int)) = true := by
  have key : ∀ ns : List Int, (∀ n ∈ ns, n.natAbs < 2 ^ 64) → PyData.canLayAll0 (ns.map .int) = true ∧ PyData.depthAll (ns.map .int) = 0 ∧ PyData.weightAll (ns.map .int) ≤ 66 * ns.length := by
    intro ns
    induction ns with
    | nil => intro _; exact ⟨rfl, rfl, Nat.le_refl _⟩
    | cons n ns ih =>
      intro h
      obtain ⟨h1, h2, h3⟩ := ih fun m hm => h m (.tail _ hm)
      have hn := h n (.head _)
      refine ⟨?_, ?_, ?_⟩
      · simp only [List.map_cons, PyData.canLayAll0, PyData.canLay0, h1, Bool.and_self]
      · simp only [List.map_cons, PyData.depthAll, PyData.depth, h2, Nat.max_self]
      · simp only [List.map_cons, PyData.weightAll, PyData.weight, List.length_cons]
        have : (if n == 0 then 0 else n.natAbs.log2 + 1) ≤ 64 := by
          split
          · omega
          · rename_i h0
            have : n.natAbs ≠ 0 := by simpa using h0
            have := (Nat.log2_lt this).mpr hn
            omega
        omega
  obtain ⟨h1, h2, h3⟩ := key ns hb
  have w1 : PyData.canLay0 (.list (ns.map .int)) = true := by simpa [PyData.canLay0] using h1
  have w2 : PyData.depth (.list (ns.map .int)) ≤ 64 := by simp [PyData.depth, h2]
  have w3 : PyData.weight (.list (ns.map .int)) ≤ 2 ^ 20 := by
    have e : (2 : Nat) ^ 20 = 1048576 := by decide
    rw [e]
    have : PyData.weight (.list (ns.map .int)) = PyData.weightAll (ns.map .int) := by simp [PyData.weight]
    omega
  unfold PyData.layable0
  rw [w1, decide_eq_true w2, decide_eq_true w3]; rfl
section
variable {κ : Kap}
def minA (vs kvs : List V) : W V := fun Q σ => match vs with
  | [.int a, .int b] => Q (.int (if b < a then b else a)) σ
  | _ => False
theorem cal_min : CalOK κ (.builtin "min") [] minA := fun Φ ok g σ s vs xs kvs kxs Q R rv rk q => by
  unfold minA at q
  split at q
  · rename_i a b
    simp only [VRs, VR] at rv
    obtain ⟨y, ys, rfl, ⟨t, rfl⟩, z, zs, rfl, ⟨u, rfl⟩, rfl⟩ := rv
    obtain ⟨m, news, F, N, back⟩ := R.ledger ok.above
    refine min_two_N ok.handled F N fun h' tk F' N' => ⟨g, _, σ, .refl g, back h' tk F' N', ?_, q⟩
    simp only [VR]
    exact ⟨_, rfl⟩
  · exact q.elim
def indexA (vs kvs : List V) : W V := fun Q σ => match vs with
  | [v, .int k] => ∃ ns : List Int, seqOf σ.objs v = some (ns.map .int) ∧ ns.length ≤ 10000 ∧ (∀ n ∈ ns, n.natAbs < 2 ^ 64) ∧ k ∈ ns ∧ Q (.int (ns.idxOf k : Nat)) σ
  | _ => False
theorem cal_index : CalOK κ (.builtin "list.index") [] indexA := fun Φ ok g σ s vs xs kvs kxs Q R rv rk q => by
  unfold indexA at q
  split at q
  · rename_i v k
    obtain ⟨ns, hv, hl, hb, hk, q⟩ := q
    simp only [VRs] at rv
    obtain ⟨y, ys, rfl, ry, z, zs, rfl, rz, rfl⟩ := rv
    simp only [VR] at rz
    obtain ⟨t, rfl⟩ := rz
    obtain ⟨a, xs, n, rfl, h1, h2⟩ := R.seq_at ry hv
    refine index_list_ints (isList_of h1) (ints_are h2) (lay_ints hl hb) hk ⟨g, _, σ, .refl g, R.tok _, ?_, q⟩
    simp only [VR]
    exact ⟨_, rfl⟩
  · exact q.elim
end
theorem min_i {a b : Int} {kvs : List V} {Q : V → St → Prop} {σ : St} (h : Q (.int (if b < a then b else a)) σ) : minA [.int a, .int b] kvs Q σ := h
theorem index_i {v : V} {k : Int} {ns : List Int} {kvs : List V} {Q : V → St → Prop} {σ : St} (hv : seqOf σ.objs v = some (ns.map .int)) (hl : ns.length ≤ 10000) (hb : ∀ n ∈ ns, n.natAbs < 2 ^ 64) (hk : k ∈ ns) (h : Q (.int (ns.idxOf k : Nat)) σ) : indexA [v, .int k] kvs Q σ := ⟨ns, hv, hl, hb, hk, h⟩
theorem inA_ints {σ : St} {x : Int} {b : V} {l : List Int} {Q : Bool → St → Prop} (hb : seqOf σ.objs b = some (l.map .int)) (h1 : x ∈ l → Q true σ) (h2 : x ∉ l → Q false σ) : inA (.int x) b Q σ := by
  unfold inA
  rw [hb]
  have hm := memA_map (objs := σ.objs) (f := V.int) (a := .int x) (p := fun y => y == x) (fun _ => rfl) (fun y => by simp [veq]) l
  simp only [nrm, hm]
  by_cases h : x ∈ l
  · have : l.any (fun y => y == x) = true := List.any_eq_true.mpr ⟨x, h, by simp⟩
    rw [this]; exact h1 h
  · have : l.any (fun y => y == x) = false := by
      rw [Bool.eq_false_iff]; intro h'
      obtain ⟨a, ha, e⟩ := List.any_eq_true.mp h'
      rw [beq_iff_eq] at e; subst e; exact h ha
    rw [this]; exact h2 h
theorem eqA_int2 {a b c d : Int} {σ : St} {Q : Bool → St → Prop} (q : Q (decide (a = c ∧ b = d)) σ) : eqA (.tup [.int a, .int b]) (.tup [.int c, .int d]) Q σ := by
  have n : ∀ x y : Int, nrm σ.objs 8 (.tup [.int x, .int y]) = some (.tup [.int x, .int y]) := fun x y => rfl
  have e : veq (.tup [.int a, .int b]) (.tup [.int c, .int d]) = some (decide (a = c ∧ b = d)) := by
    simp only [veq, veqs]
    by_cases h1 : a = c <;> by_cases h2 : b = d <;> simp [h1, h2]
  unfold eqA
  simp only [n, e]
  exact q
end Mine

open PySem PySem.W PyProof.Rows PySem.Calls
set_option Elab.async false
set_option maxRecDepth 100000
set_option linter.unusedVariables false
set_option linter.unusedSimpArgs false

namespace Mine
section
variable {κ : Kap}
/-! ## sum -/
def sumA (vs kvs : List V) : W V := fun Q σ => match vs with
  | [v] => ∃ ns : List Int, seqOf σ.objs v = some (ns.map .int) ∧ Q (.int ns.sum) σ
  | _ => False
theorem cal_sum : CalOK κ (.builtin "sum") [] sumA := fun Φ ok g σ s vs xs kvs kxs Q R rv rk q => by
  unfold sumA at q
  split at q
  · rename_i v
    obtain ⟨ns, hv, q⟩ := q
    simp only [VRs] at rv
    obtain ⟨y, ys, rfl, ry, rfl⟩ := rv
    obtain ⟨a, xs, n, rfl, h1, h2⟩ := R.seq_at ry hv
    have hi := ints_are h2
    obtain ⟨its, hits⟩ := hi.allInts.items
    have hl := isList_of h1
    have hn : (numsOf (intItems its).toList).sum = ns.sum := by rw [← hits, show xs.toArray.toList = xs from rfl, hi.numsOf]
    rw [nums_intItems] at hn
    rw [hits] at hl
    refine sum_intListG ok.handled hl fun h' tk t' hk => ⟨g, .int ns.sum, σ, .refl g, R.keeps hk, ?_, q⟩
    simp only [VR]
    refine ⟨t', ?_⟩
    rw [preSum_eq, List.take_of_length_le (by simp), hn]
  · exact q.elim
/-! ## text * int, list * int -/
def mulS (a b : V) : W V := fun Q σ => match a, b with
  | .str x, .int n => MulOk x n ∧ Q (.str (Txt.mul x n)) σ
  | _, _ => False
theorem r_MulS {l r : Expr} {pos : Pos} {f h : W V} (hl : SE κ l f) (hr : SE κ r h) : SE κ (.BinOp l .Mult r pos) (bnd f fun a => bnd h fun b => mulS a b) := fun Φ ok g σ s Q R q => by
  refine wpAny_BinOp (wpAny_mono (hl Φ ok g σ s _ R q) (fun x s₁ p => ?_) fun _ _ e => e)
  obtain ⟨g₁, a, σ₁, le₁, R₁, ra, q₁⟩ := p
  refine wpAny_mono (hr Φ ok g₁ σ₁ s₁ _ R₁ q₁) (fun y s₂ p => ?_) fun _ _ e => e
  obtain ⟨g₂, b, σ₂, le₂, R₂, rb, q₂⟩ := p
  refine wPE (le₁.trans le₂) ?_
  have q₂ : mulS a b Q σ₂ := q₂
  unfold mulS at q₂
  split at q₂
  · simp only [VR] at ra rb
    obtain ⟨t, rfl⟩ := ra
    obtain ⟨u, rfl⟩ := rb
    exact SB.mul q₂.1 fun t' k => ⟨g₂, .str _, σ₂, .refl g₂, R₂.tok _, by simp only [VR]; exact ⟨_, rfl⟩, q₂.2⟩
  · exact q₂.elim
def mulL (a b : V) : W V := fun Q σ => match b with
  | .int n => (match seqOf σ.objs a with
    | some l => 0 ≤ n ∧ l.length * n.toNat ≤ 256 ∧ n < 1000 ∧ Q (.lst (List.replicate n.toNat l).flatten) σ
    | none => False)
  | _ => False
theorem vrs_flat {g : G} {l : List V} {xs : List Value} (h : VRs g l xs) : ∀ n, VRs g (List.replicate n l).flatten (List.replicate n xs).flatten
  | 0 => .nil
  | n + 1 => by rw [List.replicate_succ, List.replicate_succ, List.flatten_cons, List.flatten_cons]; exact h.append (vrs_flat h n)
theorem r_MulL {l r : Expr} {pos : Pos} {f h : W V} (hl : SE κ l f) (hr : SE κ r h) : SE κ (.BinOp l .Mult r pos) (bnd f fun a => bnd h fun b => mulL a b) := fun Φ ok g σ s Q R q => by
  refine wpAny_BinOp (wpAny_mono (hl Φ ok g σ s _ R q) (fun x s₁ p => ?_) fun _ _ e => e)
  obtain ⟨g₁, a, σ₁, le₁, R₁, ra, q₁⟩ := p
  refine wpAny_mono (hr Φ ok g₁ σ₁ s₁ _ R₁ q₁) (fun y s₂ p => ?_) fun _ _ e => e
  obtain ⟨g₂, b, σ₂, le₂, R₂, rb, q₂⟩ := p
  refine wPE (le₁.trans le₂) ?_
  have ra := VR.mono le₂ a ra
  have q₂ : mulL a b Q σ₂ := q₂
  unfold mulL at q₂
  split at q₂
  · rename_i n _
    split at q₂
    · rename_i l hl
      obtain ⟨h0, hsz, hn, q₂⟩ := q₂
      simp only [VR] at rb
      obtain ⟨u, rfl⟩ := rb
      obtain ⟨a1, xs, k, rfl, h1, h2⟩ := R₂.seq_at ra hl
      obtain ⟨mm, news, F, N, back, kn⟩ := R₂.ledgerK ok.above
      refine KMa.mul F N (isList_of h1) (by omega) (by omega) (by rw [h2.length]; exact hsz) rfl fun D h' F' N' hlt => ?_
      have R' := back h' s₂.toks F' (ntail N')
      have hD := N' _ (.head _)
      have hnk : ¬ Known Φ g₂ D := fun kb => by
        rcases kn D kb with e | e | ⟨o, e⟩
        · exact hD.2.1 e
        · rw [hD.2.2] at e; cases e
        · exact absurd (hlt _ e) (Nat.lt_irrefl _)
      obtain ⟨R3, le3⟩ := R'.freeze (o := listO (List.replicate n.toNat xs).flatten 0) hD.1 hnk
      refine ⟨_, .lst _, σ₂, le3, R3, ?_, q₂⟩
      simp only [VR]
      exact ⟨D, _, 0, rfl, .head _, VRs.mono le3 _ (vrs_flat h2 _)⟩
    · exact q₂.elim
  · exact q₂.elim
/-! ## xs.reverse() -/
theorem vrs_rev {g : G} : ∀ {l : List V} {xs : List Value}, VRs g l xs → VRs g l.reverse xs.reverse
  | [], _, h => by simp only [VRs] at h; subst h; exact .nil
  | v :: vs, _, h => by
    simp only [VRs] at h
    obtain ⟨y, ys, rfl, a, b⟩ := h
    rw [List.reverse_cons, List.reverse_cons]
    exact (vrs_rev b).append (.one a)
def reverseA (vs kvs : List V) : W V := fun Q σ => match vs with
  | [.ref i] => (match lstAt σ.objs i with
    | some l => l.length ≤ sizeLine ∧ Q .none { σ with objs := σ.objs.set i (.list l.reverse) }
    | none => False)
  | _ => False
theorem cal_reverse : CalOK κ (.builtin "list.reverse") [] reverseA := fun Φ ok g σ s vs xs kvs kxs Q R rv rk q => by
  unfold reverseA at q
  split at q
  · rename_i i
    split at q
    · rename_i l hl
      obtain ⟨hz, q⟩ := q
      simp only [VRs] at rv
      obtain ⟨x, _, rfl, ri, rfl⟩ := rv
      obtain ⟨a, xs, n, rfl, hi, h1, h2⟩ := R.ref_at ri hl
      have hlen := h2.length
      refine call_meets F.slot_list_reverse (isList_of h1).typeIs F.entry_list_reverse (F.args_list_reverse_1 _) (AutoSeq1.list_reverse_list_0 a xs.toArray n (by simp [hlen]; exact hz)) ⟨h1, ?_⟩
      obtain ⟨n', e⟩ := mapSeq_listO (fun zs => zs.reverse) xs xs.reverse n (by simp)
      have h3 := Heap.get?_update_self (h := s.heap) (Obj.mapSeq fun zs => zs.reverse) h1 (by rw [e]; rfl)
      rw [e] at h3
      have R' := R.turn (o := .list l.reverse) (tk := s.toks) hi h3 ⟨xs.reverse, _, rfl, vrs_rev h2⟩ fun b o hb e => (Heap.get?_update_other _ _ (Ne.symm hb)).trans e
      exact ⟨g, .none, _, .refl g, R', by simp only [VR], q⟩
    · exact q.elim
  · exact q.elim
/-! ## xs[i] += v -/
def subL (v i : V) : W V := fun Q σ => match v, i with
  | .ref j, .int k => (-(2 ^ 62) ≤ k ∧ k < 2 ^ 62) ∧ (match lstAt σ.objs j with
    | some l => (match idxL l k with
      | some u => Q u σ
      | none => False)
    | none => False)
  | _, _ => False
theorem s_AugSub {o i value : Expr} {tpos pos : Pos} {op : Operator} {fo fi fv : W V} (ho : SE κ o fo) (hi : SE κ i fi) (hv : SE κ value fv)
    (hst : ∀ ov iv new, augStore i ov iv new = (do holding [new, ov, iv] (setItem ov iv new); release [new, ov, iv] []; pure .next) := by intros; rfl) :
    SS κ (.AugAssign (.Subscript o i tpos) op value pos) (bnd fo fun v => bnd fi fun k => bnd (subL v k) fun a => bnd fv fun b => bnd (augA op a b) fun u => bnd (setIdxA v k u) fun _ => ret .next) := fun Φ ok g σ s Q R q => by
  refine wpAny_AugAssign_SubscriptAny (wpAny_mono (ho Φ ok g σ s _ R q) (fun x s₁ p => ?_) fun _ _ e => e.elim) hst
  obtain ⟨g₁, v, σ₁, le₁, R₁, rv, q₁⟩ := p
  refine wpAny_mono (hi Φ ok g₁ σ₁ s₁ _ R₁ q₁) (fun y s₂ p => ?_) fun _ _ e => e.elim
  obtain ⟨g₂, k, σ₂, le₂, R₂, rk, q₂⟩ := p
  have rv := VR.mono le₂ v rv
  have q₂ : subL v k _ σ₂ := q₂
  unfold subL at q₂
  split at q₂
  · rename_i j kk
    obtain ⟨hk, q₂⟩ := q₂
    split at q₂
    · rename_i l hl
      split at q₂
      · rename_i u hu
        have rk' := rk
        simp only [VR] at rk
        obtain ⟨t, rfl⟩ := rk
        have hrv := rv
        obtain ⟨a, xs, n, rfl, htr, h1, h2⟩ := R₂.ref_at rv hl
        refine idx_list h1 h2 hk.1 hk.2 hu fun w rw' => ?_
        refine wpAny_mono (hv Φ ok g₂ σ₂ s₂ _ R₂ q₂) (fun z s₃ p => ?_) fun _ _ e => e.elim
        obtain ⟨g₃, b, σ₃, le₃, R₃, rb, q₃⟩ := p
        refine wpAny_mono (aug_sound R₃ (VR.mono le₃ _ rw') rb q₃) (fun z s₄ p => ?_) fun _ _ e => e.elim
        obtain ⟨g₄, c, σ₄, le₄, R₄, rc, q₄⟩ := p
        refine wpAny_mono (setIdx_sound R₄ (VR.mono (le₃.trans le₄) _ hrv) (VR.mono (le₃.trans le₄) _ rk') rc q₄) (fun _ s₅ p => ?_) fun _ _ e => e.elim
        obtain ⟨g₅, σ₅, le₅, R₅, q₅⟩ := p
        exact ⟨g₅, .next, σ₅, (((le₁.trans le₂).trans le₃).trans le₄).trans le₅, R₅, rfl, q₅⟩
      · exact q₂.elim
    · exact q₂.elim
  · exact q₂.elim
/-! ## for x in reversed(xs) -/
def revW (vs : List V) : W (List V × (List O → Prop)) := fun Q σ => match vs with
  | [v] => (match seqOf σ.objs v with
    | some l => Q (l.reverse, fun os => seqOf os v = some l) σ
    | none => False)
  | _ => False
theorem src_rev {Φ : Ctx} (hh : Φ.A.handled = none) {g₀ : G} {target : Expr} {v : V} {l : List V} {a I : Addr} (rv : VR g₀ v (.ref a)) :
    Src κ Φ g₀ target (.ref I) [I] (fun j h => h.IsRevIter I a ((l.length : Int) - 1 - (j : Int))) l.reverse (fun σ => seqOf σ.objs v = some l) where
  here := fun j h ⟨o, ho, _⟩ I' hI' => by rw [List.mem_singleton.mp hI']; exact ⟨o, ho⟩
  next := fun j u g σ s Q hu le R hc hS hI hQ => by
    obtain ⟨a', xs, n, e, h1, h2⟩ := R.seq_at (VR.mono le v rv) hc
    cases e
    have hj : j < l.length := by have := (List.getElem?_eq_some_iff.mp hu).1; simpa using this
    rw [List.getElem?_reverse hj] at hu
    obtain ⟨x, hx, rx⟩ := h2.get hu
    have e1 : ((l.length : Int) - 1 - (j : Int)) = ((l.length - 1 - j : Nat) : Int) := by omega
    rw [e1] at hS
    refine wpAny_pyNext_rev_item hS (isList_of h1) (by simpa using hx) fun h' hit hs => hQ x _ fun K hK => ?_
    obtain ⟨o, ho, hc', _⟩ := id hit
    refine lotg (s := { s with heap := h' }) ho hc' (by decide) (hK g h' s.toks (.refl g) rx (R.sameBut (hI I (.head _)) hs.extBut) hI ?_)
    have e2 : ((l.length - 1 - j : Nat) : Int) - 1 = (l.length : Int) - 1 - ((j + 1 : Nat) : Int) := by omega
    rw [← e2]; exact hit
  stop := fun g σ s Q le R hc hS hI hQ => by
    rw [List.length_reverse, show ((l.length : Int) - 1 - (l.length : Int)) = -1 by omega] at hS
    exact wpAny_pyNext_rev_end hh hS fun h' he => hQ h' s.toks (R.sameBut (hI I (.head _)) he)
  frame := fun j g σ s g' σ' s' _ _ _ _ hS hk => by
    obtain ⟨o, ho, r⟩ := hS
    exact ⟨o, hk I (.head _) o ho, r⟩
  self := fun j s Q hS q => wpAny_pyIter_revIter hS q
theorem i_rev {target : Expr} {x : Str} {p pos : Pos} {args : List Expr} {fa : W (List V)} (hx : gbl κ x (.type "reversed") = true) (ha : SEs κ args fa) (hp : plainArgs args = true := by rfl) :
    SI κ target (.Call (.Name x p) args [] pos) (bnd fa revW) := fun Φ ok g σ s Q R q => by
  refine callName_gen ok hx ha keep_type hp R q fun g' vs xs σ' s' le R' rv q' => ?_
  have q' : revW vs Q σ' := q'
  unfold revW at q'
  split at q'
  · rename_i v _
    split at q'
    · rename_i l hl
      simp only [VRs] at rv
      obtain ⟨_, _, rfl, rv, rfl⟩ := rv
      obtain ⟨a, ys, n, rfl, h1, h2⟩ := R'.seq_at rv hl
      have hlen := h2.length
      refine call_reversed_list (isList_of h1) ?_
      refine wpAny_pyIter_revIter (s := { s' with heap := s'.heap.push (revObj a ((ys.toArray.size : Int) - 1)) }) (l := a) (i := (ys.toArray.size : Int) - 1) ⟨_, Heap.get?_push_size _ rfl, rfl, rfl⟩ ⟨g', (l.reverse, fun os => seqOf os v = some l), σ', [_], _, le, push_pack R' _, fun κ' Φ' _ _ eA => src_rev (eA ▸ ok.handled) rv, ?_, fun I hI kn => ?_, q'⟩
      · refine ⟨_, Heap.get?_push_size _ rfl, rfl, ?_⟩
        simp [revObj, hlen]
      · rw [List.mem_singleton.mp hI] at kn
        exact R'.fresh kn
    · exact q'.elim
  · exact q'.elim
end
section
variable {σ : St} {loc : List (Option V)} {objs : List O}
theorem sum_i {v : V} {ns : List Int} {kvs : List V} {Q : V → St → Prop} (hv : seqOf σ.objs v = some (ns.map .int)) (h : Q (.int ns.sum) σ) : sumA [v] kvs Q σ := ⟨ns, hv, h⟩
theorem mulS_i {x : Str} {n : Int} {Q : V → St → Prop} (hm : MulOk x n) (h : Q (.str (Txt.mul x n)) σ) : mulS (.str x) (.int n) Q σ := ⟨hm, h⟩
theorem mulL_i {a : V} {l : List V} {n : Int} {Q : V → St → Prop} (ha : seqOf σ.objs a = some l) (h0 : 0 ≤ n) (h1 : l.length * n.toNat ≤ 256) (h2 : n < 1000) (h : Q (.lst (List.replicate n.toNat l).flatten) σ) : mulL a (.int n) Q σ := by
  unfold mulL; simp only [ha]; exact ⟨h0, h1, h2, h⟩
theorem reverse_i {i : Nat} {l : List V} {kvs : List V} {Q : V → St → Prop} (hl : lstAt objs i = some l) (hz : l.length ≤ sizeLine) (h : Q .none ⟨loc, objs.set i (.list l.reverse)⟩) : reverseA [.ref i] kvs Q ⟨loc, objs⟩ := by
  unfold reverseA; simp only [hl]; exact ⟨hz, h⟩
theorem subL_i {j : Nat} {k : Int} {l : List V} {u : V} {Q : V → St → Prop} (hk : -(2 ^ 62) ≤ k ∧ k < 2 ^ 62) (hl : lstAt objs j = some l) (hu : idxL l k = some u) (h : Q u ⟨loc, objs⟩) : subL (.ref j) (.int k) Q ⟨loc, objs⟩ := by
  unfold subL; refine ⟨hk, ?_⟩; simp only [hl, hu]; exact h
theorem rev_i {v : V} {l : List V} {Q : List V × (List O → Prop) → St → Prop} (hv : seqOf σ.objs v = some l) (h : Q (l.reverse, fun os => seqOf os v = some l) σ) : revW [v] Q σ := by
  unfold revW; simp only [hv]; exact h
end
end Mine

open PySem PySem.W PyProof.Rows PySem.Calls
set_option Elab.async false
set_option maxRecDepth 100000
set_option linter.unusedVariables false
set_option linter.unusedSimpArgs false

namespace Mine
/-! ## What the sorting machine does with distinct keys -/
def rwp {α : Type} (key : Nat → Nat) (n : Nat) (Q : α → Prop) : KasT α → Prop
  | .ret a => Q a
  | .ask i j k => i < n ∧ j < n ∧ rwp key n Q (k (decide (key i < key j)))
section
variable {α β : Type} {key : Nat → Nat} {n : Nat}
theorem rwp_bind {f : α → KasT β} {Q : β → Prop} : ∀ (t : KasT α), rwp key n (fun a => rwp key n Q (f a)) t → rwp key n Q (t.bind f)
  | .ret a, h => h
  | .ask i j k, h => ⟨h.1, h.2.1, rwp_bind (k _) h.2.2⟩
theorem rwp_mono {Q Q' : α → Prop} (hq : ∀ a, Q a → Q' a) : ∀ (t : KasT α), rwp key n Q t → rwp key n Q' t
  | .ret a, h => hq a h
  | .ask i j k, h => ⟨h.1, h.2.1, rwp_mono hq (k _) h.2.2⟩
theorem rwp_kas {cmp : Nat → Nat → (Bool → Shared → Prop) → Shared → Prop} {I : Shared → Prop} (hc : ∀ i j C s, i < n → j < n → I s → (∀ s', I s' → C (decide (key i < key j)) s') → cmp i j C s) {Q' : α → Prop} {Q : α → Shared → Prop}
    (hq : ∀ a s, Q' a → I s → Q a s) : ∀ (t : KasT α) (s : Shared), rwp key n Q' t → I s → t.kasWp cmp Q s
  | .ret a, s, h, hI => hq a s h hI
  | .ask i j k, s, h, hI => hc i j _ s h.1 h.2.1 hI fun s' hI' => rwp_kas hc hq (k _) s' h.2.2 hI'
end
structure SP (n : Nat) (p : Array Nat) : Prop where
  size : p.size = n
  perm : p.toList.Perm (List.range n)
abbrev at_ (p : Array Nat) (i : Nat) : Nat := p.getD i 0
theorem getD_q (p : Array Nat) (i : Nat) : p.getD i 0 = (p[i]?).getD 0 := by
  rw [Array.getD_eq_getD_getElem?]
theorem SP.lt {n : Nat} {p : Array Nat} (h : SP n p) {i : Nat} (hi : i < n) : at_ p i < n := by
  have hi' : i < p.size := by rw [h.size]; exact hi
  have : at_ p i = p[i] := by unfold at_; rw [getD_q, Array.getElem?_eq_getElem hi']; rfl
  rw [this]
  have hm : p[i] ∈ p.toList := by rw [Array.mem_toList_iff]; exact Array.getElem_mem hi'
  exact List.mem_range.mp (h.perm.mem_iff.mp hm)
theorem SP.inj {n : Nat} {p : Array Nat} (h : SP n p) {i j : Nat} (hi : i < n) (hj : j < n) (e : at_ p i = at_ p j) : i = j := by
  have hi' : i < p.size := by rw [h.size]; exact hi
  have hj' : j < p.size := by rw [h.size]; exact hj
  have e1 : ∀ {k} (hk : k < p.size), at_ p k = p.toList[k]'(by simpa using hk) := fun {k} hk => by unfold at_; rw [getD_q, Array.getElem?_eq_getElem hk]; rfl
  rw [e1 hi', e1 hj'] at e
  have nd : p.toList.Nodup := h.perm.nodup_iff.mpr List.nodup_range
  exact (List.getElem_inj nd).mp e
theorem SP.rev {n : Nat} {p : Array Nat} (h : SP n p) (i j : Nat) : SP n (kas_rev p i j) := by
  refine ⟨by unfold kas_rev; rw [mirror_size]; exact h.size, ?_⟩
  have := mirror_perm p i j ((j - i) / 2)
  exact (Array.perm_iff_toList_perm.mp this).trans h.perm
theorem SP.bub {n : Nat} {p : Array Nat} (h : SP n p) (k d : Nat) : SP n (bubble p k d) := by
  refine ⟨by rw [bubble_size]; exact h.size, ?_⟩
  exact (Array.perm_iff_toList_perm.mp (bubble_perm p k d)).trans h.perm
section
variable {key : Nat → Nat} {n : Nat}
def Inc (key : Nat → Nat) (p : Array Nat) (m : Nat) : Prop := ∀ i j, i < j → j < m → key (at_ p i) < key (at_ p j)
def Dec (key : Nat → Nat) (p : Array Nat) (m : Nat) : Prop := ∀ i j, i < j → j < m → key (at_ p j) < key (at_ p i)
theorem rev_at {p : Array Nat} {m i : Nat} (hm : m ≤ p.size) (hi : i < m) : at_ (kas_rev p 0 m) i = at_ p (m - 1 - i) := by
  unfold at_ kas_rev
  rw [getD_q, getD_q]
  have := getElem?_mirror_all (xs := p) (i := 0) (j := m) hm i
  rw [this]
  simp [hi]
theorem rev_at_ge {p : Array Nat} {m i : Nat} (hm : m ≤ p.size) (hi : m ≤ i) : at_ (kas_rev p 0 m) i = at_ p i := by
  unfold at_ kas_rev
  rw [getD_q, getD_q]
  have := getElem?_mirror_all (xs := p) (i := 0) (j := m) hm i
  rw [this]
  have h : ¬ i < m := by omega
  simp [h]
theorem bub_at {p : Array Nat} {k d i : Nat} (hs : k < p.size) (hd : d ≤ k) : at_ (bubble p k d) i = if i = k - d then at_ p k else if k - d < i ∧ i ≤ k then at_ p (i - 1) else at_ p i := by
  show (bubble p k d).getD i 0 = _
  rw [getD_q, getElem?_bubble hs d hd i]
  by_cases h1 : i = k - d
  · rw [if_pos h1, if_pos h1]; exact (getD_q p k).symm
  · rw [if_neg h1, if_neg h1]
    by_cases h2 : k - d < i ∧ i ≤ k
    · rw [if_pos h2, if_pos h2]; exact (getD_q p (i - 1)).symm
    · rw [if_neg h2, if_neg h2]; exact (getD_q p i).symm
theorem Dec.rev {p : Array Nat} {m : Nat} (hm : m ≤ p.size) (h : Dec key p m) : Inc key (kas_rev p 0 m) m := fun i j hij hj => by
  rw [rev_at hm (by omega), rev_at hm hj]
  exact h _ _ (by omega) (by omega)
variable (hk : ∀ i j, i < n → j < n → key i = key j → i = j)
theorem Inc.step {p : Array Nat} {m : Nat} (h : Inc key p m) (h1 : 1 ≤ m) (hl : key (at_ p (m - 1)) < key (at_ p m)) : Inc key p (m + 1) := fun i j hij hj => by
  by_cases e : j = m
  · subst e
    by_cases e' : i = j - 1
    · subst e'; exact hl
    · exact Nat.lt_trans (h i (j - 1) (by omega) (by omega)) hl
  · exact h i j hij (by omega)
theorem Dec.step {p : Array Nat} {m : Nat} (h : Dec key p m) (h1 : 1 ≤ m) (hl : key (at_ p m) < key (at_ p (m - 1))) : Dec key p (m + 1) := fun i j hij hj => by
  by_cases e : j = m
  · subst e
    by_cases e' : i = j - 1
    · subst e'; exact hl
    · exact Nat.lt_trans hl (h i (j - 1) (by omega) (by omega))
  · exact h i j hij (by omega)
include hk
theorem key_ne {p : Array Nat} (S : SP n p) {i j : Nat} (hi : i < n) (hj : j < n) (hij : i ≠ j) : key (at_ p i) ≠ key (at_ p j) := fun e => hij (S.inj hi hj (hk _ _ (S.lt hi) (S.lt hj) e))
theorem asc_ok {p : Array Nat} (S : SP n p) : ∀ (f m : Nat), 1 ≤ m → m + f = n → Inc key p m → rwp key n (fun r => m ≤ r ∧ r ≤ n ∧ Inc key p r ∧ (r = n ∨ key (at_ p r) < key (at_ p (r - 1)))) (kas_asc p f m)
  | 0, m, h1, he, hI => ⟨Nat.le_refl _, by omega, hI, .inl (by omega)⟩
  | f + 1, m, h1, he, hI => by
    refine ⟨S.lt (show m < n by omega), S.lt (show m - 1 < n by omega), ?_⟩
    by_cases c : key (at_ p m) < key (at_ p (m - 1))
    · rw [decide_eq_true c]
      exact ⟨Nat.le_refl _, by omega, hI, .inr c⟩
    · rw [decide_eq_false c]
      have hne := key_ne hk S (show m < n by omega) (show m - 1 < n by omega) (by omega)
      exact rwp_mono (fun r hr => ⟨by omega, hr.2.1, hr.2.2⟩) _ (asc_ok S f (m + 1) (by omega) (by omega) (hI.step h1 (by omega)))
theorem desc_ok {p : Array Nat} (S : SP n p) : ∀ (f m : Nat), 1 ≤ m → m + f = n → Dec key p m → rwp key n (fun r => r.1 = p ∧ r.2.2 = 0 ∧ m ≤ r.2.1 ∧ r.2.1 ≤ n ∧ Dec key p r.2.1) (kas_desc f p m 0)
  | 0, m, h1, he, hI => ⟨rfl, rfl, Nat.le_refl _, by show m ≤ n; omega, hI⟩
  | f + 1, m, h1, he, hI => by
    refine ⟨S.lt (show m < n by omega), S.lt (show m - 1 < n by omega), ?_⟩
    by_cases c : key (at_ p m) < key (at_ p (m - 1))
    · rw [decide_eq_true c]
      exact rwp_mono (fun r hr => ⟨hr.1, hr.2.1, by omega, hr.2.2.2⟩) _ (desc_ok S f (m + 1) (by omega) (by omega) (hI.step h1 c))
    · rw [decide_eq_false c]
      have hne := key_ne hk S (show m < n by omega) (show m - 1 < n by omega) (by omega)
      refine ⟨S.lt (show m - 1 < n by omega), S.lt (show m < n by omega), ?_⟩
      rw [decide_eq_true (show key (at_ p (m - 1)) < key (at_ p m) by omega)]
      exact ⟨rfl, rfl, Nat.le_refl _, by show m ≤ n; omega, hI⟩
theorem count_ok {p : Array Nat} (S : SP n p) (h1 : 1 ≤ n) : rwp key n (fun r => 1 ≤ r.1 ∧ r.1 ≤ n ∧ SP n r.2 ∧ Inc key r.2 r.1) (kas_count n p) := by
  unfold kas_count
  refine rwp_bind _ (rwp_mono (fun r hr => ?_) _ (asc_ok hk S (n - 1) 1 (Nat.le_refl _) (by omega) (fun i j hij hj => absurd hj (by omega))))
  obtain ⟨hr1, hr2, hr3, hr4⟩ := hr
  split
  · exact ⟨hr1, hr2, S, hr3⟩
  · rename_i hne
    have hne : r ≠ n := by simpa using hne
    split
    · rename_i hgt
      refine ⟨S.lt (show 0 < n by omega), S.lt (show r - 1 < n by omega), ?_⟩
      rw [decide_eq_true (hr3 0 (r - 1) (by omega) (by omega))]
      exact ⟨hr1, hr2, S, hr3⟩
    · rename_i hgt
      have hr : r = 1 := by omega
      subst hr
      have hlt := hr4.resolve_left hne
      have hz := S.size
      unfold kas_descPart
      have hd2 : Dec key p 2 := fun i j hij hj => by
        have hi : i = 0 := by omega
        have hj : j = 1 := by omega
        subst hi; subst hj; exact hlt
      refine rwp_bind _ (rwp_mono (fun r hr => ?_) _ (desc_ok hk S (n - (1 + 1)) 2 (by omega) (by omega) hd2))
      obtain ⟨p', m, q⟩ := r
      obtain ⟨e1, e2, hm1, hm2, hd⟩ := hr
      have e1 : p' = p := e1
      have e2 : q = 0 := e2
      subst e1; subst e2
      have hm1 : 2 ≤ m := hm1
      have hm2 : m ≤ n := hm2
      have hd : Dec key p' m := hd
      show rwp key n _ (if 0 > 0 then _ else kas_tail3 m n p')
      rw [if_neg (by decide)]
      unfold kas_tail3
      have S' := S.rev 0 m
      refine rwp_bind _ (rwp_mono (fun r hr => ?_) _ (asc_ok hk S' (n - m) m (by omega) (by omega) (hd.rev (by omega))))
      exact ⟨by show 1 ≤ r; omega, hr.2.1, S', hr.2.2.1⟩
theorem place_ok {p : Array Nat} (S : SP n p) {k : Nat} (hkn : k < n) (hI : Inc key p k) : ∀ (f l r : Nat), r - l ≤ f → l ≤ r → r ≤ k → (∀ i, i < l → key (at_ p i) < key (at_ p k)) → (∀ i, r ≤ i → i < k → key (at_ p k) < key (at_ p i)) →
    rwp key n (fun l => l ≤ k ∧ (∀ i, i < l → key (at_ p i) < key (at_ p k)) ∧ ∀ i, l ≤ i → i < k → key (at_ p k) < key (at_ p i)) (kas_place p k f l r)
  | 0, l, r, hf, hlr, hrk, h1, h2 => by
    have : l = r := by omega
    subst this
    exact ⟨hrk, h1, h2⟩
  | f + 1, l, r, hf, hlr, hrk, h1, h2 => by
    unfold kas_place
    split
    · have : l = r := by omega
      subst this
      exact ⟨hrk, h1, h2⟩
    · rename_i hlt
      have hmid : l ≤ (l + r) / 2 ∧ (l + r) / 2 < r := by omega
      generalize (l + r) / 2 = mid at hmid
      refine ⟨S.lt hkn, S.lt (show mid < n by omega), ?_⟩
      by_cases c : key (at_ p k) < key (at_ p mid)
      · rw [decide_eq_true c]
        refine place_ok S hkn hI f l mid (by omega) (by omega) (by omega) h1 (fun i hi hik => ?_)
        by_cases e : i = mid
        · subst e; exact c
        · exact Nat.lt_trans c (hI mid i (by omega) hik)
      · rw [decide_eq_false c]
        have hne := key_ne hk S hkn (show mid < n by omega) (by omega)
        refine place_ok S hkn hI f (mid + 1) r (by omega) (by omega) hrk (fun i hi => ?_) h2
        by_cases e : i = mid
        · subst e; omega
        · exact Nat.lt_of_lt_of_le (hI i mid (by omega) (by omega)) (by omega)
theorem bin_ok : ∀ (f : Nat) (p : Array Nat) (k : Nat), SP n p → k + f = n → Inc key p k → rwp key n (fun r => SP n r ∧ Inc key r n) (kas_bin f p k)
  | 0, p, k, S, he, hI => by
    have : k = n := by omega
    subst this
    exact ⟨S, hI⟩
  | f + 1, p, k, S, he, hI => by
    unfold kas_bin
    have hkn : k < n := by omega
    have hz := S.size
    refine rwp_bind _ (rwp_mono (fun l hl => ?_) _ (place_ok hk S hkn hI k 0 k (by omega) (by omega) (Nat.le_refl _) (fun i hi => absurd hi (by omega)) (fun i h1 h2 => absurd h2 (by omega))))
    obtain ⟨hlk, h1, h2⟩ := hl
    refine bin_ok f (bubble p k (k - l)) (k + 1) (S.bub _ _) (by omega) (fun i j hij hj => ?_)
    rw [bub_at (by omega) (by omega), bub_at (by omega) (by omega)]
    have e : k - (k - l) = l := by omega
    rw [e]
    by_cases hi1 : i = l
    · rw [if_pos hi1, if_neg (by omega), if_pos (by omega)]
      exact h2 _ (by omega) (by omega)
    · rw [if_neg hi1]
      by_cases hi2 : l < i ∧ i ≤ k
      · rw [if_pos hi2, if_neg (by omega), if_pos (by omega)]
        exact hI _ _ (by omega) (by omega)
      · rw [if_neg hi2]
        by_cases hj1 : j = l
        · rw [if_pos hj1]; exact h1 i (by omega)
        · rw [if_neg hj1]
          by_cases hj2 : l < j ∧ j ≤ k
          · rw [if_pos hj2]
            exact hI _ _ (by omega) (by omega)
          · rw [if_neg hj2]
            exact hI _ _ hij (by omega)
theorem sort_ok (h1 : 1 ≤ n) : rwp key n (fun r => SP n r ∧ Inc key r n) (kas_sort n) := by
  unfold kas_sort
  have S0 : SP n (List.toArray (List.range n)) := ⟨by simp, by simp⟩
  refine rwp_bind _ (rwp_mono (fun r hr => ?_) _ (count_ok hk S0 h1))
  obtain ⟨h2, h3, S, hI⟩ := hr
  split
  · rename_i hlt
    have e : max r.1 1 = r.1 := by omega
    rw [e]
    exact bin_ok hk (n - r.1) r.2 r.1 S (by omega) hI
  · have : r.1 = n := by omega
    rw [this] at hI
    exact ⟨S, hI⟩
end
end Mine

open PySem PySem.W PyProof.Rows PySem.Calls
set_option Elab.async false
set_option maxRecDepth 100000
set_option linter.unusedVariables false
set_option linter.unusedSimpArgs false

namespace Mine
/-! ## sorted of a list of pairs of ints -/
abbrev pairI (p : Nat × Nat) : V := .tup [.int ((p.1 : Nat) : Int), .int ((p.2 : Nat) : Int)]
def pkey (p : Nat × Nat) : Nat := 1000 * p.1 + p.2
section
variable {prog : Program} {w : World} {A : Around} {E : Value → Shared → Prop} {s : Shared}
theorem sorted_one {l : Addr} {v : Value} {Q : Value → Shared → Prop} (hl : s.heap.IsList l [v].toArray)
    (h : ∀ D n h', s.heap.objs.size ≤ D → h'.get? D = some (listO [v] n) → (∀ b o, s.heap.get? b = some o → h'.get? b = some o) → Q (.ref D) { s with heap := h' }) :
    wpAny (model prog w) A (call (.builtin "sorted") [.ref l]) Q E s := by
  refine Calls.call_function_entry kind_sorted plain_sorted entry_sorted (args_sorted1 _) ?_
  unfold Builtin.«sorted»
  refine wpAny_bind (m := checkCount "sorted" 1 1 _) (wpAny_pure ?_)
  refine wpAny_bind (collect_list hl ?_ (show 1 ≤ sizeLine by decide))
  refine wpAny_bind (wpAny_newList ?_ (show 1 ≤ sizeLine by decide))
  generalize hH1 : (s.heap.push (seqObj "list" #[] 0)).update s.heap.objs.size (Obj.mapSeq (· ++ [v].toArray)) = H1
  have hsz : H1.objs.size = s.heap.objs.size + 1 := by rw [← hH1, Heap.size_update, size_push']
  have keep1 : ∀ b o, s.heap.get? b = some o → H1.get? b = some o := fun b o q => by
    have hlt : b < s.heap.objs.size := Heap.lt_size q
    rw [← hH1, Heap.get?_update_ne _ _ _ _ (Nat.ne_of_lt hlt), Heap.get?_push_ne _ _ _ (Nat.ne_of_lt hlt)]
    exact q
  show wpAny _ _ _ _ _ { s with heap := H1.push (seqObj "list" [v].toArray 0) }
  have hoL : (H1.push (seqObj "list" [v].toArray 0)).get? H1.objs.size = some (seqObj "list" [v].toArray 0) := Heap.get?_push_size _ rfl
  refine wpAny_bind (wpAny_holding (wpAny_call_entry slot_list_sort ⟨_, hoL, rfl⟩ entry_list_sort ?_ (args_list_sort _)))
  rw [list_sort_plain]
  generalize hH2 : H1.push (seqObj "list" [v].toArray 0) = H2 at hoL
  refine wpAny_bind (listItems_at (s := { s with heap := H2 }) hoL rfl ?_)
  refine wpAny_bind (listUpdate_at (s := { s with heap := H2 }) hoL rfl ?_ (show 1 ≤ sizeLine by decide) (Nat.zero_le _))
  obtain ⟨e1, ho1⟩ : ∃ e1, (H2.update H1.objs.size (Obj.mapSeq fun _ => (#[] : Array Value))).get? H1.objs.size = some (seqObj "list" #[] e1) := ⟨_, get?_update_seq hoL fun _ => #[]⟩
  have s1 := Heap.SameBut.update H2 H1.objs.size (Obj.mapSeq fun _ => (#[] : Array Value))
  generalize H2.update H1.objs.size (Obj.mapSeq fun _ => (#[] : Array Value)) = H3 at ho1 s1
  refine wpAny_bind (seqEpoch_at (s := { s with heap := H3 }) ho1 rfl ?_)
  refine wpAny_bind (wpAny_newTuple ?_ (show 1 ≤ sizeLine by decide))
  refine wpAny_bind (wpAny_newList ?_ (Nat.zero_le _))
  refine wpAny_holding ?_
  dsimp only
  have hlt2 : #[v].size < 2 := show 1 < 2 by decide
  rw [if_pos hlt2, if_pos hlt2]
  refine wpAny_bind (wpAny_pure (wpAny_bind (wpAny_pure ?_)))
  dsimp only
  have ho4 : ((H3.push (seqObj "tuple" [v].toArray 0)).push (seqObj "list" #[] 0)).get? H1.objs.size = some (seqObj "list" #[] e1) := Heap.get?_push_of_some _ (Heap.get?_push_of_some _ ho1)
  have keep4 : ∀ b o, b ≠ H1.objs.size → H2.get? b = some o → ((H3.push (seqObj "tuple" [v].toArray 0)).push (seqObj "list" #[] 0)).get? b = some o := fun b o hb e => Heap.get?_push_of_some _ (Heap.get?_push_of_some _ (s1.extBut b o hb e))
  generalize hH4 : (H3.push (seqObj "tuple" [v].toArray 0)).push (seqObj "list" #[] 0) = H4 at ho4 keep4
  have harr : Array.map (fun x => x.snd) (arrOf (SortSt.mk' general' (#[v].zip #[v]) #[] 7 none)) = #[v] := by
    have e : arrOf (SortSt.mk' general' (#[v].zip #[v]) #[] 7 none) = #[v].zip #[v] := rfl
    rw [e]; simp
  rw [harr]
  refine wpAny_bind (seqEpoch_at (s := { s with heap := H4 }) ho4 rfl ?_)
  refine wpAny_bind (listUpdate_at (s := { s with heap := H4 }) ho4 rfl ?_ (Nat.zero_le _) (show 1 ≤ sizeLine + 1 by decide))
  obtain ⟨c2, hc2⟩ : ∃ c2, (H4.update H1.objs.size (Obj.mapSeq fun _ => [v].toArray)).get? H1.objs.size = some (seqObj "list" [v].toArray c2) := ⟨_, get?_update_seq ho4 fun _ => [v].toArray⟩
  have s4 := Heap.SameBut.update H4 H1.objs.size (Obj.mapSeq fun _ => [v].toArray)
  show wpAny _ _ (if ((e1 != e1) = true) then _ else _) _ _ _
  simp only [bne_self_eq_false, Bool.false_eq_true, if_false]
  refine wpAny_pure ⟨_, rfl, wpAny_pure ⟨_, rfl, ?_⟩⟩
  refine h H1.objs.size c2 _ (by rw [hsz]; exact Nat.le_succ _) hc2 fun b o e => ?_
  have hne : b ≠ H1.objs.size := Nat.ne_of_lt (by rw [hsz]; exact Nat.lt_succ_of_lt (Heap.lt_size e))
  exact s4.extBut b o hne (keep4 b o hne (by rw [← hH2]; exact Heap.get?_push_of_some _ (keep1 b o e)))
end
theorem lex_key {p q : Nat × Nat} (hp : p.2 < 1000) (hq : q.2 < 1000) : (pkey p < pkey q) ↔ (p.1 < q.1 ∨ (p.1 = q.1 ∧ p.2 < q.2)) := by unfold pkey; omega
theorem pkey_inj {p q : Nat × Nat} (hp : p.2 < 1000) (hq : q.2 < 1000) (e : pkey p = pkey q) : p = q := by
  unfold pkey at e
  have h1 : p.1 = q.1 := by omega
  have h2 : p.2 = q.2 := by omega
  exact Prod.ext h1 h2
section
variable {κ : Kap}
def sortedA (vs kvs : List V) : W V := fun Q σ => match vs with
  | [v] => ∃ ps : List (Nat × Nat), seqOf σ.objs v = some (ps.map pairI) ∧ 1 ≤ ps.length ∧ ps.length < 64 ∧ ps.Nodup ∧ (∀ p ∈ ps, p.2 < 1000) ∧
    ∀ qs : List (Nat × Nat), qs.Perm ps → qs.Pairwise (fun p q => pkey p < pkey q) → Q (.lst (qs.map pairI)) σ
  | _ => False
theorem cal_sorted : CalOK κ (.builtin "sorted") [] sortedA := fun Φ ok g σ s vs xs kvs kxs Q R rv rk q => by
  unfold sortedA at q
  split at q
  · rename_i v
    obtain ⟨ps, hv, h1, h64, hnd, hb, q⟩ := q
    simp only [VRs] at rv
    obtain ⟨y, ys, rfl, ry, rfl⟩ := rv
    obtain ⟨a, xs, n, rfl, hL, hR⟩ := R.seq_at ry hv
    have hlen := hR.length
    rw [List.length_map] at hlen
    by_cases h2 : ps.length = 1
    · obtain ⟨p, rfl⟩ := len1 h2
      simp only [List.map_cons, List.map_nil, VRs] at hR
      obtain ⟨x, _, rfl, rx, rfl⟩ := hR
      refine sorted_one (isList_of hL) fun D m h' hD ho hk => ?_
      have R1 : Rel κ Φ g σ { s with heap := h' } := R.keeps (tk := s.toks) hk
      have hnk : ¬ Known Φ g D := fun kn => by
        obtain ⟨o, ho⟩ := R.known kn
        exact absurd (Heap.lt_size ho) (Nat.not_lt.mpr hD)
      obtain ⟨R2, le⟩ := R1.freeze ho hnk
      refine ⟨_, .lst [pairI p], σ, le, R2, ?_, by have := q [p] (List.Perm.refl _) (List.pairwise_singleton _ _); simpa using this⟩
      simp only [VR]
      exact ⟨D, [x], m, rfl, .head _, VRs.mono le _ (.one rx)⟩
    · obtain ⟨mm, news, F, N, back, kn⟩ := R.ledgerK ok.above
      refine kat_sorted F N (isList_of hL) (by omega) (by omega) fun D e1 h' F' N' hlt => ?_
      have R1 : Rel κ Φ g σ { s with heap := h' } := back h' s.toks F' (ntail N')
      -- each item is a tuple
      have item : ∀ {i : Nat} {p : Nat × Nat}, ps[i]? = some p → ∃ c t u k, xs[i]? = some (.ref c) ∧ h'.get? c = some (tupO [.int ((p.1 : Nat) : Int) t, .int ((p.2 : Nat) : Int) u] k) := fun {i p} hp => by
        have hp' : (ps.map pairI)[i]? = some (pairI p) := by rw [List.getElem?_map, hp]; rfl
        obtain ⟨x, hx, rx⟩ := hR.get hp'
        obtain ⟨c, ws, k, rfl, hc, hw⟩ := R1.tup_at rx
        simp only [VRs, VR] at hw
        obtain ⟨_, _, rfl, ⟨t, rfl⟩, _, _, rfl, ⟨u, rfl⟩, rfl⟩ := hw
        exact ⟨c, t, u, k, hx, hc⟩
      have tups : ∀ (ps' : List (Nat × Nat)) (xs' : List Value), (∀ (i : Nat) p, ps'[i]? = some p → ∃ c t u k, xs'[i]? = some (.ref c) ∧ h'.get? c = some (tupO [.int ((p.1 : Nat) : Int) t, .int ((p.2 : Nat) : Int) u] k)) → xs'.length = ps'.length →
          ∃ fs : List Value, KatTups h' xs' fs ∧ fs.length = ps'.length ∧ ∀ f ∈ fs, ∃ i t, f = .int i t := by
        intro ps'
        induction ps' with
        | nil => intro xs' _ hl; exact ⟨[], by rw [List.eq_nil_of_length_eq_zero hl]; exact .nil, rfl, fun f hf => by cases hf⟩
        | cons p ps' ih =>
          intro xs' hx hl
          cases xs' with
          | nil => simp at hl
          | cons x xs' =>
            obtain ⟨c, t, u, k, hc, ho⟩ := hx 0 p rfl
            simp at hc
            subst hc
            obtain ⟨fs, hf1, hf2, hf3⟩ := ih xs' (fun i p hp => by have := hx (i + 1) p (by simpa using hp); simpa using this) (by simpa using hl)
            refine ⟨.int ((p.1 : Nat) : Int) t :: fs, .cons ho rfl rfl rfl hf1, by simp [hf2], fun f hf => ?_⟩
            rcases List.mem_cons.mp hf with rfl | hf
            · exact ⟨_, _, rfl⟩
            · exact hf3 f hf
      obtain ⟨fs, hf1, hf2, hf3⟩ := tups ps xs (fun i p hp => item hp) hlen
      refine kat_kind (T := .type "int") hf1 (by omega) (fun f hf => ?_) rfl ?_
      · obtain ⟨i, t, rfl⟩ := hf3 f hf
        exact fun A Q E s _ q => wpAny_of_eq (show typeOf (.int i t) = pure (.type "int") from rfl) q
      -- the machine
      obtain ⟨key, hkey⟩ : ∃ key : Nat → Nat, ∀ i, key i = pkey (ps.getD i (0, 0)) := ⟨_, fun _ => rfl⟩
      have hget : ∀ {i : Nat}, i < ps.length → ps[i]? = some (ps.getD i (0, 0)) := fun {i} hi => by simp [List.getD_eq_getElem?_getD, hi]
      have hbound : ∀ {i : Nat}, i < ps.length → (ps.getD i (0, 0)).2 < 1000 := fun {i} hi => hb _ (List.mem_of_getElem? (hget hi))
      have hkinj : ∀ i j, i < ps.length → j < ps.length → key i = key j → i = j := fun i j hi hj e => by
        rw [hkey, hkey] at e
        have := pkey_inj (hbound hi) (hbound hj) e
        have e1 := hget hi
        have e2 := hget hj
        rw [this] at e1
        exact (List.getElem?_inj hi hnd).mp (e1.trans e2.symm)
      rw [hlen]
      refine rwp_kas (n := ps.length) (key := key) (I := fun s' => ∃ tk, s' = { s with heap := h', toks := tk }) (Q' := fun r => SP ps.length r ∧ Inc key r ps.length) (fun i j C s' hi hj hI hC => ?_) (fun p s' hp hI => ?_) _ _ (sort_ok hkinj (by omega)) ⟨s.toks, rfl⟩
      · obtain ⟨tk, rfl⟩ := hI
        obtain ⟨c, t, u, k, hc, ho⟩ := item (hget hi)
        obtain ⟨c', t', u', k', hc', ho'⟩ := item (hget hj)
        have hI' : ∃ tk', ({ s with heap := h', toks := tk } : Shared) = { s with heap := h', toks := tk' } := ⟨tk, rfl⟩
        show wpAny _ _ (keyLt' _ (xs.getD i .none) (xs.getD j .none)) _ _ _
        have g1 : xs.getD i .none = .ref c := by rw [List.getD_eq_getElem?_getD, hc]; rfl
        have g2 : xs.getD j .none = .ref c' := by rw [List.getD_eq_getElem?_getD, hc']; rfl
        rw [g1, g2]
        have hfin := hC _ hI'
        have hlex : (key i < key j) ↔ ((ps.getD i (0, 0)).1 < (ps.getD j (0, 0)).1 ∨ ((ps.getD i (0, 0)).1 = (ps.getD j (0, 0)).1 ∧ (ps.getD i (0, 0)).2 < (ps.getD j (0, 0)).2)) := by rw [hkey, hkey]; exact lex_key (hbound hi) (hbound hj)
        clear hkinj hkey
        generalize ps.getD i (0, 0) = p at *
        generalize ps.getD j (0, 0) = r at *
        refine kat_lt ho rfl ho' rfl ?_
        refine kat_cons (wpAny_eqBool_int ?_)
        by_cases e1 : p.1 = r.1
        · rw [show (((p.1 : Nat) : Int) == ((r.1 : Nat) : Int)) = true by rw [e1]; simp]
          refine kat_yes (kat_cons (wpAny_eqBool_int ?_))
          by_cases e2 : p.2 = r.2
          · rw [show (((p.2 : Nat) : Int) == ((r.2 : Nat) : Int)) = true by rw [e2]; simp]
            refine kat_yes (kat_nil ?_)
            have : decide (key i < key j) = false := decide_eq_false (fun h => by have := hlex.mp h; omega)
            rw [this] at hfin
            exact hfin
          · rw [show (((p.2 : Nat) : Int) == ((r.2 : Nat) : Int)) = false by simp; omega]
            refine kat_no (kat_one _ _ ?_)
            refine wpAny_lt_int ?_
            have : decide (key i < key j) = decide (((p.2 : Nat) : Int) < ((r.2 : Nat) : Int)) := decide_eq_decide.mpr ⟨fun h => by have := hlex.mp h; omega, fun h => hlex.mpr (by omega)⟩
            rw [this] at hfin
            exact hfin
        · rw [show (((p.1 : Nat) : Int) == ((r.1 : Nat) : Int)) = false by simp; omega]
          refine kat_no ?_
          refine oneLt_int ?_
          have : decide (key i < key j) = decide (((p.1 : Nat) : Int) < ((r.1 : Nat) : Int)) := decide_eq_decide.mpr ⟨fun h => by have := hlex.mp h; omega, fun h => hlex.mpr (by omega)⟩
          rw [this] at hfin
          exact hfin
      · obtain ⟨tk, rfl⟩ := hI
        obtain ⟨S, hI⟩ := hp
        refine KasFin.intro F' N' (.head fun p hp => Nat.ne_of_lt (hlt p hp)) fun h'' c F'' N'' => ?_
        have R2 : Rel κ Φ g σ { s with heap := h'', toks := tk } := back h'' tk F'' (ntail N'')
        have hD := N'' _ (.head _)
        have hnk : ¬ Known Φ g D := fun kb => by
          rcases kn D kb with e | e | ⟨o, e⟩
          · exact hD.2.1 e
          · rw [hD.2.2] at e; cases e
          · exact absurd (hlt _ e) (Nat.lt_irrefl _)
        have hat : ∀ {i : Nat} (hi : i < p.toList.length), p.toList[i] = at_ p i := fun {i} hi => by
          have hi' : i < p.size := by simpa using hi
          unfold at_; rw [getD_q, Array.getElem?_eq_getElem hi']; simp
        have hpl : p.toList.length = ps.length := by rw [Array.length_toList]; exact S.size
        have hperm : (p.toList.map fun i => ps.getD i (0, 0)).Perm ps := by
          have e : (List.range ps.length).map (fun i => ps.getD i (0, 0)) = ps := by
            apply List.ext_getElem
            · simp
            · intro i h1 h2
              simp [List.getD_eq_getElem?_getD, h2]
          have := S.perm.map (fun i => ps.getD i (0, 0))
          rw [e] at this
          exact this
        have hpw : (p.toList.map fun i => ps.getD i (0, 0)).Pairwise (fun a b => pkey a < pkey b) := by
          rw [List.pairwise_iff_getElem]
          intro i j hi hj hij
          rw [List.length_map] at hi hj
          rw [List.getElem_map, List.getElem_map, hat hi, hat hj, ← hkey, ← hkey]
          exact hI i j hij (by omega)
        have hout : VRs g ((p.toList.map fun i => ps.getD i (0, 0)).map pairI) (p.toList.map fun i => xs.getD i Value.none) := by
          refine VRs.of_get (by simp) fun i v x e1 e2 => ?_
          rw [List.getElem?_map, List.getElem?_map] at e1
          rw [List.getElem?_map] at e2
          obtain ⟨a, ha, rfl⟩ := Option.map_eq_some_iff.mp e2
          rw [ha] at e1
          cases e1
          have hlt' : a < ps.length := by
            have := List.mem_of_getElem? ha
            exact List.mem_range.mp (S.perm.mem_iff.mp this)
          have hp' : (ps.map pairI)[a]? = some (pairI (ps.getD a (0, 0))) := by rw [List.getElem?_map, hget hlt']; rfl
          obtain ⟨x, hx, rx⟩ := hR.get hp'
          rw [List.getD_eq_getElem?_getD, hx]
          exact rx
        obtain ⟨R3, le⟩ := R2.freeze (o := listO (p.toList.map fun i => xs.getD i Value.none) c) hD.1 hnk
        refine ⟨_, .lst _, σ, le, R3, ?_, q _ hperm hpw⟩
        simp only [VR]
        exact ⟨D, _, c, rfl, .head _, VRs.mono le _ hout⟩
  · exact q.elim
end
theorem sorted_i {v : V} {ps : List (Nat × Nat)} {kvs : List V} {σ : St} {Q : V → St → Prop} (hv : seqOf σ.objs v = some (ps.map pairI)) (h1 : 1 ≤ ps.length) (h2 : ps.length < 64) (hn : ps.Nodup) (hb : ∀ p ∈ ps, p.2 < 1000)
    (h : ∀ qs : List (Nat × Nat), qs.Perm ps → qs.Pairwise (fun p q => pkey p < pkey q) → Q (.lst (qs.map pairI)) σ) : sortedA [v] kvs Q σ := ⟨ps, hv, h1, h2, hn, hb, h⟩
theorem sorted_unique : ∀ {a b : List (Nat × Nat)}, a.Perm b → a.Pairwise (fun p q => pkey p < pkey q) → b.Pairwise (fun p q => pkey p < pkey q) → a = b
  | [], b, hp, _, _ => (List.nil_perm.mp hp).symm
  | x :: a, [], hp, _, _ => by have := hp.length_eq; simp at this
  | x :: a, y :: b, hp, ha, hb => by
    have ha' := List.pairwise_cons.mp ha
    have hb' := List.pairwise_cons.mp hb
    have hxy : x = y := by
      have h1 : x ∈ y :: b := hp.mem_iff.mp (.head _)
      have h2 : y ∈ x :: a := hp.mem_iff.mpr (.head _)
      rcases List.mem_cons.mp h1 with h1 | h1
      · exact h1
      · rcases List.mem_cons.mp h2 with h2 | h2
        · exact h2.symm
        · have := ha'.1 y h2
          have := hb'.1 x h1
          omega
    subst hxy
    rw [sorted_unique (List.Perm.cons_inv hp) ha'.2 hb'.2]
theorem nrm_pairI (p : Nat × Nat) (objs : List O) (n : Nat) : nrm objs (n + 2) (pairI p) = some (pairI p) := nrm_tup fun v hv => by
  rcases List.mem_cons.mp hv with rfl | hv
  · rfl
  · rw [List.mem_singleton.mp hv]; rfl
theorem veq_pairI (p q : Nat × Nat) : veq (pairI p) (pairI q) = some (decide (p = q)) := by
  obtain ⟨a, b⟩ := p
  obtain ⟨c, d⟩ := q
  have e : veq (pairI (a, b)) (pairI (c, d)) = some (((a : Int) == c) && (((b : Int) == d) && true)) := by simp [pairI, veq, veqs]
  have n : ∀ a c : Nat, ((a : Int) == c) = decide (a = c) := fun a c => by
    by_cases h : a = c
    · simp [h]
    · have : ¬ (a : Int) = c := by omega
      simp [h, this]
  rw [e, n, n]
  by_cases h1 : a = c <;> by_cases h2 : b = d <;> simp [h1, h2]
theorem inA_pairs {σ : St} {x : Nat × Nat} {b : V} {l : List (Nat × Nat)} {Q : Bool → St → Prop} (hb : seqOf σ.objs b = some (l.map pairI)) (h1 : x ∈ l → Q true σ) (h2 : x ∉ l → Q false σ) : inA (pairI x) b Q σ := by
  unfold inA
  rw [hb]
  have hm := memA_map (objs := σ.objs) (f := pairI) (a := pairI x) (p := fun y => decide (y = x)) (fun y => nrm_pairI y _ 6) (fun y => veq_pairI y x) l
  simp only [nrm_pairI x σ.objs 6, hm]
  by_cases h : x ∈ l
  · have : l.any (fun y => decide (y = x)) = true := List.any_eq_true.mpr ⟨x, h, by simp⟩
    rw [this]; exact h1 h
  · have : l.any (fun y => decide (y = x)) = false := by
      rw [Bool.eq_false_iff]; intro h'
      obtain ⟨a, ha, e⟩ := List.any_eq_true.mp h'
      rw [decide_eq_true_eq] at e; subst e; exact h ha
    rw [this]; exact h2 h
theorem isLst_of {i : Nat} {l : List V} {loc : List (Option V)} {objs : List O} (h : lstAt objs i = some l) : isLst (.ref i) ⟨loc, objs⟩ := by
  show (lstAt objs i).isSome = true
  rw [h]; rfl
end Mine

open PySem PySem.W PyProof.Rows
set_option Elab.async false
set_option maxRecDepth 100000
set_option maxHeartbeats 8000000
open_top hd for PySem.Challenge.rw_dn0263_12

def Mine.glob : List (PySem.Str × PySem.Value) := [("_name_disallowed_re", .ref 43), ("_value_disallowed_re", .ref 48), ("Headers", .ref 171), ("_law_name", .ref 182), ("_law_ways", .ref 189), ("_law_counts", .ref 196), ("_law_reached", .ref 203), ("len", .builtin "len"), ("str", .type "str"), ("list", .type "list"), ("type", .type "type"), ("range", .type "range"), ("sum", .builtin "sum"), ("sorted", .builtin "sorted"), ("reversed", .type "reversed")]
open PySem PySem.W PyProof.Rows PySem.Calls
set_option Elab.async false
set_option maxRecDepth 100000
set_option maxHeartbeats 4000000
set_option linter.unusedVariables false
set_option linter.unusedSimpArgs false

namespace Mine
noncomputable def fdO (a : Addr) : Option FuncData := ((hd.heap_39 q0).lookup a).bind objFd
noncomputable def PG : Prg := ⟨PySem.Challenge.rw_dn0263_12.row.prog, hd.heap_39, glob⟩
abbrev C : Nat := 171

theorem at_headers : AttrIs PG C "_headers" := ⟨fun q => by kernel_rfl, fun q => by kernel_rfl, fun q => by kernel_rfl⟩
theorem se_headers : SetIs PG C "_headers" := ⟨fun q => by kernel_rfl, fun q => by kernel_rfl, fun q => by kernel_rfl, fun q => by kernel_rfl⟩
theorem me_conv : MethIs PG C "_convert_string_type" 70 := ⟨fun q => by kernel_rfl, fun q => by kernel_rfl, fun q => by kernel_rfl⟩
theorem me_get : MethIs PG C "get" 118 := ⟨fun q => by kernel_rfl, fun q => by kernel_rfl, fun q => by kernel_rfl⟩
theorem me_keys : MethIs PG C "keys" 123 := ⟨fun q => by kernel_rfl, fun q => by kernel_rfl, fun q => by kernel_rfl⟩
theorem me_values : MethIs PG C "values" 128 := ⟨fun q => by kernel_rfl, fun q => by kernel_rfl, fun q => by kernel_rfl⟩
theorem me_items : MethIs PG C "items" 135 := ⟨fun q => by kernel_rfl, fun q => by kernel_rfl, fun q => by kernel_rfl⟩
theorem sp_getitem : SpecIs PG C "__getitem__" 96 := ⟨fun q => by kernel_rfl, fun q => by kernel_rfl, fun q => by kernel_rfl, fun q => by kernel_rfl⟩
theorem sp_setitem : SpecIs PG C "__setitem__" 84 := ⟨fun q => by kernel_rfl, fun q => by kernel_rfl, fun q => by kernel_rfl, fun q => by kernel_rfl⟩
theorem sp_delitem : SpecIs PG C "__delitem__" 89 := ⟨fun q => by kernel_rfl, fun q => by kernel_rfl, fun q => by kernel_rfl, fun q => by kernel_rfl⟩
theorem sp_len : SpecIs PG C "__len__" 77 := ⟨fun q => by kernel_rfl, fun q => by kernel_rfl, fun q => by kernel_rfl, fun q => by kernel_rfl⟩
theorem sp_str : SpecIs PG C "__str__" 147 := ⟨fun q => by kernel_rfl, fun q => by kernel_rfl, fun q => by kernel_rfl, fun q => by kernel_rfl⟩
theorem cls_is : ClsIs PG C 63 := ⟨fun q => by kernel_rfl, fun q => by kernel_rfl, fun q => by kernel_rfl, fun q => by kernel_rfl⟩
theorem rxN : RxIs PG 43 codeN := ⟨fun q => ⟨_, _, _, _, _, _, _, rfl, rfl, by kernel_rfl⟩, by kernel_rfl⟩
theorem rxV : RxIs PG 48 codeV := ⟨fun q => ⟨_, _, _, _, _, _, _, rfl, rfl, by kernel_rfl⟩, by kernel_rfl⟩

noncomputable def fd_conv : FuncData := (fdO 70).get (by decide +kernel)
theorem is_conv : FnIs PG 70 fd_conv (stmtsOf fd_conv.body) ["self", "value", "name", "regex"] ["self", "value", "name"] := by
  refine ⟨fun q => fnAt_of (by kernel_rfl), fun q => by kernel_rfl, by kernel_rfl, by kernel_rfl, by kernel_rfl, by kernel_rfl, by kernel_rfl, by kernel_rfl, by kernel_rfl, ?_, ?_, ?_⟩ <;> decide +kernel
def spec_conv : Spec := fun vs kvs objs Q => ∃ v x b, vs = [v, .str x] ∧ kvs = [.bool b] ∧ (if b = true then okN x else okV x) ∧ Q (.str x) objs
theorem meth_rx2 {κ : Kap} (h : κ.P = PG) : MethOK κ "search" (.builtin "re.Pattern.search") (fun v σ => isRx 43 v σ ∨ isRx 48 v σ) := meth_or (meth_rx (h ▸ rxN)) (meth_rx (h ▸ rxV))
theorem cal_rx2 {κ : Kap} (h : κ.P = PG) : CalOK κ (.builtin "re.Pattern.search") [] (fun vs kvs Q σ => rxA 43 codeN vs kvs Q σ ∨ rxA 48 codeV vs kvs Q σ) := cal_or (cal_rx (h ▸ rxN)) (cal_rx (h ▸ rxV))
theorem ok_conv : FnOK PG 1 70 2 ["name"] spec_conv := by
  refine fn_ok (full := fun vs kvs => vs ++ kvs) is_conv (b_cons (s_If (t_Compare (r_Call (by kernel_rfl) (rs_cons (r_Name (k := 1) (by kernel_rfl)) rs_nil) rk_nil cal_type keep_type) (r_Glob (v := .type "str") (by kernel_rfl))) (b_cons (s_Assign (k := 3) (r_IfExp (t_plain (r_Name (k := 2) (by kernel_rfl))) (r_Glob (v := .ref 43) (by kernel_rfl)) (r_Glob (v := .ref 48) (by kernel_rfl))) (by kernel_rfl)) (b_cons (s_If (t_plain (r_Meth (r_Name (k := 3) (by kernel_rfl)) (meth_rx2 rfl) (rs_cons (r_Name (k := 1) (by kernel_rfl)) rs_nil) rk_nil (cal_rx2 rfl) keep_builtin)) b_dead b_nil) (b_cons (s_Return (r_Name (k := 1) (by kernel_rfl))) b_nil))) b_nil) b_dead) ?_ ?_
  · intro q s xs kxs X h1 h2
    obtain ⟨a, b, rfl⟩ := len2 h1
    obtain ⟨c, rfl⟩ := len1 h2
    exact ⟨[a, b, c], kp_binds X (fun _ => by kernel_rfl), fun g vs kvs rv rk => rv.append rk⟩
  · intro vs kvs objs Q h1 h2 h
    obtain ⟨v, x, b, rfl, rfl, hx, hQ⟩ := h
    rw [show initLoc ["self", "value", "name", "regex"] ["self", "value", "name"] ([v, .str x] ++ [.bool b]) = [some v, some (.str x), some (.bool b), none] from by kernel_rfl]
    cases b
    · simp only [Bool.false_eq_true, if_false] at hx
      simp [seqF, bnd, ret, getv, setv, gdW, lget, lset, cmpA, eqA, isA, isN, retQ, truthA, attrA, attrAt, handed, itemsW, seqOf, tupT, tgts, tgtN, nrm, veq, typeA, isRx, rxA]
      exact ⟨by rw [sizeLine_eq]; have := hx.1; omega, clearV hx.2, hQ⟩
    · simp only [if_true] at hx
      simp [seqF, bnd, ret, getv, setv, gdW, lget, lset, cmpA, eqA, isA, isN, retQ, truthA, attrA, attrAt, handed, itemsW, seqOf, tupT, tgts, tgtN, nrm, veq, typeA, isRx, rxA]
      exact ⟨by rw [sizeLine_eq]; have := hx.1; omega, clearN hx.2, hQ⟩

noncomputable def fd_get : FuncData := (fdO 118).get (by decide +kernel)
theorem is_get : FnIs PG 118 fd_get (stmtsOf fd_get.body) ["self", "name", "default", "k", "v"] ["self", "name", "default"] := by
  refine ⟨fun q => fnAt_of (by kernel_rfl), fun q => by kernel_rfl, by kernel_rfl, by kernel_rfl, by kernel_rfl, by kernel_rfl, by kernel_rfl, by kernel_rfl, by kernel_rfl, ?_, ?_, ?_⟩ <;> decide +kernel
def spec_get1 : Spec := fun vs kvs objs Q => ∃ i j L x, vs = [.inst C i, .str x] ∧ TB objs i j (L.map prV) ∧ Tab L ∧ okK x ∧ Q (getL L x) objs
theorem low_ok {x : Str} (h : okK x) : x.length ≤ 5592405 := by have := h.1.1; omega
theorem get_loop {L : List (Str × Str)} {x : Str} {objs : List O} {j : Nat} {v d : V} {Q : Fl → St → Prop} (hj : lstAt objs j = some (L.map prV)) (hT : ∀ p ∈ L, okK p.1)
    (hQ : ∀ fl σ', σ'.objs = objs → (match L.find? (same x) with | some p => fl = .ret (.str p.2) | none => fl = .next ∧ ∃ a b, σ'.loc = [some v, some (.str (Txt.lower x)), some d, a, b]) → Q fl σ') :
    ∀ (M : List (Str × Str)), (∀ p ∈ M, okK p.1) → M.find? (same x) = L.find? (same x) → ∀ a b, forL (fun σ => lstAt σ.objs j = some (L.map prV)) (tupT 2 (tgts (fun v => setv 3 v) (tgts (fun v => setv 4 v) tgtN)))
      (seqF (bnd (bnd (bnd (getv 3) fun v => gdW (isStr v) (bnd (ret []) fun vs => bnd (ret []) fun kvs => strFn Txt.lower (v :: vs) kvs)) fun a => bnd (getv 1) fun b => cmpA .Eq a b) fun c => if c = true then seqF (bnd (getv 4) fun v => ret (.ret v)) (ret .next) else ret .next) (ret .next)) (M.map prV) Q
      ⟨[some v, some (.str (Txt.lower x)), some d, a, b], objs⟩
  | [], _, e, a, b => ⟨hj, hQ _ _ rfl (by rw [← e]; exact ⟨rfl, a, b, rfl⟩)⟩
  | p :: M, hM, e, a, b => by
    refine ⟨hj, ?_⟩
    have := low_ok (hM p (.head _))
    simp [seqF, bnd, ret, getv, setv, gdW, lget, lset, cmpA, eqA, isA, isN, retQ, truthA, attrA, attrAt, handed, itemsW, seqOf, tupT, tgts, tgtN, nrm, veq, prV, isStr, strFn, this]
    by_cases h : Txt.lower p.1 = Txt.lower x
    · simp [h]
      refine hQ _ _ rfl ?_
      have : (p :: M).find? (same x) = some p := by simp [same, h]
      rw [← e, this]
    · simp [h]
      exact get_loop hj hT hQ M (fun q hq => hM q (.tail _ hq)) (by rw [← e]; simp [same, h]) _ _
theorem ok_get1 : FnOK PG 2 118 2 [] spec_get1 := by
  refine fn_ok (full := fun vs _ => vs ++ [.none]) is_get (b_cons (s_Assign (k := 1) (r_Meth (r_Name (k := 0) (by kernel_rfl)) (meth_inst me_conv) (rs_cons (r_Meth (r_Name (k := 1) (by kernel_rfl)) (meth_str F.slot_str_lower F.type_str_lower) rs_nil rk_nil cal_lower keep_builtin) rs_nil) (rk_cons r_bool rk_nil) (cal_fn ok_conv (by decide)) (.inr fun q => by kernel_rfl)) (by kernel_rfl)) (b_cons (s_For (i_seq (r_Attr (r_Name (k := 0) (by kernel_rfl)) at_headers)) (a_Tuple (as_cons (a_Name (k := 3) (by kernel_rfl)) (as_cons (a_Name (k := 4) (by kernel_rfl)) as_nil))) (b_cons (s_If (t_Compare (r_Meth (r_Name (k := 3) (by kernel_rfl)) (meth_str F.slot_str_lower F.type_str_lower) rs_nil rk_nil cal_lower keep_builtin) (r_Name (k := 1) (by kernel_rfl))) (b_cons (s_Return (r_Name (k := 4) (by kernel_rfl))) b_nil) b_nil) b_nil)) (b_cons (s_Return (r_Name (k := 2) (by kernel_rfl))) b_nil))) ?_ ?_
  · intro q s xs kxs X h1 h2
    obtain ⟨a, b, rfl⟩ := len2 h1
    obtain rfl := len0 h2
    exact ⟨[a, b, .none], kp_binds X (fun _ => by kernel_rfl), fun g vs kvs rv rk => rv.append (.one (by simp only [VR]))⟩
  · intro vs kvs objs Q h1 h2 h
    obtain ⟨i, j, L, x, rfl, ⟨hi, hj⟩, hT, hx, hQ⟩ := h
    rw [show initLoc ["self", "name", "default", "k", "v"] ["self", "name", "default"] ([.inst C i, .str x] ++ [.none]) = [some (.inst C i), some (.str x), some .none, none, none] from by kernel_rfl]
    have hl := low_ok hx
    simp [seqF, bnd, ret, getv, setv, gdW, lget, lset, cmpA, eqA, isA, isN, retQ, truthA, attrA, attrAt, handed, itemsW, seqOf, tupT, tgts, tgtN, nrm, veq, hi, isInst, List.lookup, isStr, strFn, hl, fnW, spec_conv, hx.2, hj]
    refine ⟨by decide +kernel, rfl, _, _, ⟨rfl, rfl⟩, hx.2, get_loop (x := x) hj (fun p hp => (hT.2 p hp).1) (fun fl σ' ho hm => ?_) L (fun p hp => (hT.2 p hp).1) rfl _ _⟩
    unfold getL at hQ
    split at hm
    · rename_i p hp
      rw [hp] at hQ
      subst hm
      rw [← ho] at hQ
      exact hQ
    · rename_i hp
      rw [hp] at hQ
      obtain ⟨rfl, a, b, hl⟩ := hm
      rw [← ho] at hQ
      simp only [hl, lget]
      exact hQ

noncomputable def fd_getitem : FuncData := (fdO 96).get (by decide +kernel)
theorem is_getitem : FnIs PG 96 fd_getitem (stmtsOf fd_getitem.body) ["self", "name"] ["self", "name"] := by
  refine ⟨fun q => fnAt_of (by kernel_rfl), fun q => by kernel_rfl, by kernel_rfl, by kernel_rfl, by kernel_rfl, by kernel_rfl, by kernel_rfl, by kernel_rfl, by kernel_rfl, ?_, ?_, ?_⟩ <;> decide +kernel
theorem ok_getitem : FnOK PG 3 96 2 [] spec_get1 := by
  refine fn_ok (full := fun vs _ => vs) is_getitem (b_cons (s_Return (r_Meth (r_Name (k := 0) (by kernel_rfl)) (meth_inst me_get) (rs_cons (r_Name (k := 1) (by kernel_rfl)) rs_nil) rk_nil (cal_fn ok_get1 (by decide)) (.inr fun q => by kernel_rfl))) b_nil) ?_ ?_
  · intro q s xs kxs X h1 h2
    obtain ⟨a, b, rfl⟩ := len2 h1
    obtain rfl := len0 h2
    exact ⟨[a, b], kp_binds X (fun _ => by kernel_rfl), fun g vs kvs rv rk => rv⟩
  · intro vs kvs objs Q h1 h2 h
    obtain ⟨i, j, L, x, rfl, ⟨hi, hj⟩, hT, hx, hQ⟩ := h
    rw [show initLoc ["self", "name"] ["self", "name"] [.inst C i, .str x] = [some (.inst C i), some (.str x)] from by kernel_rfl]
    simp [seqF, bnd, ret, getv, setv, gdW, lget, lset, cmpA, eqA, isA, isN, retQ, truthA, attrA, attrAt, handed, itemsW, seqOf, tupT, tgts, tgtN, nrm, veq, hi, isInst, List.lookup, fnW]
    exact ⟨by decide +kernel, rfl, i, j, L, x, rfl, ⟨hi, hj⟩, hT, hx, hQ⟩

noncomputable def fd_delitem : FuncData := (fdO 89).get (by decide +kernel)
theorem is_delitem : FnIs PG 89 fd_delitem (stmtsOf fd_delitem.body) ["self", "name"] ["self", "name"] := by
  refine ⟨fun q => fnAt_of (by kernel_rfl), fun q => by kernel_rfl, by kernel_rfl, by kernel_rfl, by kernel_rfl, by kernel_rfl, by kernel_rfl, by kernel_rfl, by kernel_rfl, ?_, ?_, ?_⟩ <;> decide +kernel
def spec_del : Spec := fun vs kvs objs Q => ∃ i j L x, vs = [.inst C i, .str x] ∧ TB objs i j (L.map prV) ∧ Tab L ∧ okK x ∧ Q .none (objs.set j (.list ((delL L x).map prV)))
theorem ok_delitem : FnOK PG 2 89 2 [] spec_del := by
  refine fn_ok (full := fun vs _ => vs) is_delitem (b_cons (s_Assign (k := 1) (r_Meth (r_Name (k := 0) (by kernel_rfl)) (meth_inst me_conv) (rs_cons (r_Meth (r_Name (k := 1) (by kernel_rfl)) (meth_str F.slot_str_lower F.type_str_lower) rs_nil rk_nil cal_lower keep_builtin) rs_nil) (rk_cons r_bool rk_nil) (cal_fn ok_conv (by decide)) (.inr fun q => by kernel_rfl)) (by kernel_rfl)) (b_cons (s_AssignT (r_ListComp (caps := [none, some 1]) ["kv", "name"] (i_seq (r_Attr (r_Name (k := 0) (by kernel_rfl)) at_headers)) (a_Name (k := 0) (by kernel_rfl)) (ts_one (t_Compare (r_Meth (r_Sub (r_Name (k := 0) (by kernel_rfl)) r_int) (meth_str F.slot_str_lower F.type_str_lower) rs_nil rk_nil cal_lower keep_builtin) (r_Name (k := 1) (by kernel_rfl)))) (r_Name (k := 0) (by kernel_rfl)) (by kernel_rfl)) (a_SliceAll (r_Attr (r_Name (k := 0) (by kernel_rfl)) at_headers))) b_nil)) ?_ ?_
  · intro q s xs kxs X h1 h2
    obtain ⟨a, b, rfl⟩ := len2 h1
    obtain rfl := len0 h2
    exact ⟨[a, b], kp_binds X (fun _ => by kernel_rfl), fun g vs kvs rv rk => rv⟩
  · intro vs kvs objs Q h1 h2 h
    obtain ⟨i, j, L, x, rfl, ⟨hi, hj⟩, hT, hx, hQ⟩ := h
    rw [show initLoc ["self", "name"] ["self", "name"] [.inst C i, .str x] = [some (.inst C i), some (.str x)] from by kernel_rfl]
    have hl := low_ok hx
    simp [seqF, bnd, ret, getv, setv, gdW, lget, lset, cmpA, eqA, isA, isN, retQ, truthA, attrA, attrAt, handed, itemsW, seqOf, tupT, tgts, tgtN, nrm, veq, hi, isInst, List.lookup, isStr, strFn, hl, fnW, spec_conv, hj, compW]
    refine ⟨by decide +kernel, rfl, _, _, ⟨rfl, rfl⟩, hx.2, by have := hT.1; rw [sizeLine_eq]; omega, ?_⟩
    refine compL_pure prV (fun p => !same x p) prV (fun σ => σ.objs = objs ∧ ∃ a, σ.loc = [a, some (.str (Txt.lower x))]) (fun σ h => by rw [h.1]; exact hj) (fun p hp σ Q' hJ hQ' => ?_) ⟨rfl, _, rfl⟩ fun σ' hJ => ?_
    · obtain ⟨ho, a, hl'⟩ := hJ
      have := low_ok (hT.2 p hp).1
      simp [seqF, bnd, ret, getv, setv, gdW, lget, lset, cmpA, eqA, isA, isN, retQ, truthA, attrA, attrAt, handed, itemsW, seqOf, tupT, tgts, tgtN, nrm, veq, hl', subA, idxL, prV, isStr, strFn, this]
      have hq := hQ' ⟨[some (prV p), some (.str (Txt.lower x))], σ.objs⟩ ⟨ho, _, rfl⟩
      by_cases h : Txt.lower p.1 = Txt.lower x
      · simpa [h, same, prV] using hq
      · simpa [h, same, prV] using hq
    · obtain ⟨ho, a, hl'⟩ := hJ
      simp [seqF, bnd, ret, getv, setv, gdW, lget, lset, cmpA, eqA, isA, isN, retQ, truthA, attrA, attrAt, handed, itemsW, seqOf, tupT, tgts, tgtN, nrm, veq, ho, hi, hj, lstW', sliceSetA]
      refine ⟨?_, by simpa [delL] using hQ⟩
      have := hT.1
      have : (List.filter (fun p => !same x p) L).length ≤ L.length := List.length_filter_le _ _
      rw [sizeLine_eq]; omega

noncomputable def fd_setitem : FuncData := (fdO 84).get (by decide +kernel)
theorem is_setitem : FnIs PG 84 fd_setitem (stmtsOf fd_setitem.body) ["self", "name", "val"] ["self", "name", "val"] := by
  refine ⟨fun q => fnAt_of (by kernel_rfl), fun q => by kernel_rfl, by kernel_rfl, by kernel_rfl, by kernel_rfl, by kernel_rfl, by kernel_rfl, by kernel_rfl, by kernel_rfl, ?_, ?_, ?_⟩ <;> decide +kernel
def spec_set : Spec := fun vs kvs objs Q => ∃ i j L x y, vs = [.inst C i, .str x, .str y] ∧ TB objs i j (L.map prV) ∧ Tab L ∧ okK x ∧ okV y ∧ Q .none (objs.set j (.list ((delL L x ++ [(x, y)]).map prV)))
theorem ok_setitem : FnOK PG 3 84 3 [] spec_set := by
  refine fn_ok (full := fun vs _ => vs) is_setitem (b_cons (s_DelInst (r_Name (k := 0) (by kernel_rfl)) (r_Name (k := 1) (by kernel_rfl)) sp_delitem ok_delitem (by decide)) (b_cons (s_Expr (r_Meth (r_Attr (r_Name (k := 0) (by kernel_rfl)) at_headers) (meth_lst F.slot_list_append F.type_list_append) (rs_cons (r_Tuple (rs_cons (r_Meth (r_Name (k := 0) (by kernel_rfl)) (meth_inst me_conv) (rs_cons (r_Name (k := 1) (by kernel_rfl)) rs_nil) (rk_cons r_bool rk_nil) (cal_fn ok_conv (by decide)) (.inr fun q => by kernel_rfl)) (rs_cons (r_Meth (r_Name (k := 0) (by kernel_rfl)) (meth_inst me_conv) (rs_cons (r_Name (k := 2) (by kernel_rfl)) rs_nil) (rk_cons r_bool rk_nil) (cal_fn ok_conv (by decide)) (.inr fun q => by kernel_rfl)) rs_nil))) rs_nil) rk_nil cal_append keep_builtin)) b_nil)) ?_ ?_
  · intro q s xs kxs X h1 h2
    obtain ⟨a, b, c, rfl⟩ := len3 h1
    obtain rfl := len0 h2
    exact ⟨[a, b, c], kp_binds X (fun _ => by kernel_rfl), fun g vs kvs rv rk => rv⟩
  · intro vs kvs objs Q h1 h2 h
    obtain ⟨i, j, L, x, y, rfl, hTB, hT, hx, hy, hQ⟩ := h
    rw [show initLoc ["self", "name", "val"] ["self", "name", "val"] [.inst C i, .str x, .str y] = [some (.inst C i), some (.str x), some (.str y)] from by kernel_rfl]
    simp [seqF, bnd, ret, getv, setv, gdW, lget, lset, cmpA, eqA, isA, isN, retQ, truthA, attrA, attrAt, handed, itemsW, seqOf, tupT, tgts, tgtN, nrm, veq, hTB.1, instW]
    refine ⟨i, j, L, x, rfl, hTB, hT, hx, ?_⟩
    have h2 := (hTB.set (l' := (delL L x).map prV))
    simp [seqF, bnd, ret, getv, setv, gdW, lget, lset, cmpA, eqA, isA, isN, retQ, truthA, attrA, attrAt, handed, itemsW, seqOf, tupT, tgts, tgtN, nrm, veq, h2.1, h2.2, isInst, List.lookup, isLst, fnW, spec_conv, tupW, appendA]
    have := hT.1
    have : (delL L x).length ≤ L.length := List.length_filter_le _ _
    refine ⟨by decide +kernel, rfl, _, _, ⟨rfl, rfl⟩, hx.1, by decide +kernel, rfl, _, _, ⟨rfl, rfl⟩, hy, by decide, by rw [sizeLine_eq]; omega, ?_⟩
    simpa [prV] using hQ

noncomputable def fd_len : FuncData := (fdO 77).get (by decide +kernel)
theorem is_len : FnIs PG 77 fd_len (stmtsOf fd_len.body) ["self"] ["self"] := by
  refine ⟨fun q => fnAt_of (by kernel_rfl), fun q => by kernel_rfl, by kernel_rfl, by kernel_rfl, by kernel_rfl, by kernel_rfl, by kernel_rfl, by kernel_rfl, by kernel_rfl, ?_, ?_, ?_⟩ <;> decide +kernel
def spec_len : Spec := fun vs kvs objs Q => ∃ i j, ∃ L : List (Str × Str), vs = [.inst C i] ∧ TB objs i j (L.map prV) ∧ L.length ≤ 1000 ∧ Q (.int L.length) objs
theorem ok_len : FnOK PG 1 77 1 [] spec_len := by
  refine fn_ok (full := fun vs _ => vs) is_len (b_cons (s_Return (r_Call (by kernel_rfl) (rs_cons (r_Attr (r_Name (k := 0) (by kernel_rfl)) at_headers) rs_nil) rk_nil cal_len keep_builtin)) b_nil) ?_ ?_
  · intro q s xs kxs X h1 h2
    obtain ⟨a, rfl⟩ := len1 h1
    obtain rfl := len0 h2
    exact ⟨[a], kp_binds X (fun _ => by kernel_rfl), fun g vs kvs rv rk => rv⟩
  · intro vs kvs objs Q h1 h2 h
    obtain ⟨i, j, L, rfl, ⟨hi, hj⟩, hL, hQ⟩ := h
    rw [show initLoc ["self"] ["self"] [.inst C i] = [some (.inst C i)] from by kernel_rfl]
    simp [seqF, bnd, ret, getv, setv, gdW, lget, lset, cmpA, eqA, isA, isN, retQ, truthA, attrA, attrAt, handed, itemsW, seqOf, tupT, tgts, tgtN, nrm, veq, hi, hj, lenA, List.lookup]
    exact ⟨by rw [sizeLine_eq]; omega, hQ⟩

noncomputable def fd_init : FuncData := (fdO 63).get (by decide +kernel)
theorem is_init : FnIs PG 63 fd_init (stmtsOf fd_init.body) ["self", "headers", "k", "v"] ["self", "headers"] := by
  refine ⟨fun q => fnAt_of (by kernel_rfl), fun q => by kernel_rfl, by kernel_rfl, by kernel_rfl, by kernel_rfl, by kernel_rfl, by kernel_rfl, by kernel_rfl, by kernel_rfl, ?_, ?_, ?_⟩ <;> decide +kernel
def spec_init1 : Spec := fun vs _ objs Q => ∃ i j L, vs = [.inst C i, .ref j] ∧ objs[i]? = some (.attrs []) ∧ lstAt objs j = some (L.map prV) ∧ Tab L ∧ Q .none (objs.set i (.attrs [("_headers", .ref j)]))
end Mine

namespace Mine
def newTab (objs : List O) (L : List (Str × Str)) : List O := objs ++ [.attrs [("_headers", .ref (objs.length + 1))], .list (L.map prV)]
theorem set_last {objs : List O} {a b : O} : (objs ++ [a]).set objs.length b = objs ++ [b] := by
  rw [List.set_append_right _ _ (Nat.le_refl _)]; simp
/-- Headers() -/
def spec_init0 : Spec := fun vs _ objs Q => ∃ i, vs = [.inst C i] ∧ objs[i]? = some (.attrs []) ∧ Q .none ((objs ++ [O.list []]).set i (.attrs [("_headers", .ref objs.length)]))
theorem ok_init0 : FnOK PG 2 63 1 [] spec_init0 := by
  refine fn_ok (full := fun vs _ => vs ++ [.none]) is_init (b_cons (s_Assign (k := 1) (r_IfExp (t_Compare (r_Name (k := 1) (by kernel_rfl)) r_none) (r_Name (k := 1) (by kernel_rfl)) (r_ListT rs_nil)) (by kernel_rfl)) (b_cons (s_If (t_Compare (r_Call (by kernel_rfl) (rs_cons (r_Name (k := 1) (by kernel_rfl)) rs_nil) rk_nil cal_type keep_type) (r_Glob (v := .type "list") (by kernel_rfl))) b_dead b_nil) (b_cons (s_AssignT (r_Name (k := 1) (by kernel_rfl)) (a_Attr (r_Name (k := 0) (by kernel_rfl)) se_headers)) (b_cons (s_If (t_plain r_bool) (b_cons (s_For (i_seq (r_Name (k := 1) (by kernel_rfl))) (a_Tuple (as_cons (a_Name (k := 2) (by kernel_rfl)) (as_cons (a_Name (k := 3) (by kernel_rfl)) as_nil))) (b_cons (s_Expr (r_Meth (r_Name (k := 0) (by kernel_rfl)) (meth_inst me_conv) (rs_cons (r_Name (k := 2) (by kernel_rfl)) rs_nil) (rk_cons r_bool rk_nil) (cal_fn ok_conv (by decide)) (.inr fun q => by kernel_rfl))) (b_cons (s_Expr (r_Meth (r_Name (k := 0) (by kernel_rfl)) (meth_inst me_conv) (rs_cons (r_Name (k := 3) (by kernel_rfl)) rs_nil) (rk_cons r_bool rk_nil) (cal_fn ok_conv (by decide)) (.inr fun q => by kernel_rfl))) b_nil))) b_nil) b_nil) b_nil)))) ?_ ?_
  · intro q s xs kxs X h1 h2
    obtain ⟨a, rfl⟩ := len1 h1
    obtain rfl := len0 h2
    exact ⟨[a, .none], kp_binds X (fun _ => by kernel_rfl), fun g vs kvs rv rk => rv.append (.one (by simp only [VR]))⟩
  · intro vs kvs objs Q h1 h2 h
    obtain ⟨i, rfl, hi, hQ⟩ := h
    rw [show initLoc ["self", "headers", "k", "v"] ["self", "headers"] ([.inst C i] ++ [.none]) = [some (.inst C i), some .none, none, none] from by kernel_rfl]
    have hlt := (List.getElem?_eq_some_iff.mp hi).1
    have hi' : (objs ++ [O.list []])[i]? = some (.attrs []) := by rw [List.getElem?_append_left hlt]; exact hi
    have hl : lstAt (objs ++ [O.list []]) objs.length = some [] := by simp [lstAt]
    have hl2 : lstAt ((objs ++ [O.list []]).set i (.attrs [("_headers", .ref objs.length)])) objs.length = some [] := by rw [lst_set_ne (by omega)]; exact hl
    simp [seqF, bnd, ret, getv, setv, gdW, lget, lset, cmpA, eqA, isA, isN, retQ, truthA, attrA, attrAt, handed, itemsW, seqOf, tupT, tgts, tgtN, nrm, veq, typeA, setAttrA, refW, hi', hl, hl2, forL]
    exact hQ
end Mine

open PySem PySem.W PyProof.Rows PySem.Calls
set_option Elab.async false
set_option maxRecDepth 100000
set_option maxHeartbeats 4000000
set_option linter.unusedVariables false
set_option linter.unusedSimpArgs false

namespace Mine
abbrev PS := Str × Str
def tabO (objs : List O) (L : List PS) : List O := objs ++ [.list (L.map prV), .attrs [("_headers", .ref objs.length)]]
theorem tb_new (objs : List O) (L : List PS) : TB (tabO objs L) (objs.length + 1) objs.length (L.map prV) := by
  unfold tabO
  refine ⟨?_, ?_⟩
  · rw [List.getElem?_append_right (by omega)]; simp
  · unfold lstAt; rw [List.getElem?_append_right (by omega)]; simp
theorem set_new (objs : List O) (L M : List PS) : (tabO objs L).set objs.length (.list (M.map prV)) = tabO objs M := by
  unfold tabO
  rw [List.set_append_right _ _ (Nat.le_refl _)]; simp
theorem tb_keep {objs more : List O} {i j : Nat} {l : List V} (h : TB objs i j l) : TB (objs ++ more) i j l := by
  refine ⟨?_, ?_⟩
  · rw [List.getElem?_append_left (List.getElem?_eq_some_iff.mp h.1).1]; exact h.1
  · have := h.2
    unfold lstAt at this ⊢
    split at this
    · rename_i l' e
      rw [List.getElem?_append_left (List.getElem?_eq_some_iff.mp e).1, e]; exact this
    · cases this
def Ext (O₁ O₂ : List O) : Prop := ∃ m, O₂ = O₁ ++ m
theorem Ext.refl (O₁ : List O) : Ext O₁ O₁ := ⟨[], by simp⟩
theorem Ext.trans {a b c : List O} : Ext a b → Ext b c → Ext a c := fun ⟨m, h⟩ ⟨n, h'⟩ => ⟨m ++ n, by rw [h', h, List.append_assoc]⟩
theorem ext_tab (objs : List O) (L : List PS) : Ext objs (tabO objs L) := ⟨_, rfl⟩
theorem Ext.tb {a b : List O} (h : Ext a b) {i j : Nat} {l : List V} (t : TB a i j l) : TB b i j l := by
  obtain ⟨m, rfl⟩ := h; exact tb_keep t
theorem Ext.lst {a b : List O} (h : Ext a b) {j : Nat} {l : List V} (t : lstAt a j = some l) : lstAt b j = some l := by
  obtain ⟨m, rfl⟩ := h
  unfold lstAt at t ⊢
  split at t
  · rename_i l' e
    rw [List.getElem?_append_left (List.getElem?_eq_some_iff.mp e).1, e]; exact t
  · cases t
def tab0 (objs : List O) : List O := objs ++ [.attrs [("_headers", .ref (objs.length + 1))], .list []]
theorem init0_eq (objs : List O) : (objs ++ [O.attrs []] ++ [O.list []]).set objs.length (.attrs [("_headers", .ref (objs ++ [O.attrs []]).length)]) = tab0 objs := by
  rw [List.append_assoc, List.set_append_right _ _ (Nat.le_refl _)]; simp [tab0]
theorem ext_0 (objs : List O) : Ext objs (tab0 objs) := ⟨_, rfl⟩
theorem tb_0 (objs : List O) : TB (tab0 objs) objs.length (objs.length + 1) [] := by
  unfold tab0
  refine ⟨?_, ?_⟩
  · rw [List.getElem?_append_right (by omega)]; simp
  · unfold lstAt; rw [List.getElem?_append_right (by omega)]; simp
theorem noKey {i j : Nat} {objs : List O} {l : List V} {x : Str} {loc : List (Option V)} (h : TB objs i j l) (hx : (x == ("_headers" : Str)) = false) : isInst C x (.inst C i) ⟨loc, objs⟩ :=
  ⟨rfl, _, h.1, by simp only [List.lookup_cons, hx]; rfl⟩
end Mine
namespace Mine
theorem init1_eq (objs : List O) (L : List PS) : ((objs ++ [O.list (L.map prV)]) ++ [O.attrs []]).set (objs ++ [O.list (L.map prV)]).length (.attrs [("_headers", .ref objs.length)]) = tabO objs L := by
  rw [List.set_append_right _ _ (Nat.le_refl _), Nat.sub_self, List.set_cons_zero, List.append_assoc]; rfl
/-- Headers([..]) of a new list -/
theorem new1 {loc : List (Option V)} {objs : List O} {L : List PS} {Q : V → St → Prop} (hL : Tab L) (h : Q (.inst C (objs.length + 1)) ⟨loc, tabO objs L⟩) :
    newW C 2 0 spec_init1 [.ref objs.length] [] Q ⟨loc, objs ++ [O.list (L.map prV)]⟩ := by
  refine newW_i rfl rfl ⟨(objs ++ [O.list (L.map prV)]).length, objs.length, L, rfl, by simp, by simp [lstAt], hL, rfl, ?_⟩
  rw [init1_eq, show (objs ++ [O.list (L.map prV)]).length = objs.length + 1 by simp]
  exact h
theorem new0 {loc : List (Option V)} {objs : List O} {Q : V → St → Prop} (h : Q (.inst C objs.length) ⟨loc, tab0 objs⟩) (spec : Spec) (hs : ∀ vs kvs o Q', (∃ i, vs = [.inst C i] ∧ o[i]? = some (.attrs []) ∧ Q' .none ((o ++ [O.list []]).set i (.attrs [("_headers", .ref o.length)]))) → spec vs kvs o Q') :
    newW C 1 0 spec [] [] Q ⟨loc, objs⟩ := by
  refine newW_i rfl rfl (hs _ _ _ _ ⟨objs.length, rfl, by simp, rfl, ?_⟩)
  rw [init0_eq]; exact h
end Mine

namespace Mine
theorem enumV_map {α : Type} (f : α → V) : ∀ (l : List α) (k : Nat), enumV k (l.map f) = (l.zipIdx k).map fun p => .tup [.int ((p.2 : Nat) : Int), f p.1]
  | [], _ => rfl
  | a :: l, k => by rw [List.map_cons, enumV, enumV_map f l (k + 1), List.zipIdx_cons, List.map_cons]
theorem zipIdx_at {α : Type} {l : List α} {d r : List (α × Nat)} {a : α × Nat} (h : d ++ a :: r = l.zipIdx) : a.2 = d.length ∧ d.length < l.length := by
  have hlen := congrArg List.length h
  simp at hlen
  have h1 : (l.zipIdx)[d.length]? = some a := by rw [← h, List.getElem?_append_right (Nat.le_refl _)]; simp
  rw [List.getElem?_zipIdx] at h1
  obtain ⟨x, hx, rfl⟩ := Option.map_eq_some_iff.mp h1
  exact ⟨by simp, by omega⟩
def Same (ks : List Nat) (a b : List O) : Prop := a.length ≤ b.length ∧ ∀ k, k < a.length → k ∉ ks → b[k]? = a[k]?
theorem Same.refl (a : List O) : Same [] a a := ⟨Nat.le_refl _, fun _ _ _ => rfl⟩
theorem Same.set (a : List O) (k : Nat) (o : O) : Same [k] a (a.set k o) := ⟨by simp, fun i hi hk => by rw [List.getElem?_set_ne]; intro e; exact hk (by simp [e])⟩
theorem Same.app (a m : List O) : Same [] a (a ++ m) := ⟨by simp, fun i hi _ => List.getElem?_append_left hi⟩
theorem Same.trans {ks ks' : List Nat} {a b c : List O} (h : Same ks a b) (h' : Same ks' b c) : Same (ks ++ ks') a c :=
  ⟨Nat.le_trans h.1 h'.1, fun k hk hn => by
    rw [h'.2 k (Nat.lt_of_lt_of_le hk h.1) (fun e => hn (List.mem_append_right _ e)), h.2 k hk (fun e => hn (List.mem_append_left _ e))]⟩
theorem lst_lt {objs : List O} {j : Nat} {l : List V} (h : lstAt objs j = some l) : j < objs.length := (List.getElem?_eq_some_iff.mp (lstAt_some h)).1
theorem Same.lst {ks : List Nat} {a b : List O} (h : Same ks a b) {j : Nat} {l : List V} (hj : lstAt a j = some l) (hn : j ∉ ks) : lstAt b j = some l := by
  unfold lstAt; rw [h.2 j (lst_lt hj) hn]; exact hj
theorem Same.tb {ks : List Nat} {a b : List O} (h : Same ks a b) {i j : Nat} {l : List V} (t : TB a i j l) (hk : ∀ k ∈ ks, ∃ m, lstAt a k = some m) (hn : j ∉ ks) : TB b i j l := by
  refine ⟨?_, h.lst t.2 hn⟩
  rw [h.2 i (List.getElem?_eq_some_iff.mp t.1).1 (fun e => ?_)]
  · exact t.1
  · obtain ⟨m, hm⟩ := hk i e
    have := lstAt_some hm
    rw [t.1] at this; cases this
theorem lst_app {objs m : List O} {j : Nat} {l : List V} (h : lstAt objs j = some l) : lstAt (objs ++ m) j = some l := (Ext.lst ⟨m, rfl⟩ h)
theorem lst_new {objs : List O} {l : List V} : lstAt (objs ++ [.list l]) objs.length = some l := by simp [lstAt]
theorem lt_big {i : Int} (h : i.natAbs ≤ 1000) : i.natAbs < 2 ^ 1000 := by
  have : ((2 : Nat) ^ 1000) = 2 ^ 10 * 2 ^ 990 := by rw [← Nat.pow_add]
  have h2 : 1 ≤ (2 : Nat) ^ 990 := Nat.one_le_two_pow
  rw [this]; omega
theorem fmod_nat (n : Int) (k : Nat) (hk : 0 < k) : ∃ r : Nat, n.fmod (k : Int) = (r : Int) ∧ r < k := by
  have h0 := Int.fmod_nonneg_of_pos n (show (0 : Int) < k by omega)
  have h1 := Int.fmod_lt_of_pos n (show (0 : Int) < k by omega)
  exact ⟨(n.fmod k).toNat, by omega, by omega⟩
theorem val_if {b c : Int} {f g : W V} {Q : V → St → Prop} {σ : St} {p : Str → Prop} (hf : ∃ y, p y ∧ ∀ Q, Q (.str y) σ → f Q σ) (hg : ∃ y, p y ∧ ∀ Q, Q (.str y) σ → g Q σ) (h : ∀ y, p y → Q (.str y) σ) :
    cmpA .Eq (.int b) (.int c) (fun a σ' => (if a = true then f else g) Q σ') σ := by
  refine eq_i (fun _ => ?_) (fun _ => ?_)
  · obtain ⟨y, hy, h'⟩ := hf; exact h' Q (h y hy)
  · obtain ⟨y, hy, h'⟩ := hg; exact h' Q (h y hy)
end Mine

namespace Mine
/-! ## names of a place and a rest -/
def upIf (b : Bool) (c : Nat) : Nat := if b then up1 c else c
def nm (k r : Nat) (sp : Nat) : List Nat := [upIf (sp % 2 == 1) (97 + k), upIf (sp / 2 == 1) (114 + r)]
def low (x : List Nat) : List Nat := x.map lo1
def okC (x : List Nat) : Prop := ∀ a ∈ x, 32 ≤ a ∧ a < 127
theorem nm_facts : ∀ k < 7, ∀ r < 8, ∀ b c : Bool, (∀ a ∈ [upIf b (97 + k), upIf c (114 + r)], 32 ≤ a ∧ a < 127) ∧ low [upIf b (97 + k), upIf c (114 + r)] = [97 + k, 114 + r] := by decide +kernel
theorem nm_ok {k r : Nat} (hk : k < 7) (hr : r < 8) (sp : Nat) : okC (nm k r sp) := (nm_facts k hk r hr _ _).1
theorem nm_low {k r : Nat} (hk : k < 7) (hr : r < 8) (sp : Nat) : low (nm k r sp) = [97 + k, 114 + r] := (nm_facts k hk r hr _ _).2
theorem low_eq {x : List Nat} (h : okC x) : Txt.lower (S x) = S (low x) := lower_S fun c hc => by have := h c hc; omega
theorem nm_lower {k r : Nat} (hk : k < 7) (hr : r < 8) (sp : Nat) : Txt.lower (S (nm k r sp)) = S [97 + k, 114 + r] := by rw [low_eq (nm_ok hk hr sp), nm_low hk hr]
theorem nm_okK {k r : Nat} (hk : k < 7) (hr : r < 8) (sp : Nat) : okK (S (nm k r sp)) := okK_S (show 2 ≤ 100000 by decide) (nm_ok hk hr sp)
theorem nm_same {k r k' r' : Nat} (hk : k < 7) (hr : r < 8) (hk' : k' < 7) (hr' : r' < 8) (sp sp' : Nat) (v : Str) : same (S (nm k r sp)) (S (nm k' r' sp'), v) = decide ((k', r') = (k, r)) := by
  unfold same
  rw [nm_lower hk hr, nm_lower hk' hr', S_beq]
  apply decide_eq_decide.mpr
  constructor
  · intro h
    injection h with h1 h2
    injection h2 with h2 _
    exact Prod.ext (by show k' = k; omega) (by show r' = r; omega)
  · intro h; injection h with h1 h2; rw [h1, h2]
/-! ## the ways -/
def cnt : List Nat → Nat → Nat
  | [], r => if r = 0 then 1 else 0
  | w :: ws, r => cnt ws r + (if w ≤ r then cnt ws (r - w) else 0)
theorem cnt_le : ∀ (ws : List Nat) (r : Nat), cnt ws r ≤ 2 ^ ws.length
  | [], r => by unfold cnt; split <;> simp
  | w :: ws, r => by
    unfold cnt
    have h1 := cnt_le ws r
    have h2 := cnt_le ws (r - w)
    rw [List.length_cons, Nat.pow_succ]
    split <;> omega
def str (c : Nat) : Str := S (List.replicate c 105)
theorem str_add (a b : Nat) : str a ++ str b = str (a + b) := by unfold str; rw [S_app, List.replicate_append_replicate]
theorem str_okV {c : Nat} (h : c ≤ 1000) : okV (str c) := okV_S (by simp; omega) fun x hx => by
  have := List.eq_of_mem_replicate hx
  subst this
  exact .inl (by decide)
theorem mul_str : ∀ c ≤ 40, Txt.mul (Str.ofString "i") ((c : Nat) : Int) = str c := by decide +kernel
theorem mul_ok : ∀ c ≤ 40, MulOk (Str.ofString "i") ((c : Nat) : Int) := by
  intro c hc
  unfold MulOk
  have hl : (Str.ofString "i").length = 1 := rfl
  have h1 : ¬ ((c : Nat) : Int) < -(2 ^ 63 : Int) := by omega
  have h2 : ¬ ((c : Nat) : Int) ≥ (2 ^ 63 : Int) := by omega
  refine ⟨by simp [h1]; omega, fun h3 _ => ?_, fun _ _ => ?_⟩
  · rw [hl]
    have : (1 : Int) ≤ (2 ^ 63 - 1) / ((c : Nat) : Int) := by
      rw [Int.le_ediv_iff_mul_le (by omega)]; omega
    omega
  · rw [hl]
    have key : ∀ c ≤ 40, Builtin.Str.tooLong (1 * c) = false := by decide +kernel
    have := key c hc
    simpa using this
abbrev NN := Nat × Nat
inductive Rch (W : List Nat) : NN → NN → Prop
  | refl (x : NN) : Rch W x x
  | same {k r : Nat} {x : NN} : k < W.length → Rch W (k + 1, r) x → Rch W (k, r) x
  | less {k r : Nat} {x : NN} : k < W.length → W.getD k 0 ≤ r → Rch W (k + 1, r - W.getD k 0) x → Rch W (k, r) x
theorem Rch.le {W : List Nat} {a x : NN} (h : Rch W a x) : a.1 ≤ x.1 ∧ x.2 ≤ a.2 ∧ (a.1 ≤ W.length → x.1 ≤ W.length) := by
  induction h with
  | refl x => exact ⟨Nat.le_refl _, Nat.le_refl _, fun h => h⟩
  | same hk _ ih => simp at ih ⊢; omega
  | less hk hr _ ih => simp at ih ⊢; omega
def Closed (W : List Nat) (P : List NN) : Prop := ∀ k r, (k, r) ∈ P → k < W.length → (k + 1, r) ∈ P ∧ (W.getD k 0 ≤ r → (k + 1, r - W.getD k 0) ∈ P)
def inB (W : List Nat) (x : NN) : Prop := x.1 ≤ W.length ∧ x.2 < 8
def pr (W : List Nat) (x : NN) : PS := (S (nm x.1 x.2 ((x.1 + x.2 + 1) % 4)), str (cnt (W.drop x.1) x.2))
def tabP (W : List Nat) (P : List NN) : List PS := P.map (pr W)
theorem cnt_small {W : List Nat} (hW : W.length ≤ 5) (k r : Nat) : cnt (W.drop k) r ≤ 32 := by
  have h1 := cnt_le (W.drop k) r
  have h2 : (W.drop k).length ≤ 5 := by simp; omega
  have h3 : 2 ^ (W.drop k).length ≤ 2 ^ 5 := Nat.pow_le_pow_right (by decide) h2
  omega
theorem tabP_find {W : List Nat} (hW : W.length ≤ 5) {k r : Nat} (hk : k < 7) (hr : r < 8) (sp : Nat) : ∀ (P : List NN), (∀ x ∈ P, inB W x) → (tabP W P).find? (same (S (nm k r sp))) = if (k, r) ∈ P then some (pr W (k, r)) else none
  | [], _ => by simp [tabP]
  | x :: P, h => by
    have hx := h x (.head _)
    have ih := tabP_find hW hk hr sp P fun y hy => h y (.tail _ hy)
    have hs : same (S (nm k r sp)) (pr W x) = decide (x = (k, r)) := nm_same hk hr (by have := hx.1; omega) hx.2 sp _ _
    unfold tabP at ih ⊢
    by_cases e : x = (k, r)
    · subst e
      rw [List.map_cons, List.find?_cons_of_pos (by rw [hs]; simp), if_pos (.head _)]
    · rw [List.map_cons, List.find?_cons_of_neg (by rw [hs]; simp [e]), ih]
      have : (k, r) ∈ x :: P ↔ (k, r) ∈ P := by
        rw [List.mem_cons]
        constructor
        · rintro (h | h)
          · exact absurd h.symm e
          · exact h
        · exact .inr
      simp [this]
theorem tabP_get {W : List Nat} (hW : W.length ≤ 5) {k r : Nat} (hk : k < 7) (hr : r < 8) (sp : Nat) {P : List NN} (h : ∀ x ∈ P, inB W x) : getL (tabP W P) (S (nm k r sp)) = if (k, r) ∈ P then .str (str (cnt (W.drop k) r)) else .none := by
  unfold getL
  rw [tabP_find hW hk hr sp P h]
  by_cases e : (k, r) ∈ P
  · rw [if_pos e, if_pos e]; rfl
  · rw [if_neg e, if_neg e]
theorem nodup_le : ∀ (n : Nat) (l : List Nat), l.Nodup → (∀ x ∈ l, x < n) → l.length ≤ n
  | 0, l, _, h => by
    cases l with
    | nil => exact Nat.le_refl _
    | cons a l => exact absurd (h a (.head _)) (Nat.not_lt_zero _)
  | n + 1, l, hd, h => by
    have h1 := nodup_le n (l.erase n) (hd.erase n) fun x hx => by
      have hx' := (hd.mem_erase_iff).mp hx
      have := h x hx'.2
      have := hx'.1
      omega
    have h2 : l.length ≤ (l.erase n).length + 1 := by
      rw [List.length_erase]; split <;> omega
    omega
theorem len_48 {W : List Nat} (hW : W.length ≤ 5) {P : List NN} (hn : P.Nodup) (h : ∀ x ∈ P, inB W x) : P.length ≤ 48 := by
  have := nodup_le 48 (P.map fun x => 8 * x.1 + x.2) (by
    rw [List.Nodup, List.pairwise_map]
    refine List.Pairwise.imp_of_mem (fun {a b} ha hb hab e => hab ?_) hn
    have h1 := h a ha
    have h2 := h b hb
    have := h1.2
    have := h2.2
    exact Prod.ext (by omega) (by omega)) (fun y hy => by
    obtain ⟨x, hx, rfl⟩ := List.mem_map.mp hy
    have h1 := h x hx
    have := h1.1
    have := h1.2
    omega)
  simpa using this
theorem tabP_tab {W : List Nat} (hW : W.length ≤ 5) {P : List NN} (hn : P.Nodup) (h : ∀ x ∈ P, inB W x) : Tab (tabP W P) := by
  refine ⟨by have := len_48 hW hn h; simp [tabP]; omega, fun q hq => ?_⟩
  obtain ⟨x, hx, rfl⟩ := List.mem_map.mp hq
  have h1 := h x hx
  exact ⟨nm_okK (by have := h1.1; omega) h1.2 _, str_okV (by have := cnt_small hW x.1 x.2; omega)⟩
theorem tabP_del {W : List Nat} (hW : W.length ≤ 5) {k r : Nat} (hk : k < 7) (hr : r < 8) (sp : Nat) {P : List NN} (h : ∀ x ∈ P, inB W x) (hno : (k, r) ∉ P) : delL (tabP W P) (S (nm k r sp)) = tabP W P := by
  unfold delL
  have := tabP_find hW hk hr sp P h
  rw [if_neg hno, List.find?_eq_none] at this
  rw [List.filter_eq_self]
  intro q hq
  have := this q hq
  simpa using this
/-! ## the levels -/
def addN (l : List Nat) (x : Nat) : List Nat := if x ∈ l then l else l ++ [x]
def stepL (w : Nat) (acc : List Nat) (r : Nat) : List Nat := if w ≤ r then addN (addN acc r) (r - w) else addN acc r
def nextL (w : Nat) (l : List Nat) : List Nat := l.foldl (stepL w) []
def lev (W : List Nat) (T : Nat) : Nat → List Nat
  | 0 => [T]
  | k + 1 => nextL (W.getD k 0) (lev W T k)
def fnd (W : List Nat) (T : Nat) (k : Nat) : List NN := (List.range k).flatMap fun i => (lev W T i).map fun r => (i, r)
theorem addN_mem {l : List Nat} {x y : Nat} : y ∈ addN l x ↔ y ∈ l ∨ y = x := by
  unfold addN
  split
  · rename_i h
    exact ⟨.inl, fun h' => h'.elim id (fun e => e ▸ h)⟩
  · simp
theorem addN_nodup {l : List Nat} {x : Nat} (h : l.Nodup) : (addN l x).Nodup := by
  unfold addN
  split
  · exact h
  · rename_i hx
    rw [List.nodup_append]
    exact ⟨h, by simp, fun a ha b hb e => hx (by rw [List.mem_singleton.mp hb] at e; exact e ▸ ha)⟩
theorem stepL_mem {w : Nat} {acc : List Nat} {r y : Nat} : y ∈ stepL w acc r ↔ y ∈ acc ∨ y = r ∨ (w ≤ r ∧ y = r - w) := by
  unfold stepL
  split
  · rename_i h
    rw [addN_mem, addN_mem]
    constructor
    · rintro ((h1 | h1) | h1)
      · exact .inl h1
      · exact .inr (.inl h1)
      · exact .inr (.inr ⟨h, h1⟩)
    · rintro (h1 | h1 | h1)
      · exact .inl (.inl h1)
      · exact .inl (.inr h1)
      · exact .inr h1.2
  · rename_i h
    rw [addN_mem]
    constructor
    · rintro (h1 | h1)
      · exact .inl h1
      · exact .inr (.inl h1)
    · rintro (h1 | h1 | h1)
      · exact .inl h1
      · exact .inr h1
      · exact absurd h1.1 h
theorem stepL_nodup {w : Nat} {acc : List Nat} {r : Nat} (h : acc.Nodup) : (stepL w acc r).Nodup := by
  unfold stepL; split
  · exact addN_nodup (addN_nodup h)
  · exact addN_nodup h
theorem fold_mem {w y : Nat} : ∀ (l acc : List Nat), y ∈ l.foldl (stepL w) acc ↔ y ∈ acc ∨ ∃ r ∈ l, y = r ∨ (w ≤ r ∧ y = r - w)
  | [], acc => by simp
  | r :: l, acc => by
    rw [List.foldl_cons, fold_mem l, stepL_mem]
    simp only [List.mem_cons, exists_eq_or_imp]
    rw [or_assoc]
theorem fold_nodup {w : Nat} : ∀ (l acc : List Nat), acc.Nodup → (l.foldl (stepL w) acc).Nodup
  | [], acc, h => h
  | r :: l, acc, h => fold_nodup l _ (stepL_nodup h)
theorem lev_nodup (W : List Nat) (T : Nat) : ∀ k, (lev W T k).Nodup
  | 0 => by simp [lev]
  | k + 1 => fold_nodup _ _ List.nodup_nil
theorem lev_le (W : List Nat) (T : Nat) : ∀ k, ∀ r ∈ lev W T k, r ≤ T
  | 0, r, h => by simp [lev] at h; omega
  | k + 1, r, h => by
    rw [lev, nextL, fold_mem] at h
    rcases h with h | ⟨q, hq, h⟩
    · cases h
    · have := lev_le W T k q hq
      omega
theorem lev_step {W : List Nat} {T k r : Nat} (h : r ∈ lev W T k) : r ∈ lev W T (k + 1) ∧ (W.getD k 0 ≤ r → r - W.getD k 0 ∈ lev W T (k + 1)) := by
  constructor
  · rw [lev, nextL, fold_mem]; exact .inr ⟨r, h, .inl rfl⟩
  · intro hw; rw [lev, nextL, fold_mem]; exact .inr ⟨r, h, .inr ⟨hw, rfl⟩⟩
theorem fnd_mem {W : List Nat} {T k : Nat} {x : NN} : x ∈ fnd W T k ↔ x.1 < k ∧ x.2 ∈ lev W T x.1 := by
  unfold fnd
  rw [List.mem_flatMap]
  constructor
  · rintro ⟨i, hi, h⟩
    obtain ⟨r, hr, rfl⟩ := List.mem_map.mp h
    exact ⟨List.mem_range.mp hi, hr⟩
  · rintro ⟨h1, h2⟩
    exact ⟨x.1, List.mem_range.mpr h1, List.mem_map.mpr ⟨x.2, h2, rfl⟩⟩
theorem fnd_succ (W : List Nat) (T k : Nat) : fnd W T (k + 1) = fnd W T k ++ (lev W T k).map fun r => (k, r) := by
  unfold fnd; rw [List.range_succ, List.flatMap_append]; simp
theorem fnd_nodup (W : List Nat) (T : Nat) : ∀ k, (fnd W T k).Nodup
  | 0 => by simp [fnd]
  | k + 1 => by
    rw [fnd_succ, List.nodup_append]
    refine ⟨fnd_nodup W T k, ?_, fun a ha b hb e => ?_⟩
    · rw [List.Nodup, List.pairwise_map]
      exact List.Pairwise.imp (fun h e => h (by injection e)) (lev_nodup W T k)
    · subst e
      have h1 := (fnd_mem.mp ha).1
      obtain ⟨r, _, rfl⟩ := List.mem_map.mp hb
      simp at h1
theorem rch_lev {W : List Nat} {T : Nat} {a x : NN} (h : Rch W a x) : a.2 ∈ lev W T a.1 → x.2 ∈ lev W T x.1 := by
  induction h with
  | refl x => exact fun h => h
  | same hk _ ih => exact fun h => ih (lev_step h).1
  | less hk hr _ ih => exact fun h => ih ((lev_step h).2 hr)
theorem lev_closed {W : List Nat} {T : Nat} {P : List NN} (hc : Closed W P) (h0 : (0, T) ∈ P) : ∀ k, k ≤ W.length → ∀ r ∈ lev W T k, (k, r) ∈ P
  | 0, _, r, h => by simp [lev] at h; subst h; exact h0
  | k + 1, hk, r, h => by
    rw [lev, nextL, fold_mem] at h
    rcases h with h | ⟨q, hq, h⟩
    · cases h
    · have := hc k q (lev_closed hc h0 k (by omega) q hq) (by omega)
      rcases h with rfl | ⟨hw, rfl⟩
      · exact this.1
      · exact this.2 hw
theorem all_perm {W : List Nat} {T : Nat} {P : List NN} (hn : P.Nodup) (hc : Closed W P) (h0 : (0, T) ∈ P) (hr : ∀ x ∈ P, Rch W (0, T) x) : P.Perm (fnd W T (W.length + 1)) := by
  refine (List.perm_ext_iff_of_nodup hn (fnd_nodup W T _)).mpr fun x => ?_
  rw [fnd_mem]
  constructor
  · intro hx
    have h := hr x hx
    exact ⟨by have := h.le.2.2 (Nat.zero_le _); omega, rch_lev h (by simp [lev])⟩
  · rintro ⟨h1, h2⟩
    have := lev_closed hc h0 x.1 (by omega) x.2 h2
    exact this
end Mine

namespace Mine
theorem len5 {α : Type} {l : List α} (h : l.length = 5) : ∃ a b c d e, l = [a, b, c, d, e] := by
  match l, h with
  | [a, b, c, d, e], _ => exact ⟨a, b, c, d, e, rfl⟩
noncomputable def fd_law_name : FuncData := (fdO 182).get (by decide +kernel)
theorem is_law_name : FnIs PG 182 fd_law_name (stmtsOf fd_law_name.body) ["place", "rest", "spelling", "first", "second"] ["place", "rest", "spelling"] := by
  refine ⟨fun q => fnAt_of (by kernel_rfl), fun q => by kernel_rfl, by kernel_rfl, by kernel_rfl, by kernel_rfl, by kernel_rfl, by kernel_rfl, by kernel_rfl, by kernel_rfl, ?_, ?_, ?_⟩ <;> decide +kernel
def spec_name : Spec := fun vs kvs objs Q => ∃ k r sp : Nat, vs = [.int k, .int r, .int sp] ∧ k < 7 ∧ r < 8 ∧ Q (.str (S (nm k r sp))) objs
theorem item7 : ∀ k < 7, Txt.item (Str.ofString "abcdefg") ((k : Nat) : Int) = S [97 + k] ∧ (Txt.charAt (Str.ofString "abcdefg") ((k : Nat) : Int)).isSome = true := by decide +kernel
theorem item8 : ∀ k < 8, Txt.item (Str.ofString "rstuvwxy") ((k : Nat) : Int) = S [114 + k] ∧ (Txt.charAt (Str.ofString "rstuvwxy") ((k : Nat) : Int)).isSome = true := by decide +kernel
theorem up_one {c : Nat} (h : c < 128) : Txt.upper (S [c]) = S [up1 c] := upper_S fun a ha => by rw [List.mem_singleton.mp ha]; exact h
theorem ok_law_name : FnOK PG 1 182 3 [] spec_name := by
  refine fn_ok (full := fun vs _ => vs) is_law_name (b_cons (s_Assign (k := 3) (r_Sub r_str (r_Name (k := 0) (by kernel_rfl))) (by kernel_rfl)) (b_cons (s_Assign (k := 4) (r_Sub r_str (r_Name (k := 1) (by kernel_rfl))) (by kernel_rfl)) (b_cons (s_If (t_Compare (r_BinOp (r_Name (k := 2) (by kernel_rfl)) r_int) r_int) (b_cons (s_Assign (k := 3) (r_Meth (r_Name (k := 3) (by kernel_rfl)) (meth_str F.slot_str_upper F.type_str_upper) rs_nil rk_nil cal_upper keep_builtin) (by kernel_rfl)) b_nil) b_nil) (b_cons (s_If (t_Compare (r_BinOp (r_Name (k := 2) (by kernel_rfl)) r_int) r_int) (b_cons (s_Assign (k := 4) (r_Meth (r_Name (k := 4) (by kernel_rfl)) (meth_str F.slot_str_upper F.type_str_upper) rs_nil rk_nil cal_upper keep_builtin) (by kernel_rfl)) b_nil) b_nil) (b_cons (s_Return (r_BinOp (r_Name (k := 3) (by kernel_rfl)) (r_Name (k := 4) (by kernel_rfl)))) b_nil))))) ?_ ?_
  · intro q s xs kxs X h1 h2
    obtain ⟨a, b, c, rfl⟩ := len3 h1
    obtain rfl := len0 h2
    exact ⟨[a, b, c], kp_binds X (fun _ => by kernel_rfl), fun g vs kvs rv rk => rv⟩
  · intro vs kvs objs Q h1 h2 h
    obtain ⟨k, r, sp, rfl, hk, hr, hQ⟩ := h
    rw [show initLoc ["place", "rest", "spelling", "first", "second"] ["place", "rest", "spelling"] [.int k, .int r, .int sp] = [some (.int k), some (.int r), some (.int sp), none, none] from by kernel_rfl]
    have e1 : ((sp : Int)).fmod 2 = ((sp % 2 : Nat) : Int) := by rw [Int.fmod_eq_emod_of_nonneg _ (by decide)]; omega
    have e2 : ((sp : Int)).fdiv 2 = ((sp / 2 : Nat) : Int) := by rw [Int.fdiv_eq_ediv_of_nonneg _ (by decide)]; omega
    have hz : 100000 ≤ sizeLine := by decide
    refine seqF_of (fun σ => σ = ⟨[some (.int k), some (.int r), some (.int sp), some (.str (S [97 + k])), none], objs⟩) (fun K hK => ?_) ?_
    · (repeat (first | with_reducible refine bnd_i ?_ | with_reducible refine ret_i ?_ | with_reducible refine getv_i (by with_unfolding_all rfl) ?_ | with_reducible refine setv_i (by with_unfolding_all rfl) (by simp only [lset]; rfl) ?_ | with_reducible refine seqF_i ?_ | with_reducible refine boolV_i ?_ | with_reducible refine tup_tgt (by with_unfolding_all rfl) ?_ | with_reducible refine tgts_i ?_ | with_reducible refine tgtN_i ?_ | with_reducible refine add_i ?_ | with_reducible refine sub_i ?_ | with_reducible refine neg_i ?_ | with_reducible refine aadd_i ?_ | with_reducible refine asub_i ?_ | with_reducible refine mod_i (by decide) ?_ | with_reducible refine div_i (by decide) ?_ | with_reducible refine int_i ?_ | with_reducible refine lst_i' ?_ | with_reducible refine itm_s ?_ | with_reducible refine itm_t ?_ | with_reducible refine comp_i ?_ | with_reducible refine tr_b ?_ | with_reducible refine tr_n ?_ | with_reducible refine is_n ?_ | with_reducible refine isnt_n ?_ | with_reducible refine if_t (by with_unfolding_all rfl) ?_ | with_reducible refine if_f (by with_unfolding_all rfl) ?_ | with_reducible refine fnW_i (by with_unfolding_all rfl) (by with_unfolding_all rfl) ?_ | with_reducible refine gdW_i (by with_unfolding_all exact trivial) ?_ | with_reducible refine tup_i (by simp only [List.length]; decide) ?_ | with_reducible refine lst_i (by simp only [List.length]; decide) ?_ | with_reducible refine ref_i (by simp only [List.length]; decide) ?_ | with_reducible refine ifp_t (by with_unfolding_all rfl) ?_ | with_reducible refine ifp_f (by with_unfolding_all rfl) ?_ | with_reducible refine find_i ?_ | with_reducible refine find3_i ?_))
      refine sub_s (by omega) (item7 _ hk).2 ?_
      rw [(item7 _ hk).1]
      (repeat (first | with_reducible refine bnd_i ?_ | with_reducible refine ret_i ?_ | with_reducible refine getv_i (by with_unfolding_all rfl) ?_ | with_reducible refine setv_i (by with_unfolding_all rfl) (by simp only [lset]; rfl) ?_ | with_reducible refine seqF_i ?_ | with_reducible refine boolV_i ?_ | with_reducible refine tup_tgt (by with_unfolding_all rfl) ?_ | with_reducible refine tgts_i ?_ | with_reducible refine tgtN_i ?_ | with_reducible refine add_i ?_ | with_reducible refine sub_i ?_ | with_reducible refine neg_i ?_ | with_reducible refine aadd_i ?_ | with_reducible refine asub_i ?_ | with_reducible refine mod_i (by decide) ?_ | with_reducible refine div_i (by decide) ?_ | with_reducible refine int_i ?_ | with_reducible refine lst_i' ?_ | with_reducible refine itm_s ?_ | with_reducible refine itm_t ?_ | with_reducible refine comp_i ?_ | with_reducible refine tr_b ?_ | with_reducible refine tr_n ?_ | with_reducible refine is_n ?_ | with_reducible refine isnt_n ?_ | with_reducible refine if_t (by with_unfolding_all rfl) ?_ | with_reducible refine if_f (by with_unfolding_all rfl) ?_ | with_reducible refine fnW_i (by with_unfolding_all rfl) (by with_unfolding_all rfl) ?_ | with_reducible refine gdW_i (by with_unfolding_all exact trivial) ?_ | with_reducible refine tup_i (by simp only [List.length]; decide) ?_ | with_reducible refine lst_i (by simp only [List.length]; decide) ?_ | with_reducible refine ref_i (by simp only [List.length]; decide) ?_ | with_reducible refine ifp_t (by with_unfolding_all rfl) ?_ | with_reducible refine ifp_f (by with_unfolding_all rfl) ?_ | with_reducible refine find_i ?_ | with_reducible refine find3_i ?_))
      exact hK _ rfl
    rintro _ rfl
    refine seqF_of (fun σ => σ = ⟨[some (.int k), some (.int r), some (.int sp), some (.str (S [97 + k])), some (.str (S [114 + r]))], objs⟩) (fun K hK => ?_) ?_
    · (repeat (first | with_reducible refine bnd_i ?_ | with_reducible refine ret_i ?_ | with_reducible refine getv_i (by with_unfolding_all rfl) ?_ | with_reducible refine setv_i (by with_unfolding_all rfl) (by simp only [lset]; rfl) ?_ | with_reducible refine seqF_i ?_ | with_reducible refine boolV_i ?_ | with_reducible refine tup_tgt (by with_unfolding_all rfl) ?_ | with_reducible refine tgts_i ?_ | with_reducible refine tgtN_i ?_ | with_reducible refine add_i ?_ | with_reducible refine sub_i ?_ | with_reducible refine neg_i ?_ | with_reducible refine aadd_i ?_ | with_reducible refine asub_i ?_ | with_reducible refine mod_i (by decide) ?_ | with_reducible refine div_i (by decide) ?_ | with_reducible refine int_i ?_ | with_reducible refine lst_i' ?_ | with_reducible refine itm_s ?_ | with_reducible refine itm_t ?_ | with_reducible refine comp_i ?_ | with_reducible refine tr_b ?_ | with_reducible refine tr_n ?_ | with_reducible refine is_n ?_ | with_reducible refine isnt_n ?_ | with_reducible refine if_t (by with_unfolding_all rfl) ?_ | with_reducible refine if_f (by with_unfolding_all rfl) ?_ | with_reducible refine fnW_i (by with_unfolding_all rfl) (by with_unfolding_all rfl) ?_ | with_reducible refine gdW_i (by with_unfolding_all exact trivial) ?_ | with_reducible refine tup_i (by simp only [List.length]; decide) ?_ | with_reducible refine lst_i (by simp only [List.length]; decide) ?_ | with_reducible refine ref_i (by simp only [List.length]; decide) ?_ | with_reducible refine ifp_t (by with_unfolding_all rfl) ?_ | with_reducible refine ifp_f (by with_unfolding_all rfl) ?_ | with_reducible refine find_i ?_ | with_reducible refine find3_i ?_))
      refine sub_s (by omega) (item8 _ hr).2 ?_
      rw [(item8 _ hr).1]
      (repeat (first | with_reducible refine bnd_i ?_ | with_reducible refine ret_i ?_ | with_reducible refine getv_i (by with_unfolding_all rfl) ?_ | with_reducible refine setv_i (by with_unfolding_all rfl) (by simp only [lset]; rfl) ?_ | with_reducible refine seqF_i ?_ | with_reducible refine boolV_i ?_ | with_reducible refine tup_tgt (by with_unfolding_all rfl) ?_ | with_reducible refine tgts_i ?_ | with_reducible refine tgtN_i ?_ | with_reducible refine add_i ?_ | with_reducible refine sub_i ?_ | with_reducible refine neg_i ?_ | with_reducible refine aadd_i ?_ | with_reducible refine asub_i ?_ | with_reducible refine mod_i (by decide) ?_ | with_reducible refine div_i (by decide) ?_ | with_reducible refine int_i ?_ | with_reducible refine lst_i' ?_ | with_reducible refine itm_s ?_ | with_reducible refine itm_t ?_ | with_reducible refine comp_i ?_ | with_reducible refine tr_b ?_ | with_reducible refine tr_n ?_ | with_reducible refine is_n ?_ | with_reducible refine isnt_n ?_ | with_reducible refine if_t (by with_unfolding_all rfl) ?_ | with_reducible refine if_f (by with_unfolding_all rfl) ?_ | with_reducible refine fnW_i (by with_unfolding_all rfl) (by with_unfolding_all rfl) ?_ | with_reducible refine gdW_i (by with_unfolding_all exact trivial) ?_ | with_reducible refine tup_i (by simp only [List.length]; decide) ?_ | with_reducible refine lst_i (by simp only [List.length]; decide) ?_ | with_reducible refine ref_i (by simp only [List.length]; decide) ?_ | with_reducible refine ifp_t (by with_unfolding_all rfl) ?_ | with_reducible refine ifp_f (by with_unfolding_all rfl) ?_ | with_reducible refine find_i ?_ | with_reducible refine find3_i ?_))
      exact hK _ rfl
    rintro _ rfl
    refine seqF_of (fun σ => σ = ⟨[some (.int k), some (.int r), some (.int sp), some (.str (S [upIf (sp % 2 == 1) (97 + k)])), some (.str (S [114 + r]))], objs⟩) (fun K hK => ?_) ?_
    · (repeat (first | with_reducible refine bnd_i ?_ | with_reducible refine ret_i ?_ | with_reducible refine getv_i (by with_unfolding_all rfl) ?_ | with_reducible refine setv_i (by with_unfolding_all rfl) (by simp only [lset]; rfl) ?_ | with_reducible refine seqF_i ?_ | with_reducible refine boolV_i ?_ | with_reducible refine tup_tgt (by with_unfolding_all rfl) ?_ | with_reducible refine tgts_i ?_ | with_reducible refine tgtN_i ?_ | with_reducible refine add_i ?_ | with_reducible refine sub_i ?_ | with_reducible refine neg_i ?_ | with_reducible refine aadd_i ?_ | with_reducible refine asub_i ?_ | with_reducible refine mod_i (by decide) ?_ | with_reducible refine div_i (by decide) ?_ | with_reducible refine int_i ?_ | with_reducible refine lst_i' ?_ | with_reducible refine itm_s ?_ | with_reducible refine itm_t ?_ | with_reducible refine comp_i ?_ | with_reducible refine tr_b ?_ | with_reducible refine tr_n ?_ | with_reducible refine is_n ?_ | with_reducible refine isnt_n ?_ | with_reducible refine if_t (by with_unfolding_all rfl) ?_ | with_reducible refine if_f (by with_unfolding_all rfl) ?_ | with_reducible refine fnW_i (by with_unfolding_all rfl) (by with_unfolding_all rfl) ?_ | with_reducible refine gdW_i (by with_unfolding_all exact trivial) ?_ | with_reducible refine tup_i (by simp only [List.length]; decide) ?_ | with_reducible refine lst_i (by simp only [List.length]; decide) ?_ | with_reducible refine ref_i (by simp only [List.length]; decide) ?_ | with_reducible refine ifp_t (by with_unfolding_all rfl) ?_ | with_reducible refine ifp_f (by with_unfolding_all rfl) ?_ | with_reducible refine find_i ?_ | with_reducible refine find3_i ?_))
      rw [e1]
      refine eq_i (fun h => ?_) (fun h => ?_)
      · (repeat (first | with_reducible refine bnd_i ?_ | with_reducible refine ret_i ?_ | with_reducible refine getv_i (by with_unfolding_all rfl) ?_ | with_reducible refine setv_i (by with_unfolding_all rfl) (by simp only [lset]; rfl) ?_ | with_reducible refine seqF_i ?_ | with_reducible refine boolV_i ?_ | with_reducible refine tup_tgt (by with_unfolding_all rfl) ?_ | with_reducible refine tgts_i ?_ | with_reducible refine tgtN_i ?_ | with_reducible refine add_i ?_ | with_reducible refine sub_i ?_ | with_reducible refine neg_i ?_ | with_reducible refine aadd_i ?_ | with_reducible refine asub_i ?_ | with_reducible refine mod_i (by decide) ?_ | with_reducible refine div_i (by decide) ?_ | with_reducible refine int_i ?_ | with_reducible refine lst_i' ?_ | with_reducible refine itm_s ?_ | with_reducible refine itm_t ?_ | with_reducible refine comp_i ?_ | with_reducible refine tr_b ?_ | with_reducible refine tr_n ?_ | with_reducible refine is_n ?_ | with_reducible refine isnt_n ?_ | with_reducible refine if_t (by with_unfolding_all rfl) ?_ | with_reducible refine if_f (by with_unfolding_all rfl) ?_ | with_reducible refine fnW_i (by with_unfolding_all rfl) (by with_unfolding_all rfl) ?_ | with_reducible refine gdW_i (by with_unfolding_all exact trivial) ?_ | with_reducible refine tup_i (by simp only [List.length]; decide) ?_ | with_reducible refine lst_i (by simp only [List.length]; decide) ?_ | with_reducible refine ref_i (by simp only [List.length]; decide) ?_ | with_reducible refine ifp_t (by with_unfolding_all rfl) ?_ | with_reducible refine ifp_f (by with_unfolding_all rfl) ?_ | with_reducible refine find_i ?_ | with_reducible refine find3_i ?_))
        refine strF_i (show 1 ≤ 5592405 by decide) ?_
        rw [up_one (by omega)]
        (repeat (first | with_reducible refine bnd_i ?_ | with_reducible refine ret_i ?_ | with_reducible refine getv_i (by with_unfolding_all rfl) ?_ | with_reducible refine setv_i (by with_unfolding_all rfl) (by simp only [lset]; rfl) ?_ | with_reducible refine seqF_i ?_ | with_reducible refine boolV_i ?_ | with_reducible refine tup_tgt (by with_unfolding_all rfl) ?_ | with_reducible refine tgts_i ?_ | with_reducible refine tgtN_i ?_ | with_reducible refine add_i ?_ | with_reducible refine sub_i ?_ | with_reducible refine neg_i ?_ | with_reducible refine aadd_i ?_ | with_reducible refine asub_i ?_ | with_reducible refine mod_i (by decide) ?_ | with_reducible refine div_i (by decide) ?_ | with_reducible refine int_i ?_ | with_reducible refine lst_i' ?_ | with_reducible refine itm_s ?_ | with_reducible refine itm_t ?_ | with_reducible refine comp_i ?_ | with_reducible refine tr_b ?_ | with_reducible refine tr_n ?_ | with_reducible refine is_n ?_ | with_reducible refine isnt_n ?_ | with_reducible refine if_t (by with_unfolding_all rfl) ?_ | with_reducible refine if_f (by with_unfolding_all rfl) ?_ | with_reducible refine fnW_i (by with_unfolding_all rfl) (by with_unfolding_all rfl) ?_ | with_reducible refine gdW_i (by with_unfolding_all exact trivial) ?_ | with_reducible refine tup_i (by simp only [List.length]; decide) ?_ | with_reducible refine lst_i (by simp only [List.length]; decide) ?_ | with_reducible refine ref_i (by simp only [List.length]; decide) ?_ | with_reducible refine ifp_t (by with_unfolding_all rfl) ?_ | with_reducible refine ifp_f (by with_unfolding_all rfl) ?_ | with_reducible refine find_i ?_ | with_reducible refine find3_i ?_))
        exact hK _ (by rw [show sp % 2 = 1 by omega]; rfl)
      · (repeat (first | with_reducible refine bnd_i ?_ | with_reducible refine ret_i ?_ | with_reducible refine getv_i (by with_unfolding_all rfl) ?_ | with_reducible refine setv_i (by with_unfolding_all rfl) (by simp only [lset]; rfl) ?_ | with_reducible refine seqF_i ?_ | with_reducible refine boolV_i ?_ | with_reducible refine tup_tgt (by with_unfolding_all rfl) ?_ | with_reducible refine tgts_i ?_ | with_reducible refine tgtN_i ?_ | with_reducible refine add_i ?_ | with_reducible refine sub_i ?_ | with_reducible refine neg_i ?_ | with_reducible refine aadd_i ?_ | with_reducible refine asub_i ?_ | with_reducible refine mod_i (by decide) ?_ | with_reducible refine div_i (by decide) ?_ | with_reducible refine int_i ?_ | with_reducible refine lst_i' ?_ | with_reducible refine itm_s ?_ | with_reducible refine itm_t ?_ | with_reducible refine comp_i ?_ | with_reducible refine tr_b ?_ | with_reducible refine tr_n ?_ | with_reducible refine is_n ?_ | with_reducible refine isnt_n ?_ | with_reducible refine if_t (by with_unfolding_all rfl) ?_ | with_reducible refine if_f (by with_unfolding_all rfl) ?_ | with_reducible refine fnW_i (by with_unfolding_all rfl) (by with_unfolding_all rfl) ?_ | with_reducible refine gdW_i (by with_unfolding_all exact trivial) ?_ | with_reducible refine tup_i (by simp only [List.length]; decide) ?_ | with_reducible refine lst_i (by simp only [List.length]; decide) ?_ | with_reducible refine ref_i (by simp only [List.length]; decide) ?_ | with_reducible refine ifp_t (by with_unfolding_all rfl) ?_ | with_reducible refine ifp_f (by with_unfolding_all rfl) ?_ | with_reducible refine find_i ?_ | with_reducible refine find3_i ?_))
        exact hK _ (by rw [show (sp % 2 == 1) = false by simp; omega]; rfl)
    rintro _ rfl
    refine seqF_of (fun σ => σ = ⟨[some (.int k), some (.int r), some (.int sp), some (.str (S [upIf (sp % 2 == 1) (97 + k)])), some (.str (S [upIf (sp / 2 == 1) (114 + r)]))], objs⟩) (fun K hK => ?_) ?_
    · (repeat (first | with_reducible refine bnd_i ?_ | with_reducible refine ret_i ?_ | with_reducible refine getv_i (by with_unfolding_all rfl) ?_ | with_reducible refine setv_i (by with_unfolding_all rfl) (by simp only [lset]; rfl) ?_ | with_reducible refine seqF_i ?_ | with_reducible refine boolV_i ?_ | with_reducible refine tup_tgt (by with_unfolding_all rfl) ?_ | with_reducible refine tgts_i ?_ | with_reducible refine tgtN_i ?_ | with_reducible refine add_i ?_ | with_reducible refine sub_i ?_ | with_reducible refine neg_i ?_ | with_reducible refine aadd_i ?_ | with_reducible refine asub_i ?_ | with_reducible refine mod_i (by decide) ?_ | with_reducible refine div_i (by decide) ?_ | with_reducible refine int_i ?_ | with_reducible refine lst_i' ?_ | with_reducible refine itm_s ?_ | with_reducible refine itm_t ?_ | with_reducible refine comp_i ?_ | with_reducible refine tr_b ?_ | with_reducible refine tr_n ?_ | with_reducible refine is_n ?_ | with_reducible refine isnt_n ?_ | with_reducible refine if_t (by with_unfolding_all rfl) ?_ | with_reducible refine if_f (by with_unfolding_all rfl) ?_ | with_reducible refine fnW_i (by with_unfolding_all rfl) (by with_unfolding_all rfl) ?_ | with_reducible refine gdW_i (by with_unfolding_all exact trivial) ?_ | with_reducible refine tup_i (by simp only [List.length]; decide) ?_ | with_reducible refine lst_i (by simp only [List.length]; decide) ?_ | with_reducible refine ref_i (by simp only [List.length]; decide) ?_ | with_reducible refine ifp_t (by with_unfolding_all rfl) ?_ | with_reducible refine ifp_f (by with_unfolding_all rfl) ?_ | with_reducible refine find_i ?_ | with_reducible refine find3_i ?_))
      rw [e2]
      refine eq_i (fun h => ?_) (fun h => ?_)
      · (repeat (first | with_reducible refine bnd_i ?_ | with_reducible refine ret_i ?_ | with_reducible refine getv_i (by with_unfolding_all rfl) ?_ | with_reducible refine setv_i (by with_unfolding_all rfl) (by simp only [lset]; rfl) ?_ | with_reducible refine seqF_i ?_ | with_reducible refine boolV_i ?_ | with_reducible refine tup_tgt (by with_unfolding_all rfl) ?_ | with_reducible refine tgts_i ?_ | with_reducible refine tgtN_i ?_ | with_reducible refine add_i ?_ | with_reducible refine sub_i ?_ | with_reducible refine neg_i ?_ | with_reducible refine aadd_i ?_ | with_reducible refine asub_i ?_ | with_reducible refine mod_i (by decide) ?_ | with_reducible refine div_i (by decide) ?_ | with_reducible refine int_i ?_ | with_reducible refine lst_i' ?_ | with_reducible refine itm_s ?_ | with_reducible refine itm_t ?_ | with_reducible refine comp_i ?_ | with_reducible refine tr_b ?_ | with_reducible refine tr_n ?_ | with_reducible refine is_n ?_ | with_reducible refine isnt_n ?_ | with_reducible refine if_t (by with_unfolding_all rfl) ?_ | with_reducible refine if_f (by with_unfolding_all rfl) ?_ | with_reducible refine fnW_i (by with_unfolding_all rfl) (by with_unfolding_all rfl) ?_ | with_reducible refine gdW_i (by with_unfolding_all exact trivial) ?_ | with_reducible refine tup_i (by simp only [List.length]; decide) ?_ | with_reducible refine lst_i (by simp only [List.length]; decide) ?_ | with_reducible refine ref_i (by simp only [List.length]; decide) ?_ | with_reducible refine ifp_t (by with_unfolding_all rfl) ?_ | with_reducible refine ifp_f (by with_unfolding_all rfl) ?_ | with_reducible refine find_i ?_ | with_reducible refine find3_i ?_))
        refine strF_i (show 1 ≤ 5592405 by decide) ?_
        rw [up_one (by omega)]
        (repeat (first | with_reducible refine bnd_i ?_ | with_reducible refine ret_i ?_ | with_reducible refine getv_i (by with_unfolding_all rfl) ?_ | with_reducible refine setv_i (by with_unfolding_all rfl) (by simp only [lset]; rfl) ?_ | with_reducible refine seqF_i ?_ | with_reducible refine boolV_i ?_ | with_reducible refine tup_tgt (by with_unfolding_all rfl) ?_ | with_reducible refine tgts_i ?_ | with_reducible refine tgtN_i ?_ | with_reducible refine add_i ?_ | with_reducible refine sub_i ?_ | with_reducible refine neg_i ?_ | with_reducible refine aadd_i ?_ | with_reducible refine asub_i ?_ | with_reducible refine mod_i (by decide) ?_ | with_reducible refine div_i (by decide) ?_ | with_reducible refine int_i ?_ | with_reducible refine lst_i' ?_ | with_reducible refine itm_s ?_ | with_reducible refine itm_t ?_ | with_reducible refine comp_i ?_ | with_reducible refine tr_b ?_ | with_reducible refine tr_n ?_ | with_reducible refine is_n ?_ | with_reducible refine isnt_n ?_ | with_reducible refine if_t (by with_unfolding_all rfl) ?_ | with_reducible refine if_f (by with_unfolding_all rfl) ?_ | with_reducible refine fnW_i (by with_unfolding_all rfl) (by with_unfolding_all rfl) ?_ | with_reducible refine gdW_i (by with_unfolding_all exact trivial) ?_ | with_reducible refine tup_i (by simp only [List.length]; decide) ?_ | with_reducible refine lst_i (by simp only [List.length]; decide) ?_ | with_reducible refine ref_i (by simp only [List.length]; decide) ?_ | with_reducible refine ifp_t (by with_unfolding_all rfl) ?_ | with_reducible refine ifp_f (by with_unfolding_all rfl) ?_ | with_reducible refine find_i ?_ | with_reducible refine find3_i ?_))
        exact hK _ (by rw [show sp / 2 = 1 by omega]; rfl)
      · (repeat (first | with_reducible refine bnd_i ?_ | with_reducible refine ret_i ?_ | with_reducible refine getv_i (by with_unfolding_all rfl) ?_ | with_reducible refine setv_i (by with_unfolding_all rfl) (by simp only [lset]; rfl) ?_ | with_reducible refine seqF_i ?_ | with_reducible refine boolV_i ?_ | with_reducible refine tup_tgt (by with_unfolding_all rfl) ?_ | with_reducible refine tgts_i ?_ | with_reducible refine tgtN_i ?_ | with_reducible refine add_i ?_ | with_reducible refine sub_i ?_ | with_reducible refine neg_i ?_ | with_reducible refine aadd_i ?_ | with_reducible refine asub_i ?_ | with_reducible refine mod_i (by decide) ?_ | with_reducible refine div_i (by decide) ?_ | with_reducible refine int_i ?_ | with_reducible refine lst_i' ?_ | with_reducible refine itm_s ?_ | with_reducible refine itm_t ?_ | with_reducible refine comp_i ?_ | with_reducible refine tr_b ?_ | with_reducible refine tr_n ?_ | with_reducible refine is_n ?_ | with_reducible refine isnt_n ?_ | with_reducible refine if_t (by with_unfolding_all rfl) ?_ | with_reducible refine if_f (by with_unfolding_all rfl) ?_ | with_reducible refine fnW_i (by with_unfolding_all rfl) (by with_unfolding_all rfl) ?_ | with_reducible refine gdW_i (by with_unfolding_all exact trivial) ?_ | with_reducible refine tup_i (by simp only [List.length]; decide) ?_ | with_reducible refine lst_i (by simp only [List.length]; decide) ?_ | with_reducible refine ref_i (by simp only [List.length]; decide) ?_ | with_reducible refine ifp_t (by with_unfolding_all rfl) ?_ | with_reducible refine ifp_f (by with_unfolding_all rfl) ?_ | with_reducible refine find_i ?_ | with_reducible refine find3_i ?_))
        exact hK _ (by rw [show (sp / 2 == 1) = false by simp; omega]; rfl)
    rintro _ rfl
    (repeat (first | with_reducible refine bnd_i ?_ | with_reducible refine ret_i ?_ | with_reducible refine getv_i (by with_unfolding_all rfl) ?_ | with_reducible refine setv_i (by with_unfolding_all rfl) (by simp only [lset]; rfl) ?_ | with_reducible refine seqF_i ?_ | with_reducible refine boolV_i ?_ | with_reducible refine tup_tgt (by with_unfolding_all rfl) ?_ | with_reducible refine tgts_i ?_ | with_reducible refine tgtN_i ?_ | with_reducible refine add_i ?_ | with_reducible refine sub_i ?_ | with_reducible refine neg_i ?_ | with_reducible refine aadd_i ?_ | with_reducible refine asub_i ?_ | with_reducible refine mod_i (by decide) ?_ | with_reducible refine div_i (by decide) ?_ | with_reducible refine int_i ?_ | with_reducible refine lst_i' ?_ | with_reducible refine itm_s ?_ | with_reducible refine itm_t ?_ | with_reducible refine comp_i ?_ | with_reducible refine tr_b ?_ | with_reducible refine tr_n ?_ | with_reducible refine is_n ?_ | with_reducible refine isnt_n ?_ | with_reducible refine if_t (by with_unfolding_all rfl) ?_ | with_reducible refine if_f (by with_unfolding_all rfl) ?_ | with_reducible refine fnW_i (by with_unfolding_all rfl) (by with_unfolding_all rfl) ?_ | with_reducible refine gdW_i (by with_unfolding_all exact trivial) ?_ | with_reducible refine tup_i (by simp only [List.length]; decide) ?_ | with_reducible refine lst_i (by simp only [List.length]; decide) ?_ | with_reducible refine ref_i (by simp only [List.length]; decide) ?_ | with_reducible refine ifp_t (by with_unfolding_all rfl) ?_ | with_reducible refine ifp_f (by with_unfolding_all rfl) ?_ | with_reducible refine find_i ?_ | with_reducible refine find3_i ?_))
    refine add_s (by rw [S_len, S_len]; simp; omega) ?_
    rw [S_app]
    (repeat (first | with_reducible refine bnd_i ?_ | with_reducible refine ret_i ?_ | with_reducible refine getv_i (by with_unfolding_all rfl) ?_ | with_reducible refine setv_i (by with_unfolding_all rfl) (by simp only [lset]; rfl) ?_ | with_reducible refine seqF_i ?_ | with_reducible refine boolV_i ?_ | with_reducible refine tup_tgt (by with_unfolding_all rfl) ?_ | with_reducible refine tgts_i ?_ | with_reducible refine tgtN_i ?_ | with_reducible refine add_i ?_ | with_reducible refine sub_i ?_ | with_reducible refine neg_i ?_ | with_reducible refine aadd_i ?_ | with_reducible refine asub_i ?_ | with_reducible refine mod_i (by decide) ?_ | with_reducible refine div_i (by decide) ?_ | with_reducible refine int_i ?_ | with_reducible refine lst_i' ?_ | with_reducible refine itm_s ?_ | with_reducible refine itm_t ?_ | with_reducible refine comp_i ?_ | with_reducible refine tr_b ?_ | with_reducible refine tr_n ?_ | with_reducible refine is_n ?_ | with_reducible refine isnt_n ?_ | with_reducible refine if_t (by with_unfolding_all rfl) ?_ | with_reducible refine if_f (by with_unfolding_all rfl) ?_ | with_reducible refine fnW_i (by with_unfolding_all rfl) (by with_unfolding_all rfl) ?_ | with_reducible refine gdW_i (by with_unfolding_all exact trivial) ?_ | with_reducible refine tup_i (by simp only [List.length]; decide) ?_ | with_reducible refine lst_i (by simp only [List.length]; decide) ?_ | with_reducible refine ref_i (by simp only [List.length]; decide) ?_ | with_reducible refine ifp_t (by with_unfolding_all rfl) ?_ | with_reducible refine ifp_f (by with_unfolding_all rfl) ?_ | with_reducible refine find_i ?_ | with_reducible refine find3_i ?_))
    exact hQ
/-! ## the counts -/
def tbl (T : Nat) (f : Nat → Nat) : List V := (List.range (T + 1)).map fun r => V.int ((f r : Nat) : Int)
theorem tbl_at {T : Nat} {f : Nat → Nat} {r : Nat} (h : r ≤ T) : idxL (tbl T f) ((r : Nat) : Int) = some (.int (f r : Nat)) := by
  have : r < T + 1 := by omega
  simp [idxL, tbl, this]
theorem tbl_set {T : Nat} {f : Nat → Nat} {r y : Nat} : (tbl T f).set r (.int ((y : Nat) : Int)) = tbl T (fun q => if q = r then y else f q) := by
  unfold tbl
  apply List.ext_getElem
  · simp
  · intro i h1 h2
    rw [List.getElem_set]
    simp only [List.getElem_map, List.getElem_range]
    by_cases e : r = i
    · subst e; simp
    · have : ¬ i = r := fun h => e h.symm
      simp [e, this]
theorem tbl_ext {T : Nat} {f g : Nat → Nat} (h : ∀ r, r ≤ T → f r = g r) : tbl T f = tbl T g := by
  unfold tbl
  exact List.map_congr_left fun r hr => by rw [h r (by have := List.mem_range.mp hr; omega)]
theorem tbl_nil (T : Nat) : [V.int 1] ++ (List.replicate T [V.int 0]).flatten = tbl T (cnt []) := by
  unfold tbl
  rw [List.range_succ_eq_map, List.map_cons, List.map_map]
  have h1 : (List.replicate T [V.int 0]).flatten = List.replicate T (V.int 0) := by
    induction T with
    | zero => rfl
    | succ n ih => rw [List.replicate_succ, List.flatten_cons, ih, List.replicate_succ]; rfl
  have h2 : (List.range T).map ((fun r => V.int ((cnt [] r : Nat) : Int)) ∘ Nat.succ) = List.replicate T (V.int 0) := by
    apply List.ext_getElem
    · simp
    · intro i h1 h2
      simp [cnt]
  rw [h1, h2]; rfl
theorem tbl_len (T : Nat) (f : Nat → Nat) : (tbl T f).length = T + 1 := by simp [tbl]
def RowsOK (objs : List O) (v : V) (W : List Nat) (T : Nat) : Prop := ∃ rs, seqOf objs v = some rs ∧ rs.length = W.length + 1 ∧ ∀ k, k ≤ W.length → ∃ u, rs[k]? = some u ∧ seqOf objs u = some (tbl T (cnt (W.drop k)))
theorem seq_keep {objs objs' : List O} {v : V} {l : List V} (h : seqOf objs v = some l) (hk : ∀ k, k < objs.length → objs'[k]? = objs[k]?) : seqOf objs' v = some l := by
  cases v <;> first | exact h | skip
  rename_i i
  have h' : lstAt objs i = some l := h
  show lstAt objs' i = some l
  unfold lstAt
  rw [hk i (lst_lt h')]
  exact h'
theorem RowsOK.keep {objs objs' : List O} {v : V} {W : List Nat} {T : Nat} (h : RowsOK objs v W T) (hk : ∀ k, k < objs.length → objs'[k]? = objs[k]?) : RowsOK objs' v W T := by
  obtain ⟨rs, h1, h2, h3⟩ := h
  exact ⟨rs, seq_keep h1 hk, h2, fun k hkk => by obtain ⟨u, a, b⟩ := h3 k hkk; exact ⟨u, a, seq_keep b hk⟩⟩
abbrev wV (W : List Nat) : List V := W.map fun w => V.int ((w : Nat) : Int)
noncomputable def fd_law_counts : FuncData := (fdO 196).get (by decide +kernel)
theorem is_law_counts : FnIs PG 196 fd_law_counts (stmtsOf fd_law_counts.body) ["weights", "total", "counts", "rows", "weight", "more", "rest"] ["weights", "total"] := by
  refine ⟨fun q => fnAt_of (by kernel_rfl), fun q => by kernel_rfl, by kernel_rfl, by kernel_rfl, by kernel_rfl, by kernel_rfl, by kernel_rfl, by kernel_rfl, by kernel_rfl, ?_, ?_, ?_⟩ <;> decide +kernel
def spec_counts : Spec := fun vs kvs objs Q => ∃ (W : List Nat) (T : Nat), vs = [.lst (wV W), .int T] ∧ W.length ≤ 5 ∧ (∀ w ∈ W, w ≤ T + 1) ∧ T ≤ 7 ∧ ∀ v ext, RowsOK (objs ++ ext) v W T → Q v (objs ++ ext)
theorem ok_law_counts : FnOK PG 1 196 2 [] spec_counts := by
  refine fn_ok (full := fun vs _ => vs) is_law_counts (b_cons (s_Assign (k := 2) (r_BinOp (r_List (rs_cons r_int rs_nil)) (r_MulL (r_List (rs_cons r_int rs_nil)) (r_Name (k := 1) (by kernel_rfl)))) (by kernel_rfl)) (b_cons (s_Assign (k := 3) (r_ListT (rs_cons (r_Name (k := 2) (by kernel_rfl)) rs_nil)) (by kernel_rfl)) (b_cons (s_For (i_rev (by kernel_rfl) (rs_cons (r_Name (k := 0) (by kernel_rfl)) rs_nil)) (a_Name (k := 4) (by kernel_rfl)) (b_cons (s_Assign (k := 5) (r_Call (by kernel_rfl) (rs_cons (r_Name (k := 2) (by kernel_rfl)) rs_nil) rk_nil (cal_list true) keep_type) (by kernel_rfl)) (b_cons (s_For (i_range (by kernel_rfl) (rs_cons (r_Name (k := 4) (by kernel_rfl)) (rs_cons (r_BinOp (r_Name (k := 1) (by kernel_rfl)) r_int) rs_nil))) (a_Name (k := 6) (by kernel_rfl)) (b_cons (s_AugSub (r_Name (k := 5) (by kernel_rfl)) (r_Name (k := 6) (by kernel_rfl)) (r_Sub (r_Name (k := 2) (by kernel_rfl)) (r_BinOp (r_Name (k := 6) (by kernel_rfl)) (r_Name (k := 4) (by kernel_rfl))))) b_nil)) (b_cons (s_Assign (k := 2) (r_Name (k := 5) (by kernel_rfl)) (by kernel_rfl)) (b_cons (s_Expr (r_Meth (r_Name (k := 3) (by kernel_rfl)) (meth_lst F.slot_list_append F.type_list_append) (rs_cons (r_Name (k := 2) (by kernel_rfl)) rs_nil) rk_nil cal_append keep_builtin)) b_nil))))) (b_cons (s_Expr (r_Meth (r_Name (k := 3) (by kernel_rfl)) (meth_lst F.slot_list_reverse F.type_list_reverse) rs_nil rk_nil cal_reverse keep_builtin)) (b_cons (s_Return (r_Name (k := 3) (by kernel_rfl))) b_nil))))) ?_ ?_
  · intro q s xs kxs X h1 h2
    obtain ⟨a, b, rfl⟩ := len2 h1
    obtain rfl := len0 h2
    exact ⟨[a, b], kp_binds X (fun _ => by kernel_rfl), fun g vs kvs rv rk => rv⟩
  · intro vs kvs objs Q h1 h2 h
    obtain ⟨W, T, rfl, hW, hw, hT, hQ⟩ := h
    rw [show initLoc ["weights", "total", "counts", "rows", "weight", "more", "rest"] ["weights", "total"] [.lst (wV W), .int T] = [some (.lst (wV W)), some (.int T), none, none, none, none, none] from by kernel_rfl]
    have hz : 100000 ≤ sizeLine := by decide
    refine seqF_of (fun σ => σ = ⟨[some (.lst (wV W)), some (.int T), some (.lst (tbl T (cnt []))), none, none, none, none], objs⟩) (fun K hK => ?_) ?_
    · (repeat (first | with_reducible refine bnd_i ?_ | with_reducible refine ret_i ?_ | with_reducible refine getv_i (by with_unfolding_all rfl) ?_ | with_reducible refine setv_i (by with_unfolding_all rfl) (by simp only [lset]; rfl) ?_ | with_reducible refine seqF_i ?_ | with_reducible refine boolV_i ?_ | with_reducible refine tup_tgt (by with_unfolding_all rfl) ?_ | with_reducible refine tgts_i ?_ | with_reducible refine tgtN_i ?_ | with_reducible refine add_i ?_ | with_reducible refine sub_i ?_ | with_reducible refine neg_i ?_ | with_reducible refine aadd_i ?_ | with_reducible refine asub_i ?_ | with_reducible refine mod_i (by decide) ?_ | with_reducible refine div_i (by decide) ?_ | with_reducible refine int_i ?_ | with_reducible refine lst_i' ?_ | with_reducible refine itm_s ?_ | with_reducible refine itm_t ?_ | with_reducible refine comp_i ?_ | with_reducible refine tr_b ?_ | with_reducible refine tr_n ?_ | with_reducible refine is_n ?_ | with_reducible refine isnt_n ?_ | with_reducible refine if_t (by with_unfolding_all rfl) ?_ | with_reducible refine if_f (by with_unfolding_all rfl) ?_ | with_reducible refine fnW_i (by with_unfolding_all rfl) (by with_unfolding_all rfl) ?_ | with_reducible refine gdW_i (by with_unfolding_all exact trivial) ?_ | with_reducible refine tup_i (by simp only [List.length]; decide) ?_ | with_reducible refine lst_i (by simp only [List.length]; decide) ?_ | with_reducible refine ref_i (by simp only [List.length]; decide) ?_ | with_reducible refine ifp_t (by with_unfolding_all rfl) ?_ | with_reducible refine ifp_f (by with_unfolding_all rfl) ?_ | with_reducible refine find_i ?_ | with_reducible refine find3_i ?_))
      refine mulL_i rfl (by omega) (by simp; omega) (by omega) ?_
      (repeat (first | with_reducible refine bnd_i ?_ | with_reducible refine ret_i ?_ | with_reducible refine getv_i (by with_unfolding_all rfl) ?_ | with_reducible refine setv_i (by with_unfolding_all rfl) (by simp only [lset]; rfl) ?_ | with_reducible refine seqF_i ?_ | with_reducible refine boolV_i ?_ | with_reducible refine tup_tgt (by with_unfolding_all rfl) ?_ | with_reducible refine tgts_i ?_ | with_reducible refine tgtN_i ?_ | with_reducible refine add_i ?_ | with_reducible refine sub_i ?_ | with_reducible refine neg_i ?_ | with_reducible refine aadd_i ?_ | with_reducible refine asub_i ?_ | with_reducible refine mod_i (by decide) ?_ | with_reducible refine div_i (by decide) ?_ | with_reducible refine int_i ?_ | with_reducible refine lst_i' ?_ | with_reducible refine itm_s ?_ | with_reducible refine itm_t ?_ | with_reducible refine comp_i ?_ | with_reducible refine tr_b ?_ | with_reducible refine tr_n ?_ | with_reducible refine is_n ?_ | with_reducible refine isnt_n ?_ | with_reducible refine if_t (by with_unfolding_all rfl) ?_ | with_reducible refine if_f (by with_unfolding_all rfl) ?_ | with_reducible refine fnW_i (by with_unfolding_all rfl) (by with_unfolding_all rfl) ?_ | with_reducible refine gdW_i (by with_unfolding_all exact trivial) ?_ | with_reducible refine tup_i (by simp only [List.length]; decide) ?_ | with_reducible refine lst_i (by simp only [List.length]; decide) ?_ | with_reducible refine ref_i (by simp only [List.length]; decide) ?_ | with_reducible refine ifp_t (by with_unfolding_all rfl) ?_ | with_reducible refine ifp_f (by with_unfolding_all rfl) ?_ | with_reducible refine find_i ?_ | with_reducible refine find3_i ?_))
      refine add_l rfl rfl (by simp; omega) ?_
      rw [show ((T : Int)).toNat = T by omega, tbl_nil]
      (repeat (first | with_reducible refine bnd_i ?_ | with_reducible refine ret_i ?_ | with_reducible refine getv_i (by with_unfolding_all rfl) ?_ | with_reducible refine setv_i (by with_unfolding_all rfl) (by simp only [lset]; rfl) ?_ | with_reducible refine seqF_i ?_ | with_reducible refine boolV_i ?_ | with_reducible refine tup_tgt (by with_unfolding_all rfl) ?_ | with_reducible refine tgts_i ?_ | with_reducible refine tgtN_i ?_ | with_reducible refine add_i ?_ | with_reducible refine sub_i ?_ | with_reducible refine neg_i ?_ | with_reducible refine aadd_i ?_ | with_reducible refine asub_i ?_ | with_reducible refine mod_i (by decide) ?_ | with_reducible refine div_i (by decide) ?_ | with_reducible refine int_i ?_ | with_reducible refine lst_i' ?_ | with_reducible refine itm_s ?_ | with_reducible refine itm_t ?_ | with_reducible refine comp_i ?_ | with_reducible refine tr_b ?_ | with_reducible refine tr_n ?_ | with_reducible refine is_n ?_ | with_reducible refine isnt_n ?_ | with_reducible refine if_t (by with_unfolding_all rfl) ?_ | with_reducible refine if_f (by with_unfolding_all rfl) ?_ | with_reducible refine fnW_i (by with_unfolding_all rfl) (by with_unfolding_all rfl) ?_ | with_reducible refine gdW_i (by with_unfolding_all exact trivial) ?_ | with_reducible refine tup_i (by simp only [List.length]; decide) ?_ | with_reducible refine lst_i (by simp only [List.length]; decide) ?_ | with_reducible refine ref_i (by simp only [List.length]; decide) ?_ | with_reducible refine ifp_t (by with_unfolding_all rfl) ?_ | with_reducible refine ifp_f (by with_unfolding_all rfl) ?_ | with_reducible refine find_i ?_ | with_reducible refine find3_i ?_))
      exact hK _ rfl
    rintro _ rfl
    refine seqF_of (fun σ => σ = ⟨[some (.lst (wV W)), some (.int T), some (.lst (tbl T (cnt []))), some (.ref objs.length), none, none, none], objs ++ [.list [.lst (tbl T (cnt []))]]⟩) (fun K hK => ?_) ?_
    · (repeat (first | with_reducible refine bnd_i ?_ | with_reducible refine ret_i ?_ | with_reducible refine getv_i (by with_unfolding_all rfl) ?_ | with_reducible refine setv_i (by with_unfolding_all rfl) (by simp only [lset]; rfl) ?_ | with_reducible refine seqF_i ?_ | with_reducible refine boolV_i ?_ | with_reducible refine tup_tgt (by with_unfolding_all rfl) ?_ | with_reducible refine tgts_i ?_ | with_reducible refine tgtN_i ?_ | with_reducible refine add_i ?_ | with_reducible refine sub_i ?_ | with_reducible refine neg_i ?_ | with_reducible refine aadd_i ?_ | with_reducible refine asub_i ?_ | with_reducible refine mod_i (by decide) ?_ | with_reducible refine div_i (by decide) ?_ | with_reducible refine int_i ?_ | with_reducible refine lst_i' ?_ | with_reducible refine itm_s ?_ | with_reducible refine itm_t ?_ | with_reducible refine comp_i ?_ | with_reducible refine tr_b ?_ | with_reducible refine tr_n ?_ | with_reducible refine is_n ?_ | with_reducible refine isnt_n ?_ | with_reducible refine if_t (by with_unfolding_all rfl) ?_ | with_reducible refine if_f (by with_unfolding_all rfl) ?_ | with_reducible refine fnW_i (by with_unfolding_all rfl) (by with_unfolding_all rfl) ?_ | with_reducible refine gdW_i (by with_unfolding_all exact trivial) ?_ | with_reducible refine tup_i (by simp only [List.length]; decide) ?_ | with_reducible refine lst_i (by simp only [List.length]; decide) ?_ | with_reducible refine ref_i (by simp only [List.length]; decide) ?_ | with_reducible refine ifp_t (by with_unfolding_all rfl) ?_ | with_reducible refine ifp_f (by with_unfolding_all rfl) ?_ | with_reducible refine find_i ?_ | with_reducible refine find3_i ?_))
      exact hK _ rfl
    rintro _ rfl
    refine seqF_of (fun σ => ∃ rs ext a2 a4 a5 a6, lstAt (objs ++ ext) objs.length = some rs ∧ rs.length = W.length + 1 ∧ (∀ i, i ≤ W.length → ∃ u, rs[i]? = some u ∧ seqOf (objs ++ ext) u = some (tbl T (cnt ((W.reverse.take i).reverse)))) ∧ (∀ v ∈ rs, v ≠ .ref objs.length) ∧ σ = ⟨[some (.lst (wV W)), some (.int T), a2, some (.ref objs.length), a4, a5, a6], objs ++ ext⟩) (fun K hK => ?_) ?_
    · (repeat (first | with_reducible refine bnd_i ?_ | with_reducible refine ret_i ?_ | with_reducible refine getv_i (by with_unfolding_all rfl) ?_ | with_reducible refine setv_i (by with_unfolding_all rfl) (by simp only [lset]; rfl) ?_ | with_reducible refine seqF_i ?_ | with_reducible refine boolV_i ?_ | with_reducible refine tup_tgt (by with_unfolding_all rfl) ?_ | with_reducible refine tgts_i ?_ | with_reducible refine tgtN_i ?_ | with_reducible refine add_i ?_ | with_reducible refine sub_i ?_ | with_reducible refine neg_i ?_ | with_reducible refine aadd_i ?_ | with_reducible refine asub_i ?_ | with_reducible refine mod_i (by decide) ?_ | with_reducible refine div_i (by decide) ?_ | with_reducible refine int_i ?_ | with_reducible refine lst_i' ?_ | with_reducible refine itm_s ?_ | with_reducible refine itm_t ?_ | with_reducible refine comp_i ?_ | with_reducible refine tr_b ?_ | with_reducible refine tr_n ?_ | with_reducible refine is_n ?_ | with_reducible refine isnt_n ?_ | with_reducible refine if_t (by with_unfolding_all rfl) ?_ | with_reducible refine if_f (by with_unfolding_all rfl) ?_ | with_reducible refine fnW_i (by with_unfolding_all rfl) (by with_unfolding_all rfl) ?_ | with_reducible refine gdW_i (by with_unfolding_all exact trivial) ?_ | with_reducible refine tup_i (by simp only [List.length]; decide) ?_ | with_reducible refine lst_i (by simp only [List.length]; decide) ?_ | with_reducible refine ref_i (by simp only [List.length]; decide) ?_ | with_reducible refine ifp_t (by with_unfolding_all rfl) ?_ | with_reducible refine ifp_f (by with_unfolding_all rfl) ?_ | with_reducible refine find_i ?_ | with_reducible refine find3_i ?_))
      refine rev_i rfl ?_
      rw [← List.map_reverse]
      refine forL_over (fun w : Nat => V.int ((w : Nat) : Int)) (fun d l σ => d ++ l = W.reverse ∧ ∃ rs ext u a4 a5 a6, lstAt (objs ++ ext) objs.length = some rs ∧ rs.length = d.length + 1 ∧ (∀ i, i ≤ d.length → ∃ u, rs[i]? = some u ∧ seqOf (objs ++ ext) u = some (tbl T (cnt ((d.take i).reverse)))) ∧ (∀ v ∈ rs, v ≠ .ref objs.length) ∧ u ≠ .ref objs.length ∧ seqOf (objs ++ ext) u = some (tbl T (cnt d.reverse)) ∧ σ = ⟨[some (.lst (wV W)), some (.int T), some u, some (.ref objs.length), a4, a5, a6], objs ++ ext⟩) (fun _ _ _ _ => rfl) (fun d w l σ K₁ hI h1 _ _ _ => ?_) (fun d σ hI => ?_) _ [] _ ⟨rfl, [.lst (tbl T (cnt []))], [.list [.lst (tbl T (cnt []))]], .lst (tbl T (cnt [])), _, _, _, by simp [lstAt], rfl, fun i hi => ?_, (fun v hv => by rw [List.mem_singleton.mp hv]; exact fun e => (by cases e)), (fun e => (by cases e)), rfl, rfl⟩
      · obtain ⟨hdl, rs, ext, u, a4, a5, a6, hrs, hrl, hri, hrn, hun, hu, rfl⟩ := hI
        have hwm : w ∈ W := by rw [← List.mem_reverse, ← hdl]; exact List.mem_append_right _ (.head _)
        have hwT := hw w hwm
        have hdl2 : d.length + 1 ≤ 5 := by
          have := congrArg List.length hdl
          simp at this; omega
        have hdl' : (d ++ [w]) ++ l = W.reverse := by rw [List.append_assoc]; exact hdl
        (repeat (first | with_reducible refine bnd_i ?_ | with_reducible refine ret_i ?_ | with_reducible refine getv_i (by with_unfolding_all rfl) ?_ | with_reducible refine setv_i (by with_unfolding_all rfl) (by simp only [lset]; rfl) ?_ | with_reducible refine seqF_i ?_ | with_reducible refine boolV_i ?_ | with_reducible refine tup_tgt (by with_unfolding_all rfl) ?_ | with_reducible refine tgts_i ?_ | with_reducible refine tgtN_i ?_ | with_reducible refine add_i ?_ | with_reducible refine sub_i ?_ | with_reducible refine neg_i ?_ | with_reducible refine aadd_i ?_ | with_reducible refine asub_i ?_ | with_reducible refine mod_i (by decide) ?_ | with_reducible refine div_i (by decide) ?_ | with_reducible refine int_i ?_ | with_reducible refine lst_i' ?_ | with_reducible refine itm_s ?_ | with_reducible refine itm_t ?_ | with_reducible refine comp_i ?_ | with_reducible refine tr_b ?_ | with_reducible refine tr_n ?_ | with_reducible refine is_n ?_ | with_reducible refine isnt_n ?_ | with_reducible refine if_t (by with_unfolding_all rfl) ?_ | with_reducible refine if_f (by with_unfolding_all rfl) ?_ | with_reducible refine fnW_i (by with_unfolding_all rfl) (by with_unfolding_all rfl) ?_ | with_reducible refine gdW_i (by with_unfolding_all exact trivial) ?_ | with_reducible refine tup_i (by simp only [List.length]; decide) ?_ | with_reducible refine lst_i (by simp only [List.length]; decide) ?_ | with_reducible refine ref_i (by simp only [List.length]; decide) ?_ | with_reducible refine ifp_t (by with_unfolding_all rfl) ?_ | with_reducible refine ifp_f (by with_unfolding_all rfl) ?_ | with_reducible refine find_i ?_ | with_reducible refine find3_i ?_))
        refine listT_i hu (by rw [tbl_len]; omega) ?_
        (repeat (first | with_reducible refine bnd_i ?_ | with_reducible refine ret_i ?_ | with_reducible refine getv_i (by with_unfolding_all rfl) ?_ | with_reducible refine setv_i (by with_unfolding_all rfl) (by simp only [lset]; rfl) ?_ | with_reducible refine boolV_i ?_ | with_reducible refine tup_tgt (by with_unfolding_all rfl) ?_ | with_reducible refine tgts_i ?_ | with_reducible refine tgtN_i ?_ | with_reducible refine add_i ?_ | with_reducible refine sub_i ?_ | with_reducible refine neg_i ?_ | with_reducible refine aadd_i ?_ | with_reducible refine asub_i ?_ | with_reducible refine mod_i (by decide) ?_ | with_reducible refine div_i (by decide) ?_ | with_reducible refine int_i ?_ | with_reducible refine lst_i' ?_ | with_reducible refine itm_s ?_ | with_reducible refine itm_t ?_ | with_reducible refine comp_i ?_ | with_reducible refine tr_b ?_ | with_reducible refine tr_n ?_ | with_reducible refine is_n ?_ | with_reducible refine isnt_n ?_ | with_reducible refine if_t (by with_unfolding_all rfl) ?_ | with_reducible refine if_f (by with_unfolding_all rfl) ?_ | with_reducible refine fnW_i (by with_unfolding_all rfl) (by with_unfolding_all rfl) ?_ | with_reducible refine gdW_i (by with_unfolding_all exact trivial) ?_ | with_reducible refine tup_i (by simp only [List.length]; decide) ?_ | with_reducible refine lst_i (by simp only [List.length]; decide) ?_ | with_reducible refine ref_i (by simp only [List.length]; decide) ?_ | with_reducible refine ifp_t (by with_unfolding_all rfl) ?_ | with_reducible refine ifp_f (by with_unfolding_all rfl) ?_ | with_reducible refine find_i ?_ | with_reducible refine find3_i ?_))
        -- the inner loop
        have hN : ∀ c, lstAt (objs ++ ext ++ [.list c]) (objs ++ ext).length = some c := fun c => lst_new
        have hu' : ∀ c, seqOf (objs ++ ext ++ [.list c]) u = some (tbl T (cnt d.reverse)) := fun c => seq_keep hu fun k hk => List.getElem?_append_left hk
        have hset : ∀ c c', (objs ++ ext ++ [O.list c]).set (objs ++ ext).length (.list c') = objs ++ ext ++ [.list c'] := fun c c' => by rw [List.set_append_right _ _ (Nat.le_refl _)]; simp
        refine seqF_of (fun σ => ∃ a6, σ = ⟨[some (.lst (wV W)), some (.int T), some u, some (.ref objs.length), some (.int w), some (.ref (objs ++ ext).length), a6], objs ++ ext ++ [.list (tbl T (cnt (w :: d.reverse)))]⟩) (fun K₂ hK₂ => ?_) ?_
        · (repeat (first | with_reducible refine bnd_i ?_ | with_reducible refine ret_i ?_ | with_reducible refine getv_i (by with_unfolding_all rfl) ?_ | with_reducible refine setv_i (by with_unfolding_all rfl) (by simp only [lset]; rfl) ?_ | with_reducible refine seqF_i ?_ | with_reducible refine boolV_i ?_ | with_reducible refine tup_tgt (by with_unfolding_all rfl) ?_ | with_reducible refine tgts_i ?_ | with_reducible refine tgtN_i ?_ | with_reducible refine add_i ?_ | with_reducible refine sub_i ?_ | with_reducible refine neg_i ?_ | with_reducible refine aadd_i ?_ | with_reducible refine asub_i ?_ | with_reducible refine mod_i (by decide) ?_ | with_reducible refine div_i (by decide) ?_ | with_reducible refine int_i ?_ | with_reducible refine lst_i' ?_ | with_reducible refine itm_s ?_ | with_reducible refine itm_t ?_ | with_reducible refine comp_i ?_ | with_reducible refine tr_b ?_ | with_reducible refine tr_n ?_ | with_reducible refine is_n ?_ | with_reducible refine isnt_n ?_ | with_reducible refine if_t (by with_unfolding_all rfl) ?_ | with_reducible refine if_f (by with_unfolding_all rfl) ?_ | with_reducible refine fnW_i (by with_unfolding_all rfl) (by with_unfolding_all rfl) ?_ | with_reducible refine gdW_i (by with_unfolding_all exact trivial) ?_ | with_reducible refine tup_i (by simp only [List.length]; decide) ?_ | with_reducible refine lst_i (by simp only [List.length]; decide) ?_ | with_reducible refine ref_i (by simp only [List.length]; decide) ?_ | with_reducible refine ifp_t (by with_unfolding_all rfl) ?_ | with_reducible refine ifp_f (by with_unfolding_all rfl) ?_ | with_reducible refine find_i ?_ | with_reducible refine find3_i ?_))
          refine rng2_i (by omega) (by omega) ?_
          have hrange : rangeV (w : Int) ((T : Int) + 1) = (List.range (T + 1 - w)).map fun i : Nat => V.int (((w + i : Nat)) : Int) := by
            unfold rangeV
            rw [show ((T : Int) + 1 - (w : Int)).toNat = T + 1 - w by omega]
            exact List.map_congr_left fun i _ => by rw [show (w : Int) + (i : Int) = ((w + i : Nat) : Int) by omega]
          rw [hrange]
          refine forL_over (fun i : Nat => V.int (((w + i : Nat)) : Int)) (fun e l σ => e ++ l = List.range (T + 1 - w) ∧ ∃ a6, σ = ⟨[some (.lst (wV W)), some (.int T), some u, some (.ref objs.length), some (.int w), some (.ref (objs ++ ext).length), a6], objs ++ ext ++ [.list (tbl T (fun r => if w ≤ r ∧ r < w + e.length then cnt (w :: d.reverse) r else cnt d.reverse r))]⟩) (fun _ _ _ _ => trivial) (fun e i l' σ K₃ hI3 h3 _ _ _ => ?_) (fun e σ hI3 => ?_) _ [] _ ⟨rfl, a6, ?_⟩
          · obtain ⟨hel, b6, rfl⟩ := hI3
            have hie : i = e.length := by
              have hg : (List.range (T + 1 - w))[e.length]? = some i := by rw [← hel, List.getElem?_append_right (Nat.le_refl _)]; simp
              have hlt := (List.getElem?_eq_some_iff.mp hg).1
              rw [List.getElem?_eq_getElem hlt, List.getElem_range] at hg
              exact (Option.some.inj hg).symm
            subst hie
            have hlt : e.length < T + 1 - w := by
              have := congrArg List.length hel
              simp at this; omega
            (repeat (first | with_reducible refine bnd_i ?_ | with_reducible refine ret_i ?_ | with_reducible refine getv_i (by with_unfolding_all rfl) ?_ | with_reducible refine setv_i (by with_unfolding_all rfl) (by simp only [lset]; rfl) ?_ | with_reducible refine seqF_i ?_ | with_reducible refine boolV_i ?_ | with_reducible refine tup_tgt (by with_unfolding_all rfl) ?_ | with_reducible refine tgts_i ?_ | with_reducible refine tgtN_i ?_ | with_reducible refine add_i ?_ | with_reducible refine sub_i ?_ | with_reducible refine neg_i ?_ | with_reducible refine aadd_i ?_ | with_reducible refine asub_i ?_ | with_reducible refine mod_i (by decide) ?_ | with_reducible refine div_i (by decide) ?_ | with_reducible refine int_i ?_ | with_reducible refine lst_i' ?_ | with_reducible refine itm_s ?_ | with_reducible refine itm_t ?_ | with_reducible refine comp_i ?_ | with_reducible refine tr_b ?_ | with_reducible refine tr_n ?_ | with_reducible refine is_n ?_ | with_reducible refine isnt_n ?_ | with_reducible refine if_t (by with_unfolding_all rfl) ?_ | with_reducible refine if_f (by with_unfolding_all rfl) ?_ | with_reducible refine fnW_i (by with_unfolding_all rfl) (by with_unfolding_all rfl) ?_ | with_reducible refine gdW_i (by with_unfolding_all exact trivial) ?_ | with_reducible refine tup_i (by simp only [List.length]; decide) ?_ | with_reducible refine lst_i (by simp only [List.length]; decide) ?_ | with_reducible refine ref_i (by simp only [List.length]; decide) ?_ | with_reducible refine ifp_t (by with_unfolding_all rfl) ?_ | with_reducible refine ifp_f (by with_unfolding_all rfl) ?_ | with_reducible refine find_i ?_ | with_reducible refine find3_i ?_))
            refine subL_i (by omega) (hN _) (tbl_at (by omega)) ?_
            (repeat (first | with_reducible refine bnd_i ?_ | with_reducible refine ret_i ?_ | with_reducible refine getv_i (by with_unfolding_all rfl) ?_ | with_reducible refine setv_i (by with_unfolding_all rfl) (by simp only [lset]; rfl) ?_ | with_reducible refine seqF_i ?_ | with_reducible refine boolV_i ?_ | with_reducible refine tup_tgt (by with_unfolding_all rfl) ?_ | with_reducible refine tgts_i ?_ | with_reducible refine tgtN_i ?_ | with_reducible refine add_i ?_ | with_reducible refine sub_i ?_ | with_reducible refine neg_i ?_ | with_reducible refine aadd_i ?_ | with_reducible refine asub_i ?_ | with_reducible refine mod_i (by decide) ?_ | with_reducible refine div_i (by decide) ?_ | with_reducible refine int_i ?_ | with_reducible refine lst_i' ?_ | with_reducible refine itm_s ?_ | with_reducible refine itm_t ?_ | with_reducible refine comp_i ?_ | with_reducible refine tr_b ?_ | with_reducible refine tr_n ?_ | with_reducible refine is_n ?_ | with_reducible refine isnt_n ?_ | with_reducible refine if_t (by with_unfolding_all rfl) ?_ | with_reducible refine if_f (by with_unfolding_all rfl) ?_ | with_reducible refine fnW_i (by with_unfolding_all rfl) (by with_unfolding_all rfl) ?_ | with_reducible refine gdW_i (by with_unfolding_all exact trivial) ?_ | with_reducible refine tup_i (by simp only [List.length]; decide) ?_ | with_reducible refine lst_i (by simp only [List.length]; decide) ?_ | with_reducible refine ref_i (by simp only [List.length]; decide) ?_ | with_reducible refine ifp_t (by with_unfolding_all rfl) ?_ | with_reducible refine ifp_f (by with_unfolding_all rfl) ?_ | with_reducible refine find_i ?_ | with_reducible refine find3_i ?_))
            rw [show (((w + e.length : Nat)) : Int) - (w : Int) = ((e.length : Nat) : Int) by omega]
            refine sub_l (hu' _) (by omega) (tbl_at (by omega)) ?_
            (repeat (first | with_reducible refine bnd_i ?_ | with_reducible refine ret_i ?_ | with_reducible refine getv_i (by with_unfolding_all rfl) ?_ | with_reducible refine setv_i (by with_unfolding_all rfl) (by simp only [lset]; rfl) ?_ | with_reducible refine seqF_i ?_ | with_reducible refine boolV_i ?_ | with_reducible refine tup_tgt (by with_unfolding_all rfl) ?_ | with_reducible refine tgts_i ?_ | with_reducible refine tgtN_i ?_ | with_reducible refine add_i ?_ | with_reducible refine sub_i ?_ | with_reducible refine neg_i ?_ | with_reducible refine aadd_i ?_ | with_reducible refine asub_i ?_ | with_reducible refine mod_i (by decide) ?_ | with_reducible refine div_i (by decide) ?_ | with_reducible refine int_i ?_ | with_reducible refine lst_i' ?_ | with_reducible refine itm_s ?_ | with_reducible refine itm_t ?_ | with_reducible refine comp_i ?_ | with_reducible refine tr_b ?_ | with_reducible refine tr_n ?_ | with_reducible refine is_n ?_ | with_reducible refine isnt_n ?_ | with_reducible refine if_t (by with_unfolding_all rfl) ?_ | with_reducible refine if_f (by with_unfolding_all rfl) ?_ | with_reducible refine fnW_i (by with_unfolding_all rfl) (by with_unfolding_all rfl) ?_ | with_reducible refine gdW_i (by with_unfolding_all exact trivial) ?_ | with_reducible refine tup_i (by simp only [List.length]; decide) ?_ | with_reducible refine lst_i (by simp only [List.length]; decide) ?_ | with_reducible refine ref_i (by simp only [List.length]; decide) ?_ | with_reducible refine ifp_t (by with_unfolding_all rfl) ?_ | with_reducible refine ifp_f (by with_unfolding_all rfl) ?_ | with_reducible refine find_i ?_ | with_reducible refine find3_i ?_))
            refine setI_i (m := w + e.length) (by omega) (hN _) (by unfold idxN; rw [if_pos (by omega), if_pos (by rw [tbl_len]; omega), Int.toNat_natCast]) ?_
            (repeat (first | with_reducible refine bnd_i ?_ | with_reducible refine ret_i ?_ | with_reducible refine getv_i (by with_unfolding_all rfl) ?_ | with_reducible refine setv_i (by with_unfolding_all rfl) (by simp only [lset]; rfl) ?_ | with_reducible refine seqF_i ?_ | with_reducible refine boolV_i ?_ | with_reducible refine tup_tgt (by with_unfolding_all rfl) ?_ | with_reducible refine tgts_i ?_ | with_reducible refine tgtN_i ?_ | with_reducible refine add_i ?_ | with_reducible refine sub_i ?_ | with_reducible refine neg_i ?_ | with_reducible refine aadd_i ?_ | with_reducible refine asub_i ?_ | with_reducible refine mod_i (by decide) ?_ | with_reducible refine div_i (by decide) ?_ | with_reducible refine int_i ?_ | with_reducible refine lst_i' ?_ | with_reducible refine itm_s ?_ | with_reducible refine itm_t ?_ | with_reducible refine comp_i ?_ | with_reducible refine tr_b ?_ | with_reducible refine tr_n ?_ | with_reducible refine is_n ?_ | with_reducible refine isnt_n ?_ | with_reducible refine if_t (by with_unfolding_all rfl) ?_ | with_reducible refine if_f (by with_unfolding_all rfl) ?_ | with_reducible refine fnW_i (by with_unfolding_all rfl) (by with_unfolding_all rfl) ?_ | with_reducible refine gdW_i (by with_unfolding_all exact trivial) ?_ | with_reducible refine tup_i (by simp only [List.length]; decide) ?_ | with_reducible refine lst_i (by simp only [List.length]; decide) ?_ | with_reducible refine ref_i (by simp only [List.length]; decide) ?_ | with_reducible refine ifp_t (by with_unfolding_all rfl) ?_ | with_reducible refine ifp_f (by with_unfolding_all rfl) ?_ | with_reducible refine find_i ?_ | with_reducible refine find3_i ?_))
            rw [hset]
            refine h3 _ ⟨by rw [List.append_assoc]; exact hel, some (.int (((w + e.length : Nat)) : Int)), ?_⟩
            have ec : (((if w ≤ w + e.length ∧ w + e.length < w + e.length then cnt (w :: d.reverse) (w + e.length) else cnt d.reverse (w + e.length) : Nat)) : Int) + ((cnt d.reverse e.length : Nat) : Int) = ((cnt (w :: d.reverse) (w + e.length) : Nat) : Int) := by
              rw [if_neg (by omega), cnt, if_pos (by omega), show w + e.length - w = e.length by omega]
              omega
            rw [ec, tbl_set]
            congr 3
            refine congrArg O.list (tbl_ext fun r hr => ?_)
            rw [List.length_append, List.length_singleton]
            by_cases h5 : r = w + e.length
            · rw [if_pos h5, if_pos (by omega), h5]
            · rw [if_neg h5]
              by_cases h6 : w ≤ r ∧ r < w + e.length
              · rw [if_pos h6, if_pos (by omega)]
              · rw [if_neg h6, if_neg (by omega)]
          · obtain ⟨hel, b6, rfl⟩ := hI3
            rw [List.append_nil] at hel
            refine hK₂ _ ⟨b6, ?_⟩
            congr 3
            refine congrArg O.list (tbl_ext fun r hr => ?_)
            rw [hel, List.length_range]
            by_cases h6 : w ≤ r
            · rw [if_pos (by omega)]
            · rw [if_neg (by omega), cnt, if_neg h6]; rfl
          · congr 3
            refine congrArg O.list (tbl_ext fun r hr => ?_)
            rw [if_neg (by simp)]
        rintro _ ⟨b6, rfl⟩
        (repeat (first | with_reducible refine bnd_i ?_ | with_reducible refine ret_i ?_ | with_reducible refine getv_i (by with_unfolding_all rfl) ?_ | with_reducible refine setv_i (by with_unfolding_all rfl) (by simp only [lset]; rfl) ?_ | with_reducible refine seqF_i ?_ | with_reducible refine boolV_i ?_ | with_reducible refine tup_tgt (by with_unfolding_all rfl) ?_ | with_reducible refine tgts_i ?_ | with_reducible refine tgtN_i ?_ | with_reducible refine add_i ?_ | with_reducible refine sub_i ?_ | with_reducible refine neg_i ?_ | with_reducible refine aadd_i ?_ | with_reducible refine asub_i ?_ | with_reducible refine mod_i (by decide) ?_ | with_reducible refine div_i (by decide) ?_ | with_reducible refine int_i ?_ | with_reducible refine lst_i' ?_ | with_reducible refine itm_s ?_ | with_reducible refine itm_t ?_ | with_reducible refine comp_i ?_ | with_reducible refine tr_b ?_ | with_reducible refine tr_n ?_ | with_reducible refine is_n ?_ | with_reducible refine isnt_n ?_ | with_reducible refine if_t (by with_unfolding_all rfl) ?_ | with_reducible refine if_f (by with_unfolding_all rfl) ?_ | with_reducible refine fnW_i (by with_unfolding_all rfl) (by with_unfolding_all rfl) ?_ | with_reducible refine gdW_i (by with_unfolding_all exact trivial) ?_ | with_reducible refine tup_i (by simp only [List.length]; decide) ?_ | with_reducible refine lst_i (by simp only [List.length]; decide) ?_ | with_reducible refine ref_i (by simp only [List.length]; decide) ?_ | with_reducible refine ifp_t (by with_unfolding_all rfl) ?_ | with_reducible refine ifp_f (by with_unfolding_all rfl) ?_ | with_reducible refine find_i ?_ | with_reducible refine find3_i ?_))
        have hrs' : lstAt (objs ++ ext ++ [.list (tbl T (cnt (w :: d.reverse)))]) objs.length = some rs := lst_app hrs
        refine gdW_i (isLst_of hrs') ?_
        (repeat (first | with_reducible refine bnd_i ?_ | with_reducible refine ret_i ?_ | with_reducible refine getv_i (by with_unfolding_all rfl) ?_ | with_reducible refine setv_i (by with_unfolding_all rfl) (by simp only [lset]; rfl) ?_ | with_reducible refine seqF_i ?_ | with_reducible refine boolV_i ?_ | with_reducible refine tup_tgt (by with_unfolding_all rfl) ?_ | with_reducible refine tgts_i ?_ | with_reducible refine tgtN_i ?_ | with_reducible refine add_i ?_ | with_reducible refine sub_i ?_ | with_reducible refine neg_i ?_ | with_reducible refine aadd_i ?_ | with_reducible refine asub_i ?_ | with_reducible refine mod_i (by decide) ?_ | with_reducible refine div_i (by decide) ?_ | with_reducible refine int_i ?_ | with_reducible refine lst_i' ?_ | with_reducible refine itm_s ?_ | with_reducible refine itm_t ?_ | with_reducible refine comp_i ?_ | with_reducible refine tr_b ?_ | with_reducible refine tr_n ?_ | with_reducible refine is_n ?_ | with_reducible refine isnt_n ?_ | with_reducible refine if_t (by with_unfolding_all rfl) ?_ | with_reducible refine if_f (by with_unfolding_all rfl) ?_ | with_reducible refine fnW_i (by with_unfolding_all rfl) (by with_unfolding_all rfl) ?_ | with_reducible refine gdW_i (by with_unfolding_all exact trivial) ?_ | with_reducible refine tup_i (by simp only [List.length]; decide) ?_ | with_reducible refine lst_i (by simp only [List.length]; decide) ?_ | with_reducible refine ref_i (by simp only [List.length]; decide) ?_ | with_reducible refine ifp_t (by with_unfolding_all rfl) ?_ | with_reducible refine ifp_f (by with_unfolding_all rfl) ?_ | with_reducible refine find_i ?_ | with_reducible refine find3_i ?_))
        refine app_i hrs' (by omega) ?_
        (repeat (first | with_reducible refine bnd_i ?_ | with_reducible refine ret_i ?_ | with_reducible refine getv_i (by with_unfolding_all rfl) ?_ | with_reducible refine setv_i (by with_unfolding_all rfl) (by simp only [lset]; rfl) ?_ | with_reducible refine seqF_i ?_ | with_reducible refine boolV_i ?_ | with_reducible refine tup_tgt (by with_unfolding_all rfl) ?_ | with_reducible refine tgts_i ?_ | with_reducible refine tgtN_i ?_ | with_reducible refine add_i ?_ | with_reducible refine sub_i ?_ | with_reducible refine neg_i ?_ | with_reducible refine aadd_i ?_ | with_reducible refine asub_i ?_ | with_reducible refine mod_i (by decide) ?_ | with_reducible refine div_i (by decide) ?_ | with_reducible refine int_i ?_ | with_reducible refine lst_i' ?_ | with_reducible refine itm_s ?_ | with_reducible refine itm_t ?_ | with_reducible refine comp_i ?_ | with_reducible refine tr_b ?_ | with_reducible refine tr_n ?_ | with_reducible refine is_n ?_ | with_reducible refine isnt_n ?_ | with_reducible refine if_t (by with_unfolding_all rfl) ?_ | with_reducible refine if_f (by with_unfolding_all rfl) ?_ | with_reducible refine fnW_i (by with_unfolding_all rfl) (by with_unfolding_all rfl) ?_ | with_reducible refine gdW_i (by with_unfolding_all exact trivial) ?_ | with_reducible refine tup_i (by simp only [List.length]; decide) ?_ | with_reducible refine lst_i (by simp only [List.length]; decide) ?_ | with_reducible refine ref_i (by simp only [List.length]; decide) ?_ | with_reducible refine ifp_t (by with_unfolding_all rfl) ?_ | with_reducible refine ifp_f (by with_unfolding_all rfl) ?_ | with_reducible refine find_i ?_ | with_reducible refine find3_i ?_))
        have hle : objs.length < (objs ++ ext).length := lst_lt hrs
        have hob : (objs ++ ext ++ [O.list (tbl T (cnt (w :: d.reverse)))]).set objs.length (.list (rs ++ [.ref (objs ++ ext).length])) = objs ++ (ext ++ [O.list (tbl T (cnt (w :: d.reverse)))]).set 0 (.list (rs ++ [.ref (objs ++ ext).length])) := by
          rw [List.append_assoc, List.set_append_right _ _ (Nat.le_refl _), Nat.sub_self]
        have hsm : Same [objs.length] (objs ++ ext ++ [O.list (tbl T (cnt (w :: d.reverse)))]) ((objs ++ ext ++ [O.list (tbl T (cnt (w :: d.reverse)))]).set objs.length (.list (rs ++ [.ref (objs ++ ext).length]))) := Same.set _ _ _
        have hkeep : ∀ {v : V} {l : List V}, v ≠ .ref objs.length → seqOf (objs ++ ext ++ [O.list (tbl T (cnt (w :: d.reverse)))]) v = some l → seqOf ((objs ++ ext ++ [O.list (tbl T (cnt (w :: d.reverse)))]).set objs.length (.list (rs ++ [.ref (objs ++ ext).length]))) v = some l := fun {v l} hv h => by
          cases v <;> first | exact h | skip
          rename_i i
          exact hsm.lst (show lstAt _ i = some l from h) (by simp; exact fun e => hv (by rw [e]))
        have hnew : lstAt (objs ++ ext ++ [O.list (tbl T (cnt (w :: d.reverse)))]) (objs ++ ext).length = some (tbl T (cnt (w :: d.reverse))) := hN _
        have hnn : V.ref (objs ++ ext).length ≠ .ref objs.length := fun e => by injection e; omega
        have hlast := lst_set (l' := rs ++ [V.ref (objs ++ ext).length]) hrs'
        rw [hob] at hkeep hlast ⊢
        refine h1 _ ⟨hdl', _, _, _, _, _, _, hlast, by simp [hrl], fun i hi => ?_, fun v hv => ?_, hnn, ?_, rfl⟩
        · simp at hi
          by_cases h5 : i ≤ d.length
          · obtain ⟨v, hv1, hv2⟩ := hri i h5
            refine ⟨v, by rw [List.getElem?_append_left (by omega)]; exact hv1, ?_⟩
            rw [List.take_append_of_le_length h5]
            exact hkeep (hrn v (List.mem_of_getElem? hv1)) (seq_keep hv2 fun k hk => List.getElem?_append_left hk)
          · have hid : i = d.length + 1 := by omega
            subst hid
            refine ⟨.ref (objs ++ ext).length, by rw [← hrl]; simp, ?_⟩
            rw [List.take_of_length_le (by simp), List.reverse_append]
            exact hkeep hnn hnew
        · rcases List.mem_append.mp hv with hv | hv
          · exact hrn v hv
          · rw [List.mem_singleton.mp hv]; exact hnn
        · rw [List.reverse_append]
          exact hkeep hnn hnew
      · obtain ⟨hdl, rs, ext, u, a4, a5, a6, hrs, hrl, hri, hrn, hun, hu, rfl⟩ := hI
        rw [List.append_nil] at hdl
        subst hdl
        exact hK _ ⟨rs, ext, _, _, _, _, hrs, by simpa using hrl, fun i hi => hri i (by simpa using hi), hrn, rfl⟩
      · have : i = 0 := by simpa using hi
        subst this
        exact ⟨_, rfl, rfl⟩
    rintro _ ⟨rs, ext, a2, a4, a5, a6, hrs, hrl, hri, hrn, rfl⟩
    (repeat (first | with_reducible refine bnd_i ?_ | with_reducible refine ret_i ?_ | with_reducible refine getv_i (by with_unfolding_all rfl) ?_ | with_reducible refine setv_i (by with_unfolding_all rfl) (by simp only [lset]; rfl) ?_ | with_reducible refine seqF_i ?_ | with_reducible refine boolV_i ?_ | with_reducible refine tup_tgt (by with_unfolding_all rfl) ?_ | with_reducible refine tgts_i ?_ | with_reducible refine tgtN_i ?_ | with_reducible refine add_i ?_ | with_reducible refine sub_i ?_ | with_reducible refine neg_i ?_ | with_reducible refine aadd_i ?_ | with_reducible refine asub_i ?_ | with_reducible refine mod_i (by decide) ?_ | with_reducible refine div_i (by decide) ?_ | with_reducible refine int_i ?_ | with_reducible refine lst_i' ?_ | with_reducible refine itm_s ?_ | with_reducible refine itm_t ?_ | with_reducible refine comp_i ?_ | with_reducible refine tr_b ?_ | with_reducible refine tr_n ?_ | with_reducible refine is_n ?_ | with_reducible refine isnt_n ?_ | with_reducible refine if_t (by with_unfolding_all rfl) ?_ | with_reducible refine if_f (by with_unfolding_all rfl) ?_ | with_reducible refine fnW_i (by with_unfolding_all rfl) (by with_unfolding_all rfl) ?_ | with_reducible refine gdW_i (by with_unfolding_all exact trivial) ?_ | with_reducible refine tup_i (by simp only [List.length]; decide) ?_ | with_reducible refine lst_i (by simp only [List.length]; decide) ?_ | with_reducible refine ref_i (by simp only [List.length]; decide) ?_ | with_reducible refine ifp_t (by with_unfolding_all rfl) ?_ | with_reducible refine ifp_f (by with_unfolding_all rfl) ?_ | with_reducible refine find_i ?_ | with_reducible refine find3_i ?_))
    refine gdW_i (isLst_of hrs) ?_
    (repeat (first | with_reducible refine bnd_i ?_ | with_reducible refine ret_i ?_ | with_reducible refine getv_i (by with_unfolding_all rfl) ?_ | with_reducible refine setv_i (by with_unfolding_all rfl) (by simp only [lset]; rfl) ?_ | with_reducible refine seqF_i ?_ | with_reducible refine boolV_i ?_ | with_reducible refine tup_tgt (by with_unfolding_all rfl) ?_ | with_reducible refine tgts_i ?_ | with_reducible refine tgtN_i ?_ | with_reducible refine add_i ?_ | with_reducible refine sub_i ?_ | with_reducible refine neg_i ?_ | with_reducible refine aadd_i ?_ | with_reducible refine asub_i ?_ | with_reducible refine mod_i (by decide) ?_ | with_reducible refine div_i (by decide) ?_ | with_reducible refine int_i ?_ | with_reducible refine lst_i' ?_ | with_reducible refine itm_s ?_ | with_reducible refine itm_t ?_ | with_reducible refine comp_i ?_ | with_reducible refine tr_b ?_ | with_reducible refine tr_n ?_ | with_reducible refine is_n ?_ | with_reducible refine isnt_n ?_ | with_reducible refine if_t (by with_unfolding_all rfl) ?_ | with_reducible refine if_f (by with_unfolding_all rfl) ?_ | with_reducible refine fnW_i (by with_unfolding_all rfl) (by with_unfolding_all rfl) ?_ | with_reducible refine gdW_i (by with_unfolding_all exact trivial) ?_ | with_reducible refine tup_i (by simp only [List.length]; decide) ?_ | with_reducible refine lst_i (by simp only [List.length]; decide) ?_ | with_reducible refine ref_i (by simp only [List.length]; decide) ?_ | with_reducible refine ifp_t (by with_unfolding_all rfl) ?_ | with_reducible refine ifp_f (by with_unfolding_all rfl) ?_ | with_reducible refine find_i ?_ | with_reducible refine find3_i ?_))
    refine reverse_i hrs (by omega) ?_
    (repeat (first | with_reducible refine bnd_i ?_ | with_reducible refine ret_i ?_ | with_reducible refine getv_i (by with_unfolding_all rfl) ?_ | with_reducible refine setv_i (by with_unfolding_all rfl) (by simp only [lset]; rfl) ?_ | with_reducible refine seqF_i ?_ | with_reducible refine boolV_i ?_ | with_reducible refine tup_tgt (by with_unfolding_all rfl) ?_ | with_reducible refine tgts_i ?_ | with_reducible refine tgtN_i ?_ | with_reducible refine add_i ?_ | with_reducible refine sub_i ?_ | with_reducible refine neg_i ?_ | with_reducible refine aadd_i ?_ | with_reducible refine asub_i ?_ | with_reducible refine mod_i (by decide) ?_ | with_reducible refine div_i (by decide) ?_ | with_reducible refine int_i ?_ | with_reducible refine lst_i' ?_ | with_reducible refine itm_s ?_ | with_reducible refine itm_t ?_ | with_reducible refine comp_i ?_ | with_reducible refine tr_b ?_ | with_reducible refine tr_n ?_ | with_reducible refine is_n ?_ | with_reducible refine isnt_n ?_ | with_reducible refine if_t (by with_unfolding_all rfl) ?_ | with_reducible refine if_f (by with_unfolding_all rfl) ?_ | with_reducible refine fnW_i (by with_unfolding_all rfl) (by with_unfolding_all rfl) ?_ | with_reducible refine gdW_i (by with_unfolding_all exact trivial) ?_ | with_reducible refine tup_i (by simp only [List.length]; decide) ?_ | with_reducible refine lst_i (by simp only [List.length]; decide) ?_ | with_reducible refine ref_i (by simp only [List.length]; decide) ?_ | with_reducible refine ifp_t (by with_unfolding_all rfl) ?_ | with_reducible refine ifp_f (by with_unfolding_all rfl) ?_ | with_reducible refine find_i ?_ | with_reducible refine find3_i ?_))
    have hob : (objs ++ ext).set objs.length (.list rs.reverse) = objs ++ ext.set 0 (.list rs.reverse) := by rw [List.set_append_right _ _ (Nat.le_refl _), Nat.sub_self]
    have hsm : Same [objs.length] (objs ++ ext) ((objs ++ ext).set objs.length (.list rs.reverse)) := Same.set _ _ _
    have hlast := lst_set (l' := rs.reverse) hrs
    rw [hob] at hsm hlast ⊢
    refine hQ _ _ ⟨rs.reverse, hlast, by simpa using hrl, fun k hk => ?_⟩
    obtain ⟨u, h1, h2⟩ := hri (W.length - k) (by omega)
    refine ⟨u, by rw [List.getElem?_reverse (by omega), hrl, show W.length + 1 - 1 - k = W.length - k by omega]; exact h1, ?_⟩
    have e : (W.reverse.take (W.length - k)).reverse = W.drop k := by
      rw [List.take_reverse, List.reverse_reverse, show W.length - (W.length - k) = k by omega]
    rw [e] at h2
    have hv := hrn u (List.mem_of_getElem? h1)
    cases u <;> first | exact h2 | skip
    rename_i i
    exact hsm.lst (show lstAt _ i = some _ from h2) (by simp; exact fun e => hv (by rw [e]))
end Mine

open PySem PySem.W PyProof.Rows PySem.Calls
set_option Elab.async false
set_option maxRecDepth 100000
set_option maxHeartbeats 4000000
set_option linter.unusedVariables false
set_option linter.unusedSimpArgs false

namespace Mine
noncomputable def fd_law_reached : FuncData := (fdO 203).get (by decide +kernel)
theorem is_law_reached : FnIs PG 203 fd_law_reached (stmtsOf fd_law_reached.body) ["weights", "total", "level", "found", "place", "following", "rest", "left"] ["weights", "total"] := by
  refine ⟨fun q => fnAt_of (by kernel_rfl), fun q => by kernel_rfl, by kernel_rfl, by kernel_rfl, by kernel_rfl, by kernel_rfl, by kernel_rfl, by kernel_rfl, by kernel_rfl, ?_, ?_, ?_⟩ <;> decide +kernel
abbrev nV (l : List Nat) : List V := l.map fun r => V.int ((r : Nat) : Int)
def spec_reached : Spec := fun vs kvs objs Q => ∃ (W : List Nat) (T : Nat), vs = [.lst (wV W), .int T] ∧ W.length ≤ 5 ∧ T ≤ 7 ∧ ∀ (qs : List NN) ext, qs.Perm (fnd W T (W.length + 1)) → qs.Pairwise (fun p q => pkey p < pkey q) → Q (.lst (qs.map pairI)) (objs ++ ext)
theorem lev_len {W : List Nat} {T k : Nat} (hT : T ≤ 7) : (lev W T k).length ≤ 8 := nodup_le 8 _ (lev_nodup W T k) fun r hr => by have := lev_le W T k r hr; omega
theorem fnd_len {W : List Nat} {T : Nat} (hT : T ≤ 7) : ∀ k, (fnd W T k).length ≤ 8 * k
  | 0 => by simp [fnd]
  | k + 1 => by
    rw [fnd_succ, List.length_append, List.length_map]
    have := fnd_len (W := W) hT k
    have := lev_len (W := W) (k := k) hT
    omega
theorem inA_nats {σ : St} {x : Nat} {b : V} {l : List Nat} {Q : Bool → St → Prop} (hb : seqOf σ.objs b = some (nV l)) (h1 : x ∈ l → Q true σ) (h2 : x ∉ l → Q false σ) : inA (.int ((x : Nat) : Int)) b Q σ := by
  have hb' : seqOf σ.objs b = some ((l.map fun r : Nat => ((r : Nat) : Int)).map V.int) := by rw [hb, List.map_map]; rfl
  refine inA_ints hb' (fun h => h1 ?_) (fun h => h2 fun h' => h (List.mem_map.mpr ⟨x, h', rfl⟩))
  obtain ⟨y, hy, e⟩ := List.mem_map.mp h
  have : y = x := by omega
  exact this ▸ hy
theorem set_self' {objs : List O} {j : Nat} {l : List V} (h : lstAt objs j = some l) : objs.set j (.list l) = objs := by
  obtain ⟨h1, h2⟩ := List.getElem?_eq_some_iff.mp (lstAt_some h)
  rw [← h2]; exact List.set_getElem_self h1
def addI (l : List Nat) (x : Int) : List Nat := if 0 ≤ x then addN l x.toNat else l
theorem addI_len : ∀ (e : List Int) (F : List Nat), (e.foldl addI F).length ≤ F.length + e.length
  | [], F => by simp
  | x :: e, F => by
    have h1 := addI_len e (addI F x)
    have h2 : (addI F x).length ≤ F.length + 1 := by
      unfold addI addN
      split
      · split <;> simp
      · omega
    simp only [List.foldl_cons, List.length_cons]; omega
theorem addI_two {w r : Nat} {F : List Nat} : [((r : Nat) : Int), ((r : Nat) : Int) - ((w : Nat) : Int)].foldl addI F = stepL w F r := by
  simp only [List.foldl_cons, List.foldl_nil]
  unfold addI stepL
  rw [if_pos (show (0 : Int) ≤ ((r : Nat) : Int) by omega), Int.toNat_natCast]
  by_cases h : w ≤ r
  · rw [if_pos h, if_pos (by omega), show (((r : Nat) : Int) - ((w : Nat) : Int)).toNat = r - w by omega]
  · rw [if_neg h, if_neg (by omega)]
theorem ok_law_reached : FnOK PG 1 203 2 [] spec_reached := by
  refine fn_ok (full := fun vs _ => vs) is_law_reached (b_cons (s_Assign (k := 2) (r_List (rs_cons (r_Name (k := 1) (by kernel_rfl)) rs_nil)) (by kernel_rfl)) (b_cons (s_Assign (k := 3) (r_ListT (rs_cons (r_Tuple (rs_cons r_int (rs_cons (r_Name (k := 1) (by kernel_rfl)) rs_nil))) rs_nil)) (by kernel_rfl)) (b_cons (s_For (i_range (by kernel_rfl) (rs_cons (r_Call (by kernel_rfl) (rs_cons (r_Name (k := 0) (by kernel_rfl)) rs_nil) rk_nil cal_len keep_builtin) rs_nil)) (a_Name (k := 4) (by kernel_rfl)) (b_cons (s_Assign (k := 5) (r_ListT rs_nil) (by kernel_rfl)) (b_cons (s_For (i_seq (r_Name (k := 2) (by kernel_rfl))) (a_Name (k := 6) (by kernel_rfl)) (b_cons (s_For (i_seq (r_Tuple (rs_cons (r_Name (k := 6) (by kernel_rfl)) (rs_cons (r_BinOp (r_Name (k := 6) (by kernel_rfl)) (r_Sub (r_Name (k := 0) (by kernel_rfl)) (r_Name (k := 4) (by kernel_rfl)))) rs_nil)))) (a_Name (k := 7) (by kernel_rfl)) (b_cons (s_If (t_and (t_Compare (r_Name (k := 7) (by kernel_rfl)) r_int) (t_and1 (t_Compare (r_Name (k := 7) (by kernel_rfl)) (r_Name (k := 5) (by kernel_rfl))))) (b_cons (s_Expr (r_Meth (r_Name (k := 5) (by kernel_rfl)) (meth_lst F.slot_list_append F.type_list_append) (rs_cons (r_Name (k := 7) (by kernel_rfl)) rs_nil) rk_nil cal_append keep_builtin)) b_nil) b_nil) b_nil)) b_nil)) (b_cons (s_Assign (k := 2) (r_Name (k := 5) (by kernel_rfl)) (by kernel_rfl)) (b_cons (s_For (i_seq (r_Name (k := 2) (by kernel_rfl))) (a_Name (k := 6) (by kernel_rfl)) (b_cons (s_Expr (r_Meth (r_Name (k := 3) (by kernel_rfl)) (meth_lst F.slot_list_append F.type_list_append) (rs_cons (r_Tuple (rs_cons (r_BinOp (r_Name (k := 4) (by kernel_rfl)) r_int) (rs_cons (r_Name (k := 6) (by kernel_rfl)) rs_nil))) rs_nil) rk_nil cal_append keep_builtin)) b_nil)) b_nil))))) (b_cons (s_Return (r_Call (by kernel_rfl) (rs_cons (r_Name (k := 3) (by kernel_rfl)) rs_nil) rk_nil cal_sorted keep_builtin)) b_nil)))) ?_ ?_
  · intro q s xs kxs X h1 h2
    obtain ⟨a, b, rfl⟩ := len2 h1
    obtain rfl := len0 h2
    exact ⟨[a, b], kp_binds X (fun _ => by kernel_rfl), fun g vs kvs rv rk => rv⟩
  · intro vs kvs objs Q h1 h2 h
    obtain ⟨W, T, rfl, hW, hT, hQ⟩ := h
    rw [show initLoc ["weights", "total", "level", "found", "place", "following", "rest", "left"] ["weights", "total"] [.lst (wV W), .int T] = [some (.lst (wV W)), some (.int T), none, none, none, none, none, none] from by kernel_rfl]
    have hz : 100000 ≤ sizeLine := by decide
    refine seqF_of (fun σ => σ = ⟨[some (.lst (wV W)), some (.int T), some (.lst (nV [T])), none, none, none, none, none], objs⟩) (fun K hK => ?_) ?_
    · (repeat (first | with_reducible refine bnd_i ?_ | with_reducible refine ret_i ?_ | with_reducible refine getv_i (by with_unfolding_all rfl) ?_ | with_reducible refine setv_i (by with_unfolding_all rfl) (by simp only [lset]; rfl) ?_ | with_reducible refine seqF_i ?_ | with_reducible refine boolV_i ?_ | with_reducible refine tup_tgt (by with_unfolding_all rfl) ?_ | with_reducible refine tgts_i ?_ | with_reducible refine tgtN_i ?_ | with_reducible refine add_i ?_ | with_reducible refine sub_i ?_ | with_reducible refine neg_i ?_ | with_reducible refine aadd_i ?_ | with_reducible refine asub_i ?_ | with_reducible refine mod_i (by decide) ?_ | with_reducible refine div_i (by decide) ?_ | with_reducible refine int_i ?_ | with_reducible refine lst_i' ?_ | with_reducible refine itm_s ?_ | with_reducible refine itm_t ?_ | with_reducible refine comp_i ?_ | with_reducible refine tr_b ?_ | with_reducible refine tr_n ?_ | with_reducible refine is_n ?_ | with_reducible refine isnt_n ?_ | with_reducible refine if_t (by with_unfolding_all rfl) ?_ | with_reducible refine if_f (by with_unfolding_all rfl) ?_ | with_reducible refine fnW_i (by with_unfolding_all rfl) (by with_unfolding_all rfl) ?_ | with_reducible refine gdW_i (by with_unfolding_all exact trivial) ?_ | with_reducible refine tup_i (by simp only [List.length]; decide) ?_ | with_reducible refine lst_i (by simp only [List.length]; decide) ?_ | with_reducible refine ref_i (by simp only [List.length]; decide) ?_ | with_reducible refine ifp_t (by with_unfolding_all rfl) ?_ | with_reducible refine ifp_f (by with_unfolding_all rfl) ?_ | with_reducible refine find_i ?_ | with_reducible refine find3_i ?_))
      exact hK _ rfl
    rintro _ rfl
    refine seqF_of (fun σ => σ = ⟨[some (.lst (wV W)), some (.int T), some (.lst (nV [T])), some (.ref objs.length), none, none, none, none], objs ++ [O.list ((fnd W T 1).map pairI)]⟩) (fun K hK => ?_) ?_
    · (repeat (first | with_reducible refine bnd_i ?_ | with_reducible refine ret_i ?_ | with_reducible refine getv_i (by with_unfolding_all rfl) ?_ | with_reducible refine setv_i (by with_unfolding_all rfl) (by simp only [lset]; rfl) ?_ | with_reducible refine seqF_i ?_ | with_reducible refine boolV_i ?_ | with_reducible refine tup_tgt (by with_unfolding_all rfl) ?_ | with_reducible refine tgts_i ?_ | with_reducible refine tgtN_i ?_ | with_reducible refine add_i ?_ | with_reducible refine sub_i ?_ | with_reducible refine neg_i ?_ | with_reducible refine aadd_i ?_ | with_reducible refine asub_i ?_ | with_reducible refine mod_i (by decide) ?_ | with_reducible refine div_i (by decide) ?_ | with_reducible refine int_i ?_ | with_reducible refine lst_i' ?_ | with_reducible refine itm_s ?_ | with_reducible refine itm_t ?_ | with_reducible refine comp_i ?_ | with_reducible refine tr_b ?_ | with_reducible refine tr_n ?_ | with_reducible refine is_n ?_ | with_reducible refine isnt_n ?_ | with_reducible refine if_t (by with_unfolding_all rfl) ?_ | with_reducible refine if_f (by with_unfolding_all rfl) ?_ | with_reducible refine fnW_i (by with_unfolding_all rfl) (by with_unfolding_all rfl) ?_ | with_reducible refine gdW_i (by with_unfolding_all exact trivial) ?_ | with_reducible refine tup_i (by simp only [List.length]; decide) ?_ | with_reducible refine lst_i (by simp only [List.length]; decide) ?_ | with_reducible refine ref_i (by simp only [List.length]; decide) ?_ | with_reducible refine ifp_t (by with_unfolding_all rfl) ?_ | with_reducible refine ifp_f (by with_unfolding_all rfl) ?_ | with_reducible refine find_i ?_ | with_reducible refine find3_i ?_))
      exact hK _ rfl
    rintro _ rfl
    refine seqF_of (fun σ => ∃ ext a2 a4 a5 a6 a7, lstAt (objs ++ ext) objs.length = some ((fnd W T (W.length + 1)).map pairI) ∧ σ = ⟨[some (.lst (wV W)), some (.int T), a2, some (.ref objs.length), a4, a5, a6, a7], objs ++ ext⟩) (fun K hK => ?_) ?_
    · (repeat (first | with_reducible refine bnd_i ?_ | with_reducible refine ret_i ?_ | with_reducible refine getv_i (by with_unfolding_all rfl) ?_ | with_reducible refine setv_i (by with_unfolding_all rfl) (by simp only [lset]; rfl) ?_ | with_reducible refine seqF_i ?_ | with_reducible refine boolV_i ?_ | with_reducible refine tup_tgt (by with_unfolding_all rfl) ?_ | with_reducible refine tgts_i ?_ | with_reducible refine tgtN_i ?_ | with_reducible refine add_i ?_ | with_reducible refine sub_i ?_ | with_reducible refine neg_i ?_ | with_reducible refine aadd_i ?_ | with_reducible refine asub_i ?_ | with_reducible refine mod_i (by decide) ?_ | with_reducible refine div_i (by decide) ?_ | with_reducible refine int_i ?_ | with_reducible refine lst_i' ?_ | with_reducible refine itm_s ?_ | with_reducible refine itm_t ?_ | with_reducible refine comp_i ?_ | with_reducible refine tr_b ?_ | with_reducible refine tr_n ?_ | with_reducible refine is_n ?_ | with_reducible refine isnt_n ?_ | with_reducible refine if_t (by with_unfolding_all rfl) ?_ | with_reducible refine if_f (by with_unfolding_all rfl) ?_ | with_reducible refine fnW_i (by with_unfolding_all rfl) (by with_unfolding_all rfl) ?_ | with_reducible refine gdW_i (by with_unfolding_all exact trivial) ?_ | with_reducible refine tup_i (by simp only [List.length]; decide) ?_ | with_reducible refine lst_i (by simp only [List.length]; decide) ?_ | with_reducible refine ref_i (by simp only [List.length]; decide) ?_ | with_reducible refine ifp_t (by with_unfolding_all rfl) ?_ | with_reducible refine ifp_f (by with_unfolding_all rfl) ?_ | with_reducible refine find_i ?_ | with_reducible refine find3_i ?_))
      refine len_l rfl (by simp; omega) ?_
      rw [List.length_map]
      (repeat (first | with_reducible refine bnd_i ?_ | with_reducible refine ret_i ?_ | with_reducible refine getv_i (by with_unfolding_all rfl) ?_ | with_reducible refine setv_i (by with_unfolding_all rfl) (by simp only [lset]; rfl) ?_ | with_reducible refine seqF_i ?_ | with_reducible refine boolV_i ?_ | with_reducible refine tup_tgt (by with_unfolding_all rfl) ?_ | with_reducible refine tgts_i ?_ | with_reducible refine tgtN_i ?_ | with_reducible refine add_i ?_ | with_reducible refine sub_i ?_ | with_reducible refine neg_i ?_ | with_reducible refine aadd_i ?_ | with_reducible refine asub_i ?_ | with_reducible refine mod_i (by decide) ?_ | with_reducible refine div_i (by decide) ?_ | with_reducible refine int_i ?_ | with_reducible refine lst_i' ?_ | with_reducible refine itm_s ?_ | with_reducible refine itm_t ?_ | with_reducible refine comp_i ?_ | with_reducible refine tr_b ?_ | with_reducible refine tr_n ?_ | with_reducible refine is_n ?_ | with_reducible refine isnt_n ?_ | with_reducible refine if_t (by with_unfolding_all rfl) ?_ | with_reducible refine if_f (by with_unfolding_all rfl) ?_ | with_reducible refine fnW_i (by with_unfolding_all rfl) (by with_unfolding_all rfl) ?_ | with_reducible refine gdW_i (by with_unfolding_all exact trivial) ?_ | with_reducible refine tup_i (by simp only [List.length]; decide) ?_ | with_reducible refine lst_i (by simp only [List.length]; decide) ?_ | with_reducible refine ref_i (by simp only [List.length]; decide) ?_ | with_reducible refine ifp_t (by with_unfolding_all rfl) ?_ | with_reducible refine ifp_f (by with_unfolding_all rfl) ?_ | with_reducible refine find_i ?_ | with_reducible refine find3_i ?_))
      refine rng1_i (by omega) (by omega) ?_
      refine forL_range (fun k σ => k ≤ W.length ∧ ∃ ext u a4 a5 a6 a7, lstAt (objs ++ ext) objs.length = some ((fnd W T (k + 1)).map pairI) ∧ seqOf (objs ++ ext) u = some (nV (lev W T k)) ∧ u ≠ .ref objs.length ∧ σ = ⟨[some (.lst (wV W)), some (.int T), some u, some (.ref objs.length), a4, a5, a6, a7], objs ++ ext⟩) W.length (fun _ _ _ => trivial) (fun k σ K₁ hk hI h1 _ _ _ => ?_) (fun σ hI => ?_) ⟨Nat.zero_le _, [O.list ((fnd W T 1).map pairI)], .lst (nV [T]), _, _, _, _, by simp [lstAt], rfl, (fun e => by cases e), rfl⟩
      · obtain ⟨_, ext, u, a4, a5, a6, a7, hfd, hu, hun, rfl⟩ := hI
        have hWk : idxL (wV W) ((k : Nat) : Int) = some (.int (W.getD k 0 : Nat)) := by simp [idxL, List.getD_eq_getElem?_getD, hk]
        have hlen8 := lev_len (W := W) (k := k) hT
        generalize hw : W.getD k 0 = w at hWk
        (repeat (first | with_reducible refine bnd_i ?_ | with_reducible refine ret_i ?_ | with_reducible refine getv_i (by with_unfolding_all rfl) ?_ | with_reducible refine setv_i (by with_unfolding_all rfl) (by simp only [lset]; rfl) ?_ | with_reducible refine boolV_i ?_ | with_reducible refine tup_tgt (by with_unfolding_all rfl) ?_ | with_reducible refine tgts_i ?_ | with_reducible refine tgtN_i ?_ | with_reducible refine add_i ?_ | with_reducible refine sub_i ?_ | with_reducible refine neg_i ?_ | with_reducible refine aadd_i ?_ | with_reducible refine asub_i ?_ | with_reducible refine mod_i (by decide) ?_ | with_reducible refine div_i (by decide) ?_ | with_reducible refine int_i ?_ | with_reducible refine lst_i' ?_ | with_reducible refine itm_s ?_ | with_reducible refine itm_t ?_ | with_reducible refine comp_i ?_ | with_reducible refine tr_b ?_ | with_reducible refine tr_n ?_ | with_reducible refine is_n ?_ | with_reducible refine isnt_n ?_ | with_reducible refine if_t (by with_unfolding_all rfl) ?_ | with_reducible refine if_f (by with_unfolding_all rfl) ?_ | with_reducible refine fnW_i (by with_unfolding_all rfl) (by with_unfolding_all rfl) ?_ | with_reducible refine gdW_i (by with_unfolding_all exact trivial) ?_ | with_reducible refine tup_i (by simp only [List.length]; decide) ?_ | with_reducible refine lst_i (by simp only [List.length]; decide) ?_ | with_reducible refine ref_i (by simp only [List.length]; decide) ?_ | with_reducible refine ifp_t (by with_unfolding_all rfl) ?_ | with_reducible refine ifp_f (by with_unfolding_all rfl) ?_ | with_reducible refine find_i ?_ | with_reducible refine find3_i ?_))
        refine seqF_i ?_
        (repeat (first | with_reducible refine bnd_i ?_ | with_reducible refine ret_i ?_ | with_reducible refine getv_i (by with_unfolding_all rfl) ?_ | with_reducible refine setv_i (by with_unfolding_all rfl) (by simp only [lset]; rfl) ?_ | with_reducible refine boolV_i ?_ | with_reducible refine tup_tgt (by with_unfolding_all rfl) ?_ | with_reducible refine tgts_i ?_ | with_reducible refine tgtN_i ?_ | with_reducible refine add_i ?_ | with_reducible refine sub_i ?_ | with_reducible refine neg_i ?_ | with_reducible refine aadd_i ?_ | with_reducible refine asub_i ?_ | with_reducible refine mod_i (by decide) ?_ | with_reducible refine div_i (by decide) ?_ | with_reducible refine int_i ?_ | with_reducible refine lst_i' ?_ | with_reducible refine itm_s ?_ | with_reducible refine itm_t ?_ | with_reducible refine comp_i ?_ | with_reducible refine tr_b ?_ | with_reducible refine tr_n ?_ | with_reducible refine is_n ?_ | with_reducible refine isnt_n ?_ | with_reducible refine if_t (by with_unfolding_all rfl) ?_ | with_reducible refine if_f (by with_unfolding_all rfl) ?_ | with_reducible refine fnW_i (by with_unfolding_all rfl) (by with_unfolding_all rfl) ?_ | with_reducible refine gdW_i (by with_unfolding_all exact trivial) ?_ | with_reducible refine tup_i (by simp only [List.length]; decide) ?_ | with_reducible refine lst_i (by simp only [List.length]; decide) ?_ | with_reducible refine ref_i (by simp only [List.length]; decide) ?_ | with_reducible refine ifp_t (by with_unfolding_all rfl) ?_ | with_reducible refine ifp_f (by with_unfolding_all rfl) ?_ | with_reducible refine find_i ?_ | with_reducible refine find3_i ?_))
        -- following
        have hN : ∀ c, lstAt (objs ++ ext ++ [O.list c]) (objs ++ ext).length = some c := fun c => lst_new
        have hu' : ∀ c, seqOf (objs ++ ext ++ [O.list c]) u = some (nV (lev W T k)) := fun c => seq_keep hu fun k hk => List.getElem?_append_left hk
        have hset : ∀ c c', (objs ++ ext ++ [O.list c]).set (objs ++ ext).length (O.list c') = objs ++ ext ++ [.list c'] := fun c c' => by rw [List.set_append_right _ _ (Nat.le_refl _)]; simp
        have hle : objs.length < (objs ++ ext).length := lst_lt hfd
        refine seqF_of (fun σ => ∃ a6 a7, σ = ⟨[some (.lst (wV W)), some (.int T), some u, some (.ref objs.length), some (.int k), some (.ref (objs ++ ext).length), a6, a7], objs ++ ext ++ [O.list (nV (lev W T (k + 1)))]⟩) (fun K₂ hK₂ => ?_) ?_
        · (repeat (first | with_reducible refine bnd_i ?_ | with_reducible refine ret_i ?_ | with_reducible refine getv_i (by with_unfolding_all rfl) ?_ | with_reducible refine setv_i (by with_unfolding_all rfl) (by simp only [lset]; rfl) ?_ | with_reducible refine seqF_i ?_ | with_reducible refine boolV_i ?_ | with_reducible refine tup_tgt (by with_unfolding_all rfl) ?_ | with_reducible refine tgts_i ?_ | with_reducible refine tgtN_i ?_ | with_reducible refine add_i ?_ | with_reducible refine sub_i ?_ | with_reducible refine neg_i ?_ | with_reducible refine aadd_i ?_ | with_reducible refine asub_i ?_ | with_reducible refine mod_i (by decide) ?_ | with_reducible refine div_i (by decide) ?_ | with_reducible refine int_i ?_ | with_reducible refine lst_i' ?_ | with_reducible refine itm_s ?_ | with_reducible refine itm_t ?_ | with_reducible refine comp_i ?_ | with_reducible refine tr_b ?_ | with_reducible refine tr_n ?_ | with_reducible refine is_n ?_ | with_reducible refine isnt_n ?_ | with_reducible refine if_t (by with_unfolding_all rfl) ?_ | with_reducible refine if_f (by with_unfolding_all rfl) ?_ | with_reducible refine fnW_i (by with_unfolding_all rfl) (by with_unfolding_all rfl) ?_ | with_reducible refine gdW_i (by with_unfolding_all exact trivial) ?_ | with_reducible refine tup_i (by simp only [List.length]; decide) ?_ | with_reducible refine lst_i (by simp only [List.length]; decide) ?_ | with_reducible refine ref_i (by simp only [List.length]; decide) ?_ | with_reducible refine ifp_t (by with_unfolding_all rfl) ?_ | with_reducible refine ifp_f (by with_unfolding_all rfl) ?_ | with_reducible refine find_i ?_ | with_reducible refine find3_i ?_))
          refine itm_l (hu' _) ?_
          refine forL_over (fun r : Nat => V.int ((r : Nat) : Int)) (fun e l σ => e ++ l = lev W T k ∧ ∃ a6 a7, σ = ⟨[some (.lst (wV W)), some (.int T), some u, some (.ref objs.length), some (.int k), some (.ref (objs ++ ext).length), a6, a7], objs ++ ext ++ [O.list (nV (e.foldl (stepL w) []))]⟩) (fun _ _ σ h => by obtain ⟨_, _, _, rfl⟩ := h; exact hu' _) (fun e r l' σ K₃ hI3 h3 _ _ _ => ?_) (fun e σ hI3 => ?_) _ [] _ ⟨rfl, _, _, rfl⟩
          · obtain ⟨hel, b6, b7, rfl⟩ := hI3
            have hfl : (e.foldl (stepL w) []).length ≤ 8 := nodup_le 8 _ (fold_nodup _ _ List.nodup_nil) fun y hy => by
              rw [fold_mem] at hy
              rcases hy with hy | ⟨q, hq, hy⟩
              · cases hy
              · have := lev_le W T k q (hel ▸ List.mem_append_left _ hq)
                omega
            have hrT : r ≤ T := lev_le W T k r (hel ▸ List.mem_append_right _ (.head _))
            have hfin : ∀ b6 b7, K₃ .next ⟨[some (.lst (wV W)), some (.int T), some u, some (.ref objs.length), some (.int k), some (.ref (objs ++ ext).length), b6, b7], objs ++ ext ++ [O.list (nV (stepL w (e.foldl (stepL w) []) r))]⟩ := fun b6 b7 => h3 _ ⟨by rw [List.append_assoc]; exact hel, b6, b7, by rw [List.foldl_append]; rfl⟩
            generalize e.foldl (stepL w) [] = F at hfl hfin
            (repeat (first | with_reducible refine bnd_i ?_ | with_reducible refine ret_i ?_ | with_reducible refine getv_i (by with_unfolding_all rfl) ?_ | with_reducible refine setv_i (by with_unfolding_all rfl) (by simp only [lset]; rfl) ?_ | with_reducible refine seqF_i ?_ | with_reducible refine boolV_i ?_ | with_reducible refine tup_tgt (by with_unfolding_all rfl) ?_ | with_reducible refine tgts_i ?_ | with_reducible refine tgtN_i ?_ | with_reducible refine add_i ?_ | with_reducible refine sub_i ?_ | with_reducible refine neg_i ?_ | with_reducible refine aadd_i ?_ | with_reducible refine asub_i ?_ | with_reducible refine mod_i (by decide) ?_ | with_reducible refine div_i (by decide) ?_ | with_reducible refine int_i ?_ | with_reducible refine lst_i' ?_ | with_reducible refine itm_s ?_ | with_reducible refine itm_t ?_ | with_reducible refine comp_i ?_ | with_reducible refine tr_b ?_ | with_reducible refine tr_n ?_ | with_reducible refine is_n ?_ | with_reducible refine isnt_n ?_ | with_reducible refine if_t (by with_unfolding_all rfl) ?_ | with_reducible refine if_f (by with_unfolding_all rfl) ?_ | with_reducible refine fnW_i (by with_unfolding_all rfl) (by with_unfolding_all rfl) ?_ | with_reducible refine gdW_i (by with_unfolding_all exact trivial) ?_ | with_reducible refine tup_i (by simp only [List.length]; decide) ?_ | with_reducible refine lst_i (by simp only [List.length]; decide) ?_ | with_reducible refine ref_i (by simp only [List.length]; decide) ?_ | with_reducible refine ifp_t (by with_unfolding_all rfl) ?_ | with_reducible refine ifp_f (by with_unfolding_all rfl) ?_ | with_reducible refine find_i ?_ | with_reducible refine find3_i ?_))
            refine sub_l rfl (by omega) hWk ?_
            (repeat (first | with_reducible refine bnd_i ?_ | with_reducible refine ret_i ?_ | with_reducible refine getv_i (by with_unfolding_all rfl) ?_ | with_reducible refine setv_i (by with_unfolding_all rfl) (by simp only [lset]; rfl) ?_ | with_reducible refine seqF_i ?_ | with_reducible refine boolV_i ?_ | with_reducible refine tup_tgt (by with_unfolding_all rfl) ?_ | with_reducible refine tgts_i ?_ | with_reducible refine tgtN_i ?_ | with_reducible refine add_i ?_ | with_reducible refine sub_i ?_ | with_reducible refine neg_i ?_ | with_reducible refine aadd_i ?_ | with_reducible refine asub_i ?_ | with_reducible refine mod_i (by decide) ?_ | with_reducible refine div_i (by decide) ?_ | with_reducible refine int_i ?_ | with_reducible refine lst_i' ?_ | with_reducible refine itm_s ?_ | with_reducible refine itm_t ?_ | with_reducible refine comp_i ?_ | with_reducible refine tr_b ?_ | with_reducible refine tr_n ?_ | with_reducible refine is_n ?_ | with_reducible refine isnt_n ?_ | with_reducible refine if_t (by with_unfolding_all rfl) ?_ | with_reducible refine if_f (by with_unfolding_all rfl) ?_ | with_reducible refine fnW_i (by with_unfolding_all rfl) (by with_unfolding_all rfl) ?_ | with_reducible refine gdW_i (by with_unfolding_all exact trivial) ?_ | with_reducible refine tup_i (by simp only [List.length]; decide) ?_ | with_reducible refine lst_i (by simp only [List.length]; decide) ?_ | with_reducible refine ref_i (by simp only [List.length]; decide) ?_ | with_reducible refine ifp_t (by with_unfolding_all rfl) ?_ | with_reducible refine ifp_f (by with_unfolding_all rfl) ?_ | with_reducible refine find_i ?_ | with_reducible refine find3_i ?_))
            refine forL_over V.int (fun e l σ => e ++ l = [((r : Nat) : Int), ((r : Nat) : Int) - ((w : Nat) : Int)] ∧ ∃ b7, σ = ⟨[some (.lst (wV W)), some (.int T), some u, some (.ref objs.length), some (.int k), some (.ref (objs ++ ext).length), some (.int r), b7], objs ++ ext ++ [O.list (nV (e.foldl addI F))]⟩) (fun _ _ _ _ => trivial) (fun e x l' σ K₄ hI4 h4 _ _ _ => ?_) (fun e σ hI4 => ?_) [((r : Nat) : Int), ((r : Nat) : Int) - ((w : Nat) : Int)] [] _ ⟨rfl, _, rfl⟩
            · obtain ⟨hel4, c7, rfl⟩ := hI4
              have hel5 : e.length ≤ 2 := by
                have := congrArg List.length hel4
                simp at this; omega
              have hal := addI_len e F
              have hfin4 : ∀ b7, K₄ .next ⟨[some (.lst (wV W)), some (.int T), some u, some (.ref objs.length), some (.int k), some (.ref (objs ++ ext).length), some (.int r), b7], objs ++ ext ++ [O.list (nV (addI (e.foldl addI F) x))]⟩ := fun b7 => h4 _ ⟨by rw [List.append_assoc]; exact hel4, b7, by rw [List.foldl_append]; rfl⟩
              generalize e.foldl addI F = F2 at hal hfin4
              (repeat (first | with_reducible refine bnd_i ?_ | with_reducible refine ret_i ?_ | with_reducible refine getv_i (by with_unfolding_all rfl) ?_ | with_reducible refine setv_i (by with_unfolding_all rfl) (by simp only [lset]; rfl) ?_ | with_reducible refine seqF_i ?_ | with_reducible refine boolV_i ?_ | with_reducible refine tup_tgt (by with_unfolding_all rfl) ?_ | with_reducible refine tgts_i ?_ | with_reducible refine tgtN_i ?_ | with_reducible refine add_i ?_ | with_reducible refine sub_i ?_ | with_reducible refine neg_i ?_ | with_reducible refine aadd_i ?_ | with_reducible refine asub_i ?_ | with_reducible refine mod_i (by decide) ?_ | with_reducible refine div_i (by decide) ?_ | with_reducible refine int_i ?_ | with_reducible refine lst_i' ?_ | with_reducible refine itm_s ?_ | with_reducible refine itm_t ?_ | with_reducible refine comp_i ?_ | with_reducible refine tr_b ?_ | with_reducible refine tr_n ?_ | with_reducible refine is_n ?_ | with_reducible refine isnt_n ?_ | with_reducible refine if_t (by with_unfolding_all rfl) ?_ | with_reducible refine if_f (by with_unfolding_all rfl) ?_ | with_reducible refine fnW_i (by with_unfolding_all rfl) (by with_unfolding_all rfl) ?_ | with_reducible refine gdW_i (by with_unfolding_all exact trivial) ?_ | with_reducible refine tup_i (by simp only [List.length]; decide) ?_ | with_reducible refine lst_i (by simp only [List.length]; decide) ?_ | with_reducible refine ref_i (by simp only [List.length]; decide) ?_ | with_reducible refine ifp_t (by with_unfolding_all rfl) ?_ | with_reducible refine ifp_f (by with_unfolding_all rfl) ?_ | with_reducible refine find_i ?_ | with_reducible refine find3_i ?_))
              refine ge_i (fun hx => ?_) (fun hx => ?_)
              · have ex : x = ((x.toNat : Nat) : Int) := by omega
                (repeat (first | with_reducible refine bnd_i ?_ | with_reducible refine ret_i ?_ | with_reducible refine getv_i (by with_unfolding_all rfl) ?_ | with_reducible refine setv_i (by with_unfolding_all rfl) (by simp only [lset]; rfl) ?_ | with_reducible refine seqF_i ?_ | with_reducible refine boolV_i ?_ | with_reducible refine tup_tgt (by with_unfolding_all rfl) ?_ | with_reducible refine tgts_i ?_ | with_reducible refine tgtN_i ?_ | with_reducible refine add_i ?_ | with_reducible refine sub_i ?_ | with_reducible refine neg_i ?_ | with_reducible refine aadd_i ?_ | with_reducible refine asub_i ?_ | with_reducible refine mod_i (by decide) ?_ | with_reducible refine div_i (by decide) ?_ | with_reducible refine int_i ?_ | with_reducible refine lst_i' ?_ | with_reducible refine itm_s ?_ | with_reducible refine itm_t ?_ | with_reducible refine comp_i ?_ | with_reducible refine tr_b ?_ | with_reducible refine tr_n ?_ | with_reducible refine is_n ?_ | with_reducible refine isnt_n ?_ | with_reducible refine if_t (by with_unfolding_all rfl) ?_ | with_reducible refine if_f (by with_unfolding_all rfl) ?_ | with_reducible refine fnW_i (by with_unfolding_all rfl) (by with_unfolding_all rfl) ?_ | with_reducible refine gdW_i (by with_unfolding_all exact trivial) ?_ | with_reducible refine tup_i (by simp only [List.length]; decide) ?_ | with_reducible refine lst_i (by simp only [List.length]; decide) ?_ | with_reducible refine ref_i (by simp only [List.length]; decide) ?_ | with_reducible refine ifp_t (by with_unfolding_all rfl) ?_ | with_reducible refine ifp_f (by with_unfolding_all rfl) ?_ | with_reducible refine find_i ?_ | with_reducible refine find3_i ?_))
                rw [ex]
                refine notin_v (inA_nats (l := F2) (hN _) (fun h => ?_) (fun h => ?_))
                · (repeat (first | with_reducible refine bnd_i ?_ | with_reducible refine ret_i ?_ | with_reducible refine getv_i (by with_unfolding_all rfl) ?_ | with_reducible refine setv_i (by with_unfolding_all rfl) (by simp only [lset]; rfl) ?_ | with_reducible refine seqF_i ?_ | with_reducible refine boolV_i ?_ | with_reducible refine tup_tgt (by with_unfolding_all rfl) ?_ | with_reducible refine tgts_i ?_ | with_reducible refine tgtN_i ?_ | with_reducible refine add_i ?_ | with_reducible refine sub_i ?_ | with_reducible refine neg_i ?_ | with_reducible refine aadd_i ?_ | with_reducible refine asub_i ?_ | with_reducible refine mod_i (by decide) ?_ | with_reducible refine div_i (by decide) ?_ | with_reducible refine int_i ?_ | with_reducible refine lst_i' ?_ | with_reducible refine itm_s ?_ | with_reducible refine itm_t ?_ | with_reducible refine comp_i ?_ | with_reducible refine tr_b ?_ | with_reducible refine tr_n ?_ | with_reducible refine is_n ?_ | with_reducible refine isnt_n ?_ | with_reducible refine if_t (by with_unfolding_all rfl) ?_ | with_reducible refine if_f (by with_unfolding_all rfl) ?_ | with_reducible refine fnW_i (by with_unfolding_all rfl) (by with_unfolding_all rfl) ?_ | with_reducible refine gdW_i (by with_unfolding_all exact trivial) ?_ | with_reducible refine tup_i (by simp only [List.length]; decide) ?_ | with_reducible refine lst_i (by simp only [List.length]; decide) ?_ | with_reducible refine ref_i (by simp only [List.length]; decide) ?_ | with_reducible refine ifp_t (by with_unfolding_all rfl) ?_ | with_reducible refine ifp_f (by with_unfolding_all rfl) ?_ | with_reducible refine find_i ?_ | with_reducible refine find3_i ?_))
                  have := hfin4 (some (.int ((x.toNat : Nat) : Int)))
                  unfold addI at this
                  rw [if_pos hx] at this
                  unfold addN at this
                  rw [if_pos h] at this
                  exact this
                · (repeat (first | with_reducible refine bnd_i ?_ | with_reducible refine ret_i ?_ | with_reducible refine getv_i (by with_unfolding_all rfl) ?_ | with_reducible refine setv_i (by with_unfolding_all rfl) (by simp only [lset]; rfl) ?_ | with_reducible refine seqF_i ?_ | with_reducible refine boolV_i ?_ | with_reducible refine tup_tgt (by with_unfolding_all rfl) ?_ | with_reducible refine tgts_i ?_ | with_reducible refine tgtN_i ?_ | with_reducible refine add_i ?_ | with_reducible refine sub_i ?_ | with_reducible refine neg_i ?_ | with_reducible refine aadd_i ?_ | with_reducible refine asub_i ?_ | with_reducible refine mod_i (by decide) ?_ | with_reducible refine div_i (by decide) ?_ | with_reducible refine int_i ?_ | with_reducible refine lst_i' ?_ | with_reducible refine itm_s ?_ | with_reducible refine itm_t ?_ | with_reducible refine comp_i ?_ | with_reducible refine tr_b ?_ | with_reducible refine tr_n ?_ | with_reducible refine is_n ?_ | with_reducible refine isnt_n ?_ | with_reducible refine if_t (by with_unfolding_all rfl) ?_ | with_reducible refine if_f (by with_unfolding_all rfl) ?_ | with_reducible refine fnW_i (by with_unfolding_all rfl) (by with_unfolding_all rfl) ?_ | with_reducible refine gdW_i (by with_unfolding_all exact trivial) ?_ | with_reducible refine tup_i (by simp only [List.length]; decide) ?_ | with_reducible refine lst_i (by simp only [List.length]; decide) ?_ | with_reducible refine ref_i (by simp only [List.length]; decide) ?_ | with_reducible refine ifp_t (by with_unfolding_all rfl) ?_ | with_reducible refine ifp_f (by with_unfolding_all rfl) ?_ | with_reducible refine find_i ?_ | with_reducible refine find3_i ?_))
                  refine gdW_i (isLst_of (hN _)) ?_
                  (repeat (first | with_reducible refine bnd_i ?_ | with_reducible refine ret_i ?_ | with_reducible refine getv_i (by with_unfolding_all rfl) ?_ | with_reducible refine setv_i (by with_unfolding_all rfl) (by simp only [lset]; rfl) ?_ | with_reducible refine seqF_i ?_ | with_reducible refine boolV_i ?_ | with_reducible refine tup_tgt (by with_unfolding_all rfl) ?_ | with_reducible refine tgts_i ?_ | with_reducible refine tgtN_i ?_ | with_reducible refine add_i ?_ | with_reducible refine sub_i ?_ | with_reducible refine neg_i ?_ | with_reducible refine aadd_i ?_ | with_reducible refine asub_i ?_ | with_reducible refine mod_i (by decide) ?_ | with_reducible refine div_i (by decide) ?_ | with_reducible refine int_i ?_ | with_reducible refine lst_i' ?_ | with_reducible refine itm_s ?_ | with_reducible refine itm_t ?_ | with_reducible refine comp_i ?_ | with_reducible refine tr_b ?_ | with_reducible refine tr_n ?_ | with_reducible refine is_n ?_ | with_reducible refine isnt_n ?_ | with_reducible refine if_t (by with_unfolding_all rfl) ?_ | with_reducible refine if_f (by with_unfolding_all rfl) ?_ | with_reducible refine fnW_i (by with_unfolding_all rfl) (by with_unfolding_all rfl) ?_ | with_reducible refine gdW_i (by with_unfolding_all exact trivial) ?_ | with_reducible refine tup_i (by simp only [List.length]; decide) ?_ | with_reducible refine lst_i (by simp only [List.length]; decide) ?_ | with_reducible refine ref_i (by simp only [List.length]; decide) ?_ | with_reducible refine ifp_t (by with_unfolding_all rfl) ?_ | with_reducible refine ifp_f (by with_unfolding_all rfl) ?_ | with_reducible refine find_i ?_ | with_reducible refine find3_i ?_))
                  refine app_i (hN _) (by simp; omega) ?_
                  rw [hset]
                  (repeat (first | with_reducible refine bnd_i ?_ | with_reducible refine ret_i ?_ | with_reducible refine getv_i (by with_unfolding_all rfl) ?_ | with_reducible refine setv_i (by with_unfolding_all rfl) (by simp only [lset]; rfl) ?_ | with_reducible refine seqF_i ?_ | with_reducible refine boolV_i ?_ | with_reducible refine tup_tgt (by with_unfolding_all rfl) ?_ | with_reducible refine tgts_i ?_ | with_reducible refine tgtN_i ?_ | with_reducible refine add_i ?_ | with_reducible refine sub_i ?_ | with_reducible refine neg_i ?_ | with_reducible refine aadd_i ?_ | with_reducible refine asub_i ?_ | with_reducible refine mod_i (by decide) ?_ | with_reducible refine div_i (by decide) ?_ | with_reducible refine int_i ?_ | with_reducible refine lst_i' ?_ | with_reducible refine itm_s ?_ | with_reducible refine itm_t ?_ | with_reducible refine comp_i ?_ | with_reducible refine tr_b ?_ | with_reducible refine tr_n ?_ | with_reducible refine is_n ?_ | with_reducible refine isnt_n ?_ | with_reducible refine if_t (by with_unfolding_all rfl) ?_ | with_reducible refine if_f (by with_unfolding_all rfl) ?_ | with_reducible refine fnW_i (by with_unfolding_all rfl) (by with_unfolding_all rfl) ?_ | with_reducible refine gdW_i (by with_unfolding_all exact trivial) ?_ | with_reducible refine tup_i (by simp only [List.length]; decide) ?_ | with_reducible refine lst_i (by simp only [List.length]; decide) ?_ | with_reducible refine ref_i (by simp only [List.length]; decide) ?_ | with_reducible refine ifp_t (by with_unfolding_all rfl) ?_ | with_reducible refine ifp_f (by with_unfolding_all rfl) ?_ | with_reducible refine find_i ?_ | with_reducible refine find3_i ?_))
                  have := hfin4 (some (.int ((x.toNat : Nat) : Int)))
                  unfold addI at this
                  rw [if_pos hx] at this
                  unfold addN at this
                  have e3 : nV (F2 ++ [x.toNat]) = nV F2 ++ [V.int ((x.toNat : Nat) : Int)] := by simp [nV]
                  rw [if_neg h, e3] at this
                  exact this
              · (repeat (first | with_reducible refine bnd_i ?_ | with_reducible refine ret_i ?_ | with_reducible refine getv_i (by with_unfolding_all rfl) ?_ | with_reducible refine setv_i (by with_unfolding_all rfl) (by simp only [lset]; rfl) ?_ | with_reducible refine seqF_i ?_ | with_reducible refine boolV_i ?_ | with_reducible refine tup_tgt (by with_unfolding_all rfl) ?_ | with_reducible refine tgts_i ?_ | with_reducible refine tgtN_i ?_ | with_reducible refine add_i ?_ | with_reducible refine sub_i ?_ | with_reducible refine neg_i ?_ | with_reducible refine aadd_i ?_ | with_reducible refine asub_i ?_ | with_reducible refine mod_i (by decide) ?_ | with_reducible refine div_i (by decide) ?_ | with_reducible refine int_i ?_ | with_reducible refine lst_i' ?_ | with_reducible refine itm_s ?_ | with_reducible refine itm_t ?_ | with_reducible refine comp_i ?_ | with_reducible refine tr_b ?_ | with_reducible refine tr_n ?_ | with_reducible refine is_n ?_ | with_reducible refine isnt_n ?_ | with_reducible refine if_t (by with_unfolding_all rfl) ?_ | with_reducible refine if_f (by with_unfolding_all rfl) ?_ | with_reducible refine fnW_i (by with_unfolding_all rfl) (by with_unfolding_all rfl) ?_ | with_reducible refine gdW_i (by with_unfolding_all exact trivial) ?_ | with_reducible refine tup_i (by simp only [List.length]; decide) ?_ | with_reducible refine lst_i (by simp only [List.length]; decide) ?_ | with_reducible refine ref_i (by simp only [List.length]; decide) ?_ | with_reducible refine ifp_t (by with_unfolding_all rfl) ?_ | with_reducible refine ifp_f (by with_unfolding_all rfl) ?_ | with_reducible refine find_i ?_ | with_reducible refine find3_i ?_))
                have := hfin4 (some (.int x))
                unfold addI at this
                rw [if_neg hx] at this
                exact this
            · obtain ⟨hel4, c7, rfl⟩ := hI4
              rw [List.append_nil] at hel4
              subst hel4
              rw [addI_two]
              exact hfin _ _
          · obtain ⟨hel, b6, b7, rfl⟩ := hI3
            rw [List.append_nil] at hel
            subst hel
            refine hK₂ _ ⟨b6, b7, ?_⟩
            rw [lev, nextL, hw]
        rintro _ ⟨b6, b7, rfl⟩
        have hl1 := lev_len (W := W) (k := k + 1) hT
        have hf1 := fnd_len (W := W) hT (k + 1)
        have hnn : V.ref (objs ++ ext).length ≠ .ref objs.length := fun e => by injection e; omega
        refine seqF_of (fun σ => σ = ⟨[some (.lst (wV W)), some (.int T), some (.ref (objs ++ ext).length), some (.ref objs.length), some (.int k), some (.ref (objs ++ ext).length), b6, b7], objs ++ ext ++ [O.list (nV (lev W T (k + 1)))]⟩) (fun K₂ hK₂ => ?_) ?_
        · (repeat (first | with_reducible refine bnd_i ?_ | with_reducible refine ret_i ?_ | with_reducible refine getv_i (by with_unfolding_all rfl) ?_ | with_reducible refine setv_i (by with_unfolding_all rfl) (by simp only [lset]; rfl) ?_ | with_reducible refine seqF_i ?_ | with_reducible refine boolV_i ?_ | with_reducible refine tup_tgt (by with_unfolding_all rfl) ?_ | with_reducible refine tgts_i ?_ | with_reducible refine tgtN_i ?_ | with_reducible refine add_i ?_ | with_reducible refine sub_i ?_ | with_reducible refine neg_i ?_ | with_reducible refine aadd_i ?_ | with_reducible refine asub_i ?_ | with_reducible refine mod_i (by decide) ?_ | with_reducible refine div_i (by decide) ?_ | with_reducible refine int_i ?_ | with_reducible refine lst_i' ?_ | with_reducible refine itm_s ?_ | with_reducible refine itm_t ?_ | with_reducible refine comp_i ?_ | with_reducible refine tr_b ?_ | with_reducible refine tr_n ?_ | with_reducible refine is_n ?_ | with_reducible refine isnt_n ?_ | with_reducible refine if_t (by with_unfolding_all rfl) ?_ | with_reducible refine if_f (by with_unfolding_all rfl) ?_ | with_reducible refine fnW_i (by with_unfolding_all rfl) (by with_unfolding_all rfl) ?_ | with_reducible refine gdW_i (by with_unfolding_all exact trivial) ?_ | with_reducible refine tup_i (by simp only [List.length]; decide) ?_ | with_reducible refine lst_i (by simp only [List.length]; decide) ?_ | with_reducible refine ref_i (by simp only [List.length]; decide) ?_ | with_reducible refine ifp_t (by with_unfolding_all rfl) ?_ | with_reducible refine ifp_f (by with_unfolding_all rfl) ?_ | with_reducible refine find_i ?_ | with_reducible refine find3_i ?_))
          exact hK₂ _ rfl
        rintro _ rfl
        (repeat (first | with_reducible refine bnd_i ?_ | with_reducible refine ret_i ?_ | with_reducible refine getv_i (by with_unfolding_all rfl) ?_ | with_reducible refine setv_i (by with_unfolding_all rfl) (by simp only [lset]; rfl) ?_ | with_reducible refine seqF_i ?_ | with_reducible refine boolV_i ?_ | with_reducible refine tup_tgt (by with_unfolding_all rfl) ?_ | with_reducible refine tgts_i ?_ | with_reducible refine tgtN_i ?_ | with_reducible refine add_i ?_ | with_reducible refine sub_i ?_ | with_reducible refine neg_i ?_ | with_reducible refine aadd_i ?_ | with_reducible refine asub_i ?_ | with_reducible refine mod_i (by decide) ?_ | with_reducible refine div_i (by decide) ?_ | with_reducible refine int_i ?_ | with_reducible refine lst_i' ?_ | with_reducible refine itm_s ?_ | with_reducible refine itm_t ?_ | with_reducible refine comp_i ?_ | with_reducible refine tr_b ?_ | with_reducible refine tr_n ?_ | with_reducible refine is_n ?_ | with_reducible refine isnt_n ?_ | with_reducible refine if_t (by with_unfolding_all rfl) ?_ | with_reducible refine if_f (by with_unfolding_all rfl) ?_ | with_reducible refine fnW_i (by with_unfolding_all rfl) (by with_unfolding_all rfl) ?_ | with_reducible refine gdW_i (by with_unfolding_all exact trivial) ?_ | with_reducible refine tup_i (by simp only [List.length]; decide) ?_ | with_reducible refine lst_i (by simp only [List.length]; decide) ?_ | with_reducible refine ref_i (by simp only [List.length]; decide) ?_ | with_reducible refine ifp_t (by with_unfolding_all rfl) ?_ | with_reducible refine ifp_f (by with_unfolding_all rfl) ?_ | with_reducible refine find_i ?_ | with_reducible refine find3_i ?_))
        refine itm_l (a := .ref (objs ++ ext).length) (hN (nV (lev W T (k + 1)))) ?_
        have hO : ∀ fd : List V, (objs ++ ext ++ [O.list (nV (lev W T (k + 1)))]).set objs.length (O.list fd) = objs ++ (ext ++ [O.list (nV (lev W T (k + 1)))]).set 0 (O.list fd) := fun fd => by rw [List.append_assoc, List.set_append_right _ _ (Nat.le_refl _), Nat.sub_self]
        have hF : ∀ fd : List V, lstAt ((objs ++ ext ++ [O.list (nV (lev W T (k + 1)))]).set objs.length (O.list fd)) objs.length = some fd := fun fd => lst_set (lst_app hfd)
        have hG : ∀ fd : List V, lstAt ((objs ++ ext ++ [O.list (nV (lev W T (k + 1)))]).set objs.length (O.list fd)) (objs ++ ext).length = some (nV (lev W T (k + 1))) := fun fd => by rw [lst_set_ne (by omega)]; exact hN _
        have hFF : ∀ fd fd' : List V, ((objs ++ ext ++ [O.list (nV (lev W T (k + 1)))]).set objs.length (O.list fd)).set objs.length (O.list fd') = (objs ++ ext ++ [O.list (nV (lev W T (k + 1)))]).set objs.length (O.list fd') := fun fd fd' => by rw [List.set_set]
        refine forL_over (fun r : Nat => V.int ((r : Nat) : Int)) (fun e l σ => e ++ l = lev W T (k + 1) ∧ ∃ b6, σ = ⟨[some (.lst (wV W)), some (.int T), some (.ref (objs ++ ext).length), some (.ref objs.length), some (.int k), some (.ref (objs ++ ext).length), b6, b7], (objs ++ ext ++ [O.list (nV (lev W T (k + 1)))]).set objs.length (O.list ((fnd W T (k + 1) ++ e.map fun r => (k + 1, r)).map pairI))⟩) (fun _ _ σ h => by obtain ⟨_, _, rfl⟩ := h; exact hG _) (fun e r l' σ K₃ hI3 h3 _ _ _ => ?_) (fun e σ hI3 => ?_) _ [] _ ⟨rfl, b6, ?_⟩
        · obtain ⟨hel, c6, rfl⟩ := hI3
          have hel2 : e.length ≤ 8 := by
            have := congrArg List.length hel
            simp at this; omega
          (repeat (first | with_reducible refine bnd_i ?_ | with_reducible refine ret_i ?_ | with_reducible refine getv_i (by with_unfolding_all rfl) ?_ | with_reducible refine setv_i (by with_unfolding_all rfl) (by simp only [lset]; rfl) ?_ | with_reducible refine seqF_i ?_ | with_reducible refine boolV_i ?_ | with_reducible refine tup_tgt (by with_unfolding_all rfl) ?_ | with_reducible refine tgts_i ?_ | with_reducible refine tgtN_i ?_ | with_reducible refine add_i ?_ | with_reducible refine sub_i ?_ | with_reducible refine neg_i ?_ | with_reducible refine aadd_i ?_ | with_reducible refine asub_i ?_ | with_reducible refine mod_i (by decide) ?_ | with_reducible refine div_i (by decide) ?_ | with_reducible refine int_i ?_ | with_reducible refine lst_i' ?_ | with_reducible refine itm_s ?_ | with_reducible refine itm_t ?_ | with_reducible refine comp_i ?_ | with_reducible refine tr_b ?_ | with_reducible refine tr_n ?_ | with_reducible refine is_n ?_ | with_reducible refine isnt_n ?_ | with_reducible refine if_t (by with_unfolding_all rfl) ?_ | with_reducible refine if_f (by with_unfolding_all rfl) ?_ | with_reducible refine fnW_i (by with_unfolding_all rfl) (by with_unfolding_all rfl) ?_ | with_reducible refine gdW_i (by with_unfolding_all exact trivial) ?_ | with_reducible refine tup_i (by simp only [List.length]; decide) ?_ | with_reducible refine lst_i (by simp only [List.length]; decide) ?_ | with_reducible refine ref_i (by simp only [List.length]; decide) ?_ | with_reducible refine ifp_t (by with_unfolding_all rfl) ?_ | with_reducible refine ifp_f (by with_unfolding_all rfl) ?_ | with_reducible refine find_i ?_ | with_reducible refine find3_i ?_))
          refine gdW_i (isLst_of (hF _)) ?_
          (repeat (first | with_reducible refine bnd_i ?_ | with_reducible refine ret_i ?_ | with_reducible refine getv_i (by with_unfolding_all rfl) ?_ | with_reducible refine setv_i (by with_unfolding_all rfl) (by simp only [lset]; rfl) ?_ | with_reducible refine seqF_i ?_ | with_reducible refine boolV_i ?_ | with_reducible refine tup_tgt (by with_unfolding_all rfl) ?_ | with_reducible refine tgts_i ?_ | with_reducible refine tgtN_i ?_ | with_reducible refine add_i ?_ | with_reducible refine sub_i ?_ | with_reducible refine neg_i ?_ | with_reducible refine aadd_i ?_ | with_reducible refine asub_i ?_ | with_reducible refine mod_i (by decide) ?_ | with_reducible refine div_i (by decide) ?_ | with_reducible refine int_i ?_ | with_reducible refine lst_i' ?_ | with_reducible refine itm_s ?_ | with_reducible refine itm_t ?_ | with_reducible refine comp_i ?_ | with_reducible refine tr_b ?_ | with_reducible refine tr_n ?_ | with_reducible refine is_n ?_ | with_reducible refine isnt_n ?_ | with_reducible refine if_t (by with_unfolding_all rfl) ?_ | with_reducible refine if_f (by with_unfolding_all rfl) ?_ | with_reducible refine fnW_i (by with_unfolding_all rfl) (by with_unfolding_all rfl) ?_ | with_reducible refine gdW_i (by with_unfolding_all exact trivial) ?_ | with_reducible refine tup_i (by simp only [List.length]; decide) ?_ | with_reducible refine lst_i (by simp only [List.length]; decide) ?_ | with_reducible refine ref_i (by simp only [List.length]; decide) ?_ | with_reducible refine ifp_t (by with_unfolding_all rfl) ?_ | with_reducible refine ifp_f (by with_unfolding_all rfl) ?_ | with_reducible refine find_i ?_ | with_reducible refine find3_i ?_))
          refine app_i (hF _) (by simp; omega) ?_
          rw [hFF]
          (repeat (first | with_reducible refine bnd_i ?_ | with_reducible refine ret_i ?_ | with_reducible refine getv_i (by with_unfolding_all rfl) ?_ | with_reducible refine setv_i (by with_unfolding_all rfl) (by simp only [lset]; rfl) ?_ | with_reducible refine seqF_i ?_ | with_reducible refine boolV_i ?_ | with_reducible refine tup_tgt (by with_unfolding_all rfl) ?_ | with_reducible refine tgts_i ?_ | with_reducible refine tgtN_i ?_ | with_reducible refine add_i ?_ | with_reducible refine sub_i ?_ | with_reducible refine neg_i ?_ | with_reducible refine aadd_i ?_ | with_reducible refine asub_i ?_ | with_reducible refine mod_i (by decide) ?_ | with_reducible refine div_i (by decide) ?_ | with_reducible refine int_i ?_ | with_reducible refine lst_i' ?_ | with_reducible refine itm_s ?_ | with_reducible refine itm_t ?_ | with_reducible refine comp_i ?_ | with_reducible refine tr_b ?_ | with_reducible refine tr_n ?_ | with_reducible refine is_n ?_ | with_reducible refine isnt_n ?_ | with_reducible refine if_t (by with_unfolding_all rfl) ?_ | with_reducible refine if_f (by with_unfolding_all rfl) ?_ | with_reducible refine fnW_i (by with_unfolding_all rfl) (by with_unfolding_all rfl) ?_ | with_reducible refine gdW_i (by with_unfolding_all exact trivial) ?_ | with_reducible refine tup_i (by simp only [List.length]; decide) ?_ | with_reducible refine lst_i (by simp only [List.length]; decide) ?_ | with_reducible refine ref_i (by simp only [List.length]; decide) ?_ | with_reducible refine ifp_t (by with_unfolding_all rfl) ?_ | with_reducible refine ifp_f (by with_unfolding_all rfl) ?_ | with_reducible refine find_i ?_ | with_reducible refine find3_i ?_))
          refine h3 _ ⟨by rw [List.append_assoc]; exact hel, some (.int r), ?_⟩
          have e4 : (fnd W T (k + 1) ++ (e ++ [r]).map fun r => (k + 1, r)).map pairI = (fnd W T (k + 1) ++ e.map fun r => (k + 1, r)).map pairI ++ [pairI (k + 1, r)] := by simp
          rw [e4]; rfl
        · obtain ⟨hel, c6, rfl⟩ := hI3
          rw [List.append_nil] at hel
          subst hel
          rw [← fnd_succ, hO]
          refine h1 _ ⟨by omega, _, _, _, _, _, _, ?_, ?_, hnn, rfl⟩
          · rw [← hO]; exact hF _
          · rw [← hO]; exact hG _
        · have : (objs ++ ext ++ [O.list (nV (lev W T (k + 1)))]).set objs.length (O.list ((fnd W T (k + 1) ++ ([] : List Nat).map fun r => (k + 1, r)).map pairI)) = objs ++ ext ++ [O.list (nV (lev W T (k + 1)))] := by
            simp only [List.map_nil, List.append_nil]
            exact set_self' (lst_app hfd)
          rw [this]
      · obtain ⟨_, ext, u, a4, a5, a6, a7, hfd, hu, hun, rfl⟩ := hI
        exact hK _ ⟨ext, _, _, _, _, _, hfd, rfl⟩
    rintro _ ⟨ext, a2, a4, a5, a6, a7, hfd, rfl⟩
    (repeat (first | with_reducible refine bnd_i ?_ | with_reducible refine ret_i ?_ | with_reducible refine getv_i (by with_unfolding_all rfl) ?_ | with_reducible refine setv_i (by with_unfolding_all rfl) (by simp only [lset]; rfl) ?_ | with_reducible refine seqF_i ?_ | with_reducible refine boolV_i ?_ | with_reducible refine tup_tgt (by with_unfolding_all rfl) ?_ | with_reducible refine tgts_i ?_ | with_reducible refine tgtN_i ?_ | with_reducible refine add_i ?_ | with_reducible refine sub_i ?_ | with_reducible refine neg_i ?_ | with_reducible refine aadd_i ?_ | with_reducible refine asub_i ?_ | with_reducible refine mod_i (by decide) ?_ | with_reducible refine div_i (by decide) ?_ | with_reducible refine int_i ?_ | with_reducible refine lst_i' ?_ | with_reducible refine itm_s ?_ | with_reducible refine itm_t ?_ | with_reducible refine comp_i ?_ | with_reducible refine tr_b ?_ | with_reducible refine tr_n ?_ | with_reducible refine is_n ?_ | with_reducible refine isnt_n ?_ | with_reducible refine if_t (by with_unfolding_all rfl) ?_ | with_reducible refine if_f (by with_unfolding_all rfl) ?_ | with_reducible refine fnW_i (by with_unfolding_all rfl) (by with_unfolding_all rfl) ?_ | with_reducible refine gdW_i (by with_unfolding_all exact trivial) ?_ | with_reducible refine tup_i (by simp only [List.length]; decide) ?_ | with_reducible refine lst_i (by simp only [List.length]; decide) ?_ | with_reducible refine ref_i (by simp only [List.length]; decide) ?_ | with_reducible refine ifp_t (by with_unfolding_all rfl) ?_ | with_reducible refine ifp_f (by with_unfolding_all rfl) ?_ | with_reducible refine find_i ?_ | with_reducible refine find3_i ?_))
    have hfl := fnd_len (W := W) hT (W.length + 1)
    refine sorted_i hfd ?_ (by omega) (fnd_nodup W T _) (fun p hp => ?_) (fun qs h1 h2 => ?_)
    · have : (0, T) ∈ fnd W T (W.length + 1) := fnd_mem.mpr ⟨by show 0 < _; omega, by simp [lev]⟩
      exact List.length_pos_iff.mpr (List.ne_nil_of_mem this)
    · have := lev_le W T p.1 p.2 (fnd_mem.mp hp).2
      omega
    · (repeat (first | with_reducible refine bnd_i ?_ | with_reducible refine ret_i ?_ | with_reducible refine getv_i (by with_unfolding_all rfl) ?_ | with_reducible refine setv_i (by with_unfolding_all rfl) (by simp only [lset]; rfl) ?_ | with_reducible refine seqF_i ?_ | with_reducible refine boolV_i ?_ | with_reducible refine tup_tgt (by with_unfolding_all rfl) ?_ | with_reducible refine tgts_i ?_ | with_reducible refine tgtN_i ?_ | with_reducible refine add_i ?_ | with_reducible refine sub_i ?_ | with_reducible refine neg_i ?_ | with_reducible refine aadd_i ?_ | with_reducible refine asub_i ?_ | with_reducible refine mod_i (by decide) ?_ | with_reducible refine div_i (by decide) ?_ | with_reducible refine int_i ?_ | with_reducible refine lst_i' ?_ | with_reducible refine itm_s ?_ | with_reducible refine itm_t ?_ | with_reducible refine comp_i ?_ | with_reducible refine tr_b ?_ | with_reducible refine tr_n ?_ | with_reducible refine is_n ?_ | with_reducible refine isnt_n ?_ | with_reducible refine if_t (by with_unfolding_all rfl) ?_ | with_reducible refine if_f (by with_unfolding_all rfl) ?_ | with_reducible refine fnW_i (by with_unfolding_all rfl) (by with_unfolding_all rfl) ?_ | with_reducible refine gdW_i (by with_unfolding_all exact trivial) ?_ | with_reducible refine tup_i (by simp only [List.length]; decide) ?_ | with_reducible refine lst_i (by simp only [List.length]; decide) ?_ | with_reducible refine ref_i (by simp only [List.length]; decide) ?_ | with_reducible refine ifp_t (by with_unfolding_all rfl) ?_ | with_reducible refine ifp_f (by with_unfolding_all rfl) ?_ | with_reducible refine find_i ?_ | with_reducible refine find3_i ?_))
      exact hQ _ _ h1 h2
end Mine

namespace Mine
noncomputable def fd_law_ways : FuncData := (fdO 189).get (by decide +kernel)
theorem is_law_ways : FnIs PG 189 fd_law_ways (stmtsOf fd_law_ways.body) ["table", "weights", "place", "rest", "work", "told"] ["table", "weights", "place", "rest", "work"] := by
  refine ⟨fun q => fnAt_of (by kernel_rfl), fun q => by kernel_rfl, by kernel_rfl, by kernel_rfl, by kernel_rfl, by kernel_rfl, by kernel_rfl, by kernel_rfl, by kernel_rfl, ?_, ?_, ?_⟩ <;> decide +kernel
structure WS (W : List Nat) (P : List NN) : Prop where
  nd : P.Nodup
  cl : Closed W P
  inb : ∀ x ∈ P, inB W x
def spec_ways (n : Nat) : Spec := fun vs kvs objs Q => ∃ (i j r : Nat) (W : List Nat) (k q : Nat) (P Wk : List NN), vs = [.inst C i, .lst (wV W), .int k, .int q, .ref r] ∧ W.length ≤ 5 ∧ (∀ w ∈ W, 1 ≤ w) ∧ W.length < k + n ∧ k ≤ W.length ∧ q < 8 ∧
  TB objs i j ((tabP W P).map prV) ∧ lstAt objs r = some (Wk.map pairI) ∧ r ≠ j ∧ WS W P ∧ Wk.length ≤ P.length + k ∧
  ∀ N N' : List NN, N'.Perm N → WS W (P ++ N) → (k, q) ∈ P ++ N → (∀ x ∈ N, Rch W (k, q) x) → Q (.str (str (cnt (W.drop k) q))) ((objs.set j (O.list ((tabP W (P ++ N)).map prV))).set r (O.list ((Wk ++ N').map pairI)))
theorem tb_set2 {objs : List O} {i j r : Nat} {l l' : List V} {m m' : List V} (h : TB objs i j l) (hr : lstAt objs r = some m) (hne : r ≠ j) : TB ((objs.set j (.list l')).set r (.list m')) i j l' ∧ lstAt ((objs.set j (.list l')).set r (.list m')) r = some m' := by
  have h1 := h.set (l' := l')
  have hr1 : lstAt (objs.set j (.list l')) r = some m := by rw [lst_set_ne hne.symm]; exact hr
  refine ⟨⟨?_, ?_⟩, lst_set hr1⟩
  · rw [List.getElem?_set_ne]
    · exact h1.1
    · intro e
      have := lstAt_some hr1
      rw [e] at this
      rw [h1.1] at this; cases this
  · rw [lst_set_ne hne]; exact h1.2
theorem set_swap {objs : List O} {j r : Nat} {a a' b b' : O} (hne : r ≠ j) : ((objs.set j a).set r b).set j a' = (objs.set j a').set r b := by
  rw [List.set_comm _ _ hne, List.set_set]
theorem drop_cons {W : List Nat} {k : Nat} (h : k < W.length) : W.drop k = W.getD k 0 :: W.drop (k + 1) := by
  rw [List.drop_eq_getElem_cons h]; simp [List.getD_eq_getElem?_getD, h]
theorem Closed.app {W : List Nat} {P : List NN} {k q : Nat} (h : Closed W P) (h1 : k < W.length → (k + 1, q) ∈ P ∧ (W.getD k 0 ≤ q → (k + 1, q - W.getD k 0) ∈ P)) : Closed W (P ++ [(k, q)]) := fun a b hab ha => by
  rcases List.mem_append.mp hab with hab | hab
  · obtain ⟨h2, h3⟩ := h a b hab ha
    exact ⟨List.mem_append_left _ h2, fun h => List.mem_append_left _ (h3 h)⟩
  · rw [List.mem_singleton] at hab
    injection hab with e1 e2
    subst e1; subst e2
    obtain ⟨h2, h3⟩ := h1 ha
    exact ⟨List.mem_append_left _ h2, fun h => List.mem_append_left _ (h3 h)⟩
theorem WS.app {W : List Nat} {P : List NN} {k q : Nat} (h : WS W P) (hno : (k, q) ∉ P) (hb : inB W (k, q)) (h1 : k < W.length → (k + 1, q) ∈ P ∧ (W.getD k 0 ≤ q → (k + 1, q - W.getD k 0) ∈ P)) : WS W (P ++ [(k, q)]) := by
  refine ⟨?_, h.cl.app h1, fun x hx => ?_⟩
  · rw [List.nodup_append]
    exact ⟨h.nd, by simp, fun a ha b hb e => hno (by rw [List.mem_singleton.mp hb] at e; exact e ▸ ha)⟩
  · rcases List.mem_append.mp hx with hx | hx
    · exact h.inb x hx
    · rw [List.mem_singleton.mp hx]; exact hb
theorem mod4_nat (a : Nat) : ((a : Int)).fmod 4 = ((a % 4 : Nat) : Int) := by rw [Int.fmod_eq_emod_of_nonneg _ (by decide)]; omega
theorem ok_law_ways : ∀ n, FnOK PG (4 + n) 189 5 [] (spec_ways n)
  | 0 => by
    intro κ Φ A _ _ _ _ _ _ g σ st vs xs kvs kxs Q _ _ _ _ _ h
    obtain ⟨i, j, r, W, k, q, P, Wk, rfl, hW, hw1, hn, hkW, hq, hTB, hr, hrj, hP, hWk, hQ⟩ := h
    omega
  | n + 1 => by
    have ih := ok_law_ways n
    refine fn_ok (full := fun vs _ => vs) is_law_ways (b_cons (s_Assign (k := 5) (r_SubInst (r_Name (k := 0) (by kernel_rfl)) (r_Call (by kernel_rfl) (rs_cons (r_Name (k := 2) (by kernel_rfl)) (rs_cons (r_Name (k := 3) (by kernel_rfl)) (rs_cons (r_BinOp (r_BinOp (r_Name (k := 2) (by kernel_rfl)) (r_Name (k := 3) (by kernel_rfl))) r_int) rs_nil))) rk_nil (cal_fn ok_law_name (by dsimp only; omega)) (.inr fun q => by kernel_rfl)) sp_getitem ok_getitem (by dsimp only; omega)) (by kernel_rfl)) (b_cons (s_If (t_Compare (r_Name (k := 5) (by kernel_rfl)) r_none) (b_cons (s_Expr (r_Meth (r_Name (k := 4) (by kernel_rfl)) (meth_lst F.slot_list_append F.type_list_append) (rs_cons (r_Tuple (rs_cons (r_Name (k := 2) (by kernel_rfl)) (rs_cons (r_Name (k := 3) (by kernel_rfl)) rs_nil))) rs_nil) rk_nil cal_append keep_builtin)) (b_cons (s_If (t_Compare (r_Name (k := 2) (by kernel_rfl)) (r_Call (by kernel_rfl) (rs_cons (r_Name (k := 1) (by kernel_rfl)) rs_nil) rk_nil cal_len keep_builtin)) (b_cons (s_Assign (k := 5) (r_IfExp (t_Compare (r_Name (k := 3) (by kernel_rfl)) r_int) r_str r_str) (by kernel_rfl)) b_nil) (b_cons (s_Assign (k := 5) (r_Call (by kernel_rfl) (rs_cons (r_Name (k := 0) (by kernel_rfl)) (rs_cons (r_Name (k := 1) (by kernel_rfl)) (rs_cons (r_BinOp (r_Name (k := 2) (by kernel_rfl)) r_int) (rs_cons (r_Name (k := 3) (by kernel_rfl)) (rs_cons (r_Name (k := 4) (by kernel_rfl)) rs_nil))))) rk_nil (cal_fn ih (Nat.lt_succ_self _)) (.inr fun q => by kernel_rfl)) (by kernel_rfl)) (b_cons (s_If (t_Compare (r_Sub (r_Name (k := 1) (by kernel_rfl)) (r_Name (k := 2) (by kernel_rfl))) (r_Name (k := 3) (by kernel_rfl))) (b_cons (s_Assign (k := 5) (r_BinOp (r_Name (k := 5) (by kernel_rfl)) (r_Call (by kernel_rfl) (rs_cons (r_Name (k := 0) (by kernel_rfl)) (rs_cons (r_Name (k := 1) (by kernel_rfl)) (rs_cons (r_BinOp (r_Name (k := 2) (by kernel_rfl)) r_int) (rs_cons (r_BinOp (r_Name (k := 3) (by kernel_rfl)) (r_Sub (r_Name (k := 1) (by kernel_rfl)) (r_Name (k := 2) (by kernel_rfl)))) (rs_cons (r_Name (k := 4) (by kernel_rfl)) rs_nil))))) rk_nil (cal_fn ih (Nat.lt_succ_self _)) (.inr fun q => by kernel_rfl))) (by kernel_rfl)) b_nil) b_nil) b_nil))) (b_cons (s_AssignT (r_Name (k := 5) (by kernel_rfl)) (a_SubInst (r_Name (k := 0) (by kernel_rfl)) (r_Call (by kernel_rfl) (rs_cons (r_Name (k := 2) (by kernel_rfl)) (rs_cons (r_Name (k := 3) (by kernel_rfl)) (rs_cons (r_BinOp (r_BinOp (r_BinOp (r_Name (k := 2) (by kernel_rfl)) (r_Name (k := 3) (by kernel_rfl))) r_int) r_int) rs_nil))) rk_nil (cal_fn ok_law_name (by dsimp only; omega)) (.inr fun q => by kernel_rfl)) sp_setitem ok_setitem (by dsimp only; omega))) b_nil))) b_nil) (b_cons (s_Return (r_Name (k := 5) (by kernel_rfl))) b_nil))) ?_ ?_
    · intro q s xs kxs X h1 h2
      obtain ⟨a, b, c, d, e, rfl⟩ := len5 h1
      obtain rfl := len0 h2
      exact ⟨[a, b, c, d, e], kp_binds X (fun _ => by kernel_rfl), fun g vs kvs rv rk => rv⟩
    · intro vs kvs objs Q h1 h2 h
      obtain ⟨i, j, r, W, k, q, P, Wk, rfl, hW, hw1, hn, hkW, hq, hTB, hr, hrj, hP, hWk, hQ⟩ := h
      rw [show initLoc ["table", "weights", "place", "rest", "work", "told"] ["table", "weights", "place", "rest", "work"] [.inst C i, .lst (wV W), .int k, .int q, .ref r] = [some (.inst C i), some (.lst (wV W)), some (.int k), some (.int q), some (.ref r), none] from by kernel_rfl]
      have hz : 100000 ≤ sizeLine := by decide
      have hk7 : k < 7 := by omega
      have hTab := tabP_tab hW hP.nd hP.inb
      have hP48 := len_48 hW hP.nd hP.inb
      refine seqF_of (fun σ => σ = ⟨[some (.inst C i), some (.lst (wV W)), some (.int k), some (.int q), some (.ref r), some (if (k, q) ∈ P then .str (str (cnt (W.drop k) q)) else .none)], objs⟩) (fun K hK => ?_) ?_
      · (repeat (first | with_reducible refine bnd_i ?_ | with_reducible refine ret_i ?_ | with_reducible refine getv_i (by with_unfolding_all rfl) ?_ | with_reducible refine setv_i (by with_unfolding_all rfl) (by simp only [lset]; rfl) ?_ | with_reducible refine seqF_i ?_ | with_reducible refine boolV_i ?_ | with_reducible refine tup_tgt (by with_unfolding_all rfl) ?_ | with_reducible refine tgts_i ?_ | with_reducible refine tgtN_i ?_ | with_reducible refine add_i ?_ | with_reducible refine sub_i ?_ | with_reducible refine neg_i ?_ | with_reducible refine aadd_i ?_ | with_reducible refine asub_i ?_ | with_reducible refine mod_i (by decide) ?_ | with_reducible refine div_i (by decide) ?_ | with_reducible refine int_i ?_ | with_reducible refine lst_i' ?_ | with_reducible refine itm_s ?_ | with_reducible refine itm_t ?_ | with_reducible refine comp_i ?_ | with_reducible refine tr_b ?_ | with_reducible refine tr_n ?_ | with_reducible refine is_n ?_ | with_reducible refine isnt_n ?_ | with_reducible refine if_t (by with_unfolding_all rfl) ?_ | with_reducible refine if_f (by with_unfolding_all rfl) ?_ | with_reducible refine fnW_i (by with_unfolding_all rfl) (by with_unfolding_all rfl) ?_ | with_reducible refine gdW_i (by with_unfolding_all exact trivial) ?_ | with_reducible refine tup_i (by simp only [List.length]; decide) ?_ | with_reducible refine lst_i (by simp only [List.length]; decide) ?_ | with_reducible refine ref_i (by simp only [List.length]; decide) ?_ | with_reducible refine ifp_t (by with_unfolding_all rfl) ?_ | with_reducible refine ifp_f (by with_unfolding_all rfl) ?_ | with_reducible refine find_i ?_ | with_reducible refine find3_i ?_))
        rw [show (k : Int) + (q : Int) = ((k + q : Nat) : Int) by omega, mod4_nat]
        refine ⟨k, q, _, rfl, hk7, hq, ?_⟩
        (repeat (first | with_reducible refine bnd_i ?_ | with_reducible refine ret_i ?_ | with_reducible refine getv_i (by with_unfolding_all rfl) ?_ | with_reducible refine setv_i (by with_unfolding_all rfl) (by simp only [lset]; rfl) ?_ | with_reducible refine seqF_i ?_ | with_reducible refine boolV_i ?_ | with_reducible refine tup_tgt (by with_unfolding_all rfl) ?_ | with_reducible refine tgts_i ?_ | with_reducible refine tgtN_i ?_ | with_reducible refine add_i ?_ | with_reducible refine sub_i ?_ | with_reducible refine neg_i ?_ | with_reducible refine aadd_i ?_ | with_reducible refine asub_i ?_ | with_reducible refine mod_i (by decide) ?_ | with_reducible refine div_i (by decide) ?_ | with_reducible refine int_i ?_ | with_reducible refine lst_i' ?_ | with_reducible refine itm_s ?_ | with_reducible refine itm_t ?_ | with_reducible refine comp_i ?_ | with_reducible refine tr_b ?_ | with_reducible refine tr_n ?_ | with_reducible refine is_n ?_ | with_reducible refine isnt_n ?_ | with_reducible refine if_t (by with_unfolding_all rfl) ?_ | with_reducible refine if_f (by with_unfolding_all rfl) ?_ | with_reducible refine fnW_i (by with_unfolding_all rfl) (by with_unfolding_all rfl) ?_ | with_reducible refine gdW_i (by with_unfolding_all exact trivial) ?_ | with_reducible refine tup_i (by simp only [List.length]; decide) ?_ | with_reducible refine lst_i (by simp only [List.length]; decide) ?_ | with_reducible refine ref_i (by simp only [List.length]; decide) ?_ | with_reducible refine ifp_t (by with_unfolding_all rfl) ?_ | with_reducible refine ifp_f (by with_unfolding_all rfl) ?_ | with_reducible refine find_i ?_ | with_reducible refine find3_i ?_))
        refine instW_i hTB.1 rfl ⟨_, _, _, _, rfl, hTB, hTab, nm_okK hk7 hq _, ?_⟩
        rw [tabP_get hW hk7 hq _ hP.inb]
        (repeat (first | with_reducible refine bnd_i ?_ | with_reducible refine ret_i ?_ | with_reducible refine getv_i (by with_unfolding_all rfl) ?_ | with_reducible refine setv_i (by with_unfolding_all rfl) (by simp only [lset]; rfl) ?_ | with_reducible refine seqF_i ?_ | with_reducible refine boolV_i ?_ | with_reducible refine tup_tgt (by with_unfolding_all rfl) ?_ | with_reducible refine tgts_i ?_ | with_reducible refine tgtN_i ?_ | with_reducible refine add_i ?_ | with_reducible refine sub_i ?_ | with_reducible refine neg_i ?_ | with_reducible refine aadd_i ?_ | with_reducible refine asub_i ?_ | with_reducible refine mod_i (by decide) ?_ | with_reducible refine div_i (by decide) ?_ | with_reducible refine int_i ?_ | with_reducible refine lst_i' ?_ | with_reducible refine itm_s ?_ | with_reducible refine itm_t ?_ | with_reducible refine comp_i ?_ | with_reducible refine tr_b ?_ | with_reducible refine tr_n ?_ | with_reducible refine is_n ?_ | with_reducible refine isnt_n ?_ | with_reducible refine if_t (by with_unfolding_all rfl) ?_ | with_reducible refine if_f (by with_unfolding_all rfl) ?_ | with_reducible refine fnW_i (by with_unfolding_all rfl) (by with_unfolding_all rfl) ?_ | with_reducible refine gdW_i (by with_unfolding_all exact trivial) ?_ | with_reducible refine tup_i (by simp only [List.length]; decide) ?_ | with_reducible refine lst_i (by simp only [List.length]; decide) ?_ | with_reducible refine ref_i (by simp only [List.length]; decide) ?_ | with_reducible refine ifp_t (by with_unfolding_all rfl) ?_ | with_reducible refine ifp_f (by with_unfolding_all rfl) ?_ | with_reducible refine find_i ?_ | with_reducible refine find3_i ?_))
        exact hK _ rfl
      rintro _ rfl
      by_cases hmem : (k, q) ∈ P
      · rw [if_pos hmem]
        (repeat (first | with_reducible refine bnd_i ?_ | with_reducible refine ret_i ?_ | with_reducible refine getv_i (by with_unfolding_all rfl) ?_ | with_reducible refine setv_i (by with_unfolding_all rfl) (by simp only [lset]; rfl) ?_ | with_reducible refine seqF_i ?_ | with_reducible refine boolV_i ?_ | with_reducible refine tup_tgt (by with_unfolding_all rfl) ?_ | with_reducible refine tgts_i ?_ | with_reducible refine tgtN_i ?_ | with_reducible refine add_i ?_ | with_reducible refine sub_i ?_ | with_reducible refine neg_i ?_ | with_reducible refine aadd_i ?_ | with_reducible refine asub_i ?_ | with_reducible refine mod_i (by decide) ?_ | with_reducible refine div_i (by decide) ?_ | with_reducible refine int_i ?_ | with_reducible refine lst_i' ?_ | with_reducible refine itm_s ?_ | with_reducible refine itm_t ?_ | with_reducible refine comp_i ?_ | with_reducible refine tr_b ?_ | with_reducible refine tr_n ?_ | with_reducible refine is_n ?_ | with_reducible refine isnt_n ?_ | with_reducible refine if_t (by with_unfolding_all rfl) ?_ | with_reducible refine if_f (by with_unfolding_all rfl) ?_ | with_reducible refine fnW_i (by with_unfolding_all rfl) (by with_unfolding_all rfl) ?_ | with_reducible refine gdW_i (by with_unfolding_all exact trivial) ?_ | with_reducible refine tup_i (by simp only [List.length]; decide) ?_ | with_reducible refine lst_i (by simp only [List.length]; decide) ?_ | with_reducible refine ref_i (by simp only [List.length]; decide) ?_ | with_reducible refine ifp_t (by with_unfolding_all rfl) ?_ | with_reducible refine ifp_f (by with_unfolding_all rfl) ?_ | with_reducible refine find_i ?_ | with_reducible refine find3_i ?_))
        have := hQ [] [] (List.Perm.refl _) (by rw [List.append_nil]; exact hP) (by rw [List.append_nil]; exact hmem) (fun x hx => by cases hx)
        rw [List.append_nil, List.append_nil, set_self' hTB.2, set_self' hr] at this
        exact this
      rw [if_neg hmem]
      have hset1 : TB (objs.set r (O.list (Wk.map pairI ++ [pairI (k, q)]))) i j ((tabP W P).map prV) := by
        have := (tb_set2 (l' := (tabP W P).map prV) (m' := Wk.map pairI ++ [pairI (k, q)]) hTB hr hrj).1
        rw [set_self' hTB.2] at this
        exact this
      have hlr1 : lstAt (objs.set r (O.list (Wk.map pairI ++ [pairI (k, q)]))) r = some ((Wk ++ [(k, q)]).map pairI) := by rw [lst_set hr, List.map_append]; rfl
      -- work
      (repeat (first | with_reducible refine bnd_i ?_ | with_reducible refine ret_i ?_ | with_reducible refine getv_i (by with_unfolding_all rfl) ?_ | with_reducible refine setv_i (by with_unfolding_all rfl) (by simp only [lset]; rfl) ?_ | with_reducible refine seqF_i ?_ | with_reducible refine boolV_i ?_ | with_reducible refine tup_tgt (by with_unfolding_all rfl) ?_ | with_reducible refine tgts_i ?_ | with_reducible refine tgtN_i ?_ | with_reducible refine add_i ?_ | with_reducible refine sub_i ?_ | with_reducible refine neg_i ?_ | with_reducible refine aadd_i ?_ | with_reducible refine asub_i ?_ | with_reducible refine mod_i (by decide) ?_ | with_reducible refine div_i (by decide) ?_ | with_reducible refine int_i ?_ | with_reducible refine lst_i' ?_ | with_reducible refine itm_s ?_ | with_reducible refine itm_t ?_ | with_reducible refine comp_i ?_ | with_reducible refine tr_b ?_ | with_reducible refine tr_n ?_ | with_reducible refine is_n ?_ | with_reducible refine isnt_n ?_ | with_reducible refine if_t (by with_unfolding_all rfl) ?_ | with_reducible refine if_f (by with_unfolding_all rfl) ?_ | with_reducible refine fnW_i (by with_unfolding_all rfl) (by with_unfolding_all rfl) ?_ | with_reducible refine gdW_i (by with_unfolding_all exact trivial) ?_ | with_reducible refine tup_i (by simp only [List.length]; decide) ?_ | with_reducible refine lst_i (by simp only [List.length]; decide) ?_ | with_reducible refine ref_i (by simp only [List.length]; decide) ?_ | with_reducible refine ifp_t (by with_unfolding_all rfl) ?_ | with_reducible refine ifp_f (by with_unfolding_all rfl) ?_ | with_reducible refine find_i ?_ | with_reducible refine find3_i ?_))
      refine gdW_i (isLst_of hr) ?_
      (repeat (first | with_reducible refine bnd_i ?_ | with_reducible refine ret_i ?_ | with_reducible refine getv_i (by with_unfolding_all rfl) ?_ | with_reducible refine setv_i (by with_unfolding_all rfl) (by simp only [lset]; rfl) ?_ | with_reducible refine seqF_i ?_ | with_reducible refine boolV_i ?_ | with_reducible refine tup_tgt (by with_unfolding_all rfl) ?_ | with_reducible refine tgts_i ?_ | with_reducible refine tgtN_i ?_ | with_reducible refine add_i ?_ | with_reducible refine sub_i ?_ | with_reducible refine neg_i ?_ | with_reducible refine aadd_i ?_ | with_reducible refine asub_i ?_ | with_reducible refine mod_i (by decide) ?_ | with_reducible refine div_i (by decide) ?_ | with_reducible refine int_i ?_ | with_reducible refine lst_i' ?_ | with_reducible refine itm_s ?_ | with_reducible refine itm_t ?_ | with_reducible refine comp_i ?_ | with_reducible refine tr_b ?_ | with_reducible refine tr_n ?_ | with_reducible refine is_n ?_ | with_reducible refine isnt_n ?_ | with_reducible refine if_t (by with_unfolding_all rfl) ?_ | with_reducible refine if_f (by with_unfolding_all rfl) ?_ | with_reducible refine fnW_i (by with_unfolding_all rfl) (by with_unfolding_all rfl) ?_ | with_reducible refine gdW_i (by with_unfolding_all exact trivial) ?_ | with_reducible refine tup_i (by simp only [List.length]; decide) ?_ | with_reducible refine lst_i (by simp only [List.length]; decide) ?_ | with_reducible refine ref_i (by simp only [List.length]; decide) ?_ | with_reducible refine ifp_t (by with_unfolding_all rfl) ?_ | with_reducible refine ifp_f (by with_unfolding_all rfl) ?_ | with_reducible refine find_i ?_ | with_reducible refine find3_i ?_))
      refine app_i hr (by simp; omega) ?_
      (repeat (first | with_reducible refine bnd_i ?_ | with_reducible refine ret_i ?_ | with_reducible refine getv_i (by with_unfolding_all rfl) ?_ | with_reducible refine setv_i (by with_unfolding_all rfl) (by simp only [lset]; rfl) ?_ | with_reducible refine boolV_i ?_ | with_reducible refine tup_tgt (by with_unfolding_all rfl) ?_ | with_reducible refine tgts_i ?_ | with_reducible refine tgtN_i ?_ | with_reducible refine add_i ?_ | with_reducible refine sub_i ?_ | with_reducible refine neg_i ?_ | with_reducible refine aadd_i ?_ | with_reducible refine asub_i ?_ | with_reducible refine mod_i (by decide) ?_ | with_reducible refine div_i (by decide) ?_ | with_reducible refine int_i ?_ | with_reducible refine lst_i' ?_ | with_reducible refine itm_s ?_ | with_reducible refine itm_t ?_ | with_reducible refine comp_i ?_ | with_reducible refine tr_b ?_ | with_reducible refine tr_n ?_ | with_reducible refine is_n ?_ | with_reducible refine isnt_n ?_ | with_reducible refine if_t (by with_unfolding_all rfl) ?_ | with_reducible refine if_f (by with_unfolding_all rfl) ?_ | with_reducible refine fnW_i (by with_unfolding_all rfl) (by with_unfolding_all rfl) ?_ | with_reducible refine gdW_i (by with_unfolding_all exact trivial) ?_ | with_reducible refine tup_i (by simp only [List.length]; decide) ?_ | with_reducible refine lst_i (by simp only [List.length]; decide) ?_ | with_reducible refine ref_i (by simp only [List.length]; decide) ?_ | with_reducible refine ifp_t (by with_unfolding_all rfl) ?_ | with_reducible refine ifp_f (by with_unfolding_all rfl) ?_ | with_reducible refine find_i ?_ | with_reducible refine find3_i ?_))
      generalize hO1 : objs.set r (O.list (Wk.map pairI ++ [pairI (k, q)])) = O1 at hset1 hlr1
      refine seqF_of (fun σ => ∃ N N' : List NN, N'.Perm N ∧ WS W (P ++ N) ∧ (k < W.length → (k + 1, q) ∈ P ++ N ∧ (W.getD k 0 ≤ q → (k + 1, q - W.getD k 0) ∈ P ++ N)) ∧ (∀ x ∈ N, k < x.1 ∧ Rch W (k, q) x) ∧ σ = ⟨[some (.inst C i), some (.lst (wV W)), some (.int k), some (.int q), some (.ref r), some (.str (str (cnt (W.drop k) q)))], (O1.set j (O.list ((tabP W (P ++ N)).map prV))).set r (O.list ((Wk ++ [(k, q)] ++ N').map pairI))⟩) (fun K hK => ?_) ?_
      · (repeat (first | with_reducible refine bnd_i ?_ | with_reducible refine ret_i ?_ | with_reducible refine getv_i (by with_unfolding_all rfl) ?_ | with_reducible refine setv_i (by with_unfolding_all rfl) (by simp only [lset]; rfl) ?_ | with_reducible refine seqF_i ?_ | with_reducible refine boolV_i ?_ | with_reducible refine tup_tgt (by with_unfolding_all rfl) ?_ | with_reducible refine tgts_i ?_ | with_reducible refine tgtN_i ?_ | with_reducible refine add_i ?_ | with_reducible refine sub_i ?_ | with_reducible refine neg_i ?_ | with_reducible refine aadd_i ?_ | with_reducible refine asub_i ?_ | with_reducible refine mod_i (by decide) ?_ | with_reducible refine div_i (by decide) ?_ | with_reducible refine int_i ?_ | with_reducible refine lst_i' ?_ | with_reducible refine itm_s ?_ | with_reducible refine itm_t ?_ | with_reducible refine comp_i ?_ | with_reducible refine tr_b ?_ | with_reducible refine tr_n ?_ | with_reducible refine is_n ?_ | with_reducible refine isnt_n ?_ | with_reducible refine if_t (by with_unfolding_all rfl) ?_ | with_reducible refine if_f (by with_unfolding_all rfl) ?_ | with_reducible refine fnW_i (by with_unfolding_all rfl) (by with_unfolding_all rfl) ?_ | with_reducible refine gdW_i (by with_unfolding_all exact trivial) ?_ | with_reducible refine tup_i (by simp only [List.length]; decide) ?_ | with_reducible refine lst_i (by simp only [List.length]; decide) ?_ | with_reducible refine ref_i (by simp only [List.length]; decide) ?_ | with_reducible refine ifp_t (by with_unfolding_all rfl) ?_ | with_reducible refine ifp_f (by with_unfolding_all rfl) ?_ | with_reducible refine find_i ?_ | with_reducible refine find3_i ?_))
        refine len_l rfl (by simp; omega) ?_
        rw [List.length_map]
        refine eq_i (fun he => ?_) (fun he => ?_)
        · have hk : k = W.length := by omega
          (repeat (first | with_reducible refine bnd_i ?_ | with_reducible refine ret_i ?_ | with_reducible refine getv_i (by with_unfolding_all rfl) ?_ | with_reducible refine setv_i (by with_unfolding_all rfl) (by simp only [lset]; rfl) ?_ | with_reducible refine seqF_i ?_ | with_reducible refine boolV_i ?_ | with_reducible refine tup_tgt (by with_unfolding_all rfl) ?_ | with_reducible refine tgts_i ?_ | with_reducible refine tgtN_i ?_ | with_reducible refine add_i ?_ | with_reducible refine sub_i ?_ | with_reducible refine neg_i ?_ | with_reducible refine aadd_i ?_ | with_reducible refine asub_i ?_ | with_reducible refine mod_i (by decide) ?_ | with_reducible refine div_i (by decide) ?_ | with_reducible refine int_i ?_ | with_reducible refine lst_i' ?_ | with_reducible refine itm_s ?_ | with_reducible refine itm_t ?_ | with_reducible refine comp_i ?_ | with_reducible refine tr_b ?_ | with_reducible refine tr_n ?_ | with_reducible refine is_n ?_ | with_reducible refine isnt_n ?_ | with_reducible refine if_t (by with_unfolding_all rfl) ?_ | with_reducible refine if_f (by with_unfolding_all rfl) ?_ | with_reducible refine fnW_i (by with_unfolding_all rfl) (by with_unfolding_all rfl) ?_ | with_reducible refine gdW_i (by with_unfolding_all exact trivial) ?_ | with_reducible refine tup_i (by simp only [List.length]; decide) ?_ | with_reducible refine lst_i (by simp only [List.length]; decide) ?_ | with_reducible refine ref_i (by simp only [List.length]; decide) ?_ | with_reducible refine ifp_t (by with_unfolding_all rfl) ?_ | with_reducible refine ifp_f (by with_unfolding_all rfl) ?_ | with_reducible refine find_i ?_ | with_reducible refine find3_i ?_))
          have hfin : ∀ v, v = V.str (str (cnt (W.drop k) q)) → K .next ⟨[some (.inst C i), some (.lst (wV W)), some (.int k), some (.int q), some (.ref r), some v], O1⟩ := fun v hv => by
            refine hK _ ⟨[], [], List.Perm.refl _, by rw [List.append_nil]; exact hP, fun h => absurd h (by omega), (fun x hx => by cases hx), ?_⟩
            rw [List.append_nil, List.append_nil, set_self' hset1.2, set_self' hlr1, hv]
          refine eq_i (fun hq0 => ?_) (fun hq0 => ?_)
          · (repeat (first | with_reducible refine bnd_i ?_ | with_reducible refine ret_i ?_ | with_reducible refine getv_i (by with_unfolding_all rfl) ?_ | with_reducible refine setv_i (by with_unfolding_all rfl) (by simp only [lset]; rfl) ?_ | with_reducible refine seqF_i ?_ | with_reducible refine boolV_i ?_ | with_reducible refine tup_tgt (by with_unfolding_all rfl) ?_ | with_reducible refine tgts_i ?_ | with_reducible refine tgtN_i ?_ | with_reducible refine add_i ?_ | with_reducible refine sub_i ?_ | with_reducible refine neg_i ?_ | with_reducible refine aadd_i ?_ | with_reducible refine asub_i ?_ | with_reducible refine mod_i (by decide) ?_ | with_reducible refine div_i (by decide) ?_ | with_reducible refine int_i ?_ | with_reducible refine lst_i' ?_ | with_reducible refine itm_s ?_ | with_reducible refine itm_t ?_ | with_reducible refine comp_i ?_ | with_reducible refine tr_b ?_ | with_reducible refine tr_n ?_ | with_reducible refine is_n ?_ | with_reducible refine isnt_n ?_ | with_reducible refine if_t (by with_unfolding_all rfl) ?_ | with_reducible refine if_f (by with_unfolding_all rfl) ?_ | with_reducible refine fnW_i (by with_unfolding_all rfl) (by with_unfolding_all rfl) ?_ | with_reducible refine gdW_i (by with_unfolding_all exact trivial) ?_ | with_reducible refine tup_i (by simp only [List.length]; decide) ?_ | with_reducible refine lst_i (by simp only [List.length]; decide) ?_ | with_reducible refine ref_i (by simp only [List.length]; decide) ?_ | with_reducible refine ifp_t (by with_unfolding_all rfl) ?_ | with_reducible refine ifp_f (by with_unfolding_all rfl) ?_ | with_reducible refine find_i ?_ | with_reducible refine find3_i ?_))
            exact hfin _ (by rw [hk, List.drop_length, cnt, if_pos (show q = 0 by omega)]; rfl)
          · (repeat (first | with_reducible refine bnd_i ?_ | with_reducible refine ret_i ?_ | with_reducible refine getv_i (by with_unfolding_all rfl) ?_ | with_reducible refine setv_i (by with_unfolding_all rfl) (by simp only [lset]; rfl) ?_ | with_reducible refine seqF_i ?_ | with_reducible refine boolV_i ?_ | with_reducible refine tup_tgt (by with_unfolding_all rfl) ?_ | with_reducible refine tgts_i ?_ | with_reducible refine tgtN_i ?_ | with_reducible refine add_i ?_ | with_reducible refine sub_i ?_ | with_reducible refine neg_i ?_ | with_reducible refine aadd_i ?_ | with_reducible refine asub_i ?_ | with_reducible refine mod_i (by decide) ?_ | with_reducible refine div_i (by decide) ?_ | with_reducible refine int_i ?_ | with_reducible refine lst_i' ?_ | with_reducible refine itm_s ?_ | with_reducible refine itm_t ?_ | with_reducible refine comp_i ?_ | with_reducible refine tr_b ?_ | with_reducible refine tr_n ?_ | with_reducible refine is_n ?_ | with_reducible refine isnt_n ?_ | with_reducible refine if_t (by with_unfolding_all rfl) ?_ | with_reducible refine if_f (by with_unfolding_all rfl) ?_ | with_reducible refine fnW_i (by with_unfolding_all rfl) (by with_unfolding_all rfl) ?_ | with_reducible refine gdW_i (by with_unfolding_all exact trivial) ?_ | with_reducible refine tup_i (by simp only [List.length]; decide) ?_ | with_reducible refine lst_i (by simp only [List.length]; decide) ?_ | with_reducible refine ref_i (by simp only [List.length]; decide) ?_ | with_reducible refine ifp_t (by with_unfolding_all rfl) ?_ | with_reducible refine ifp_f (by with_unfolding_all rfl) ?_ | with_reducible refine find_i ?_ | with_reducible refine find3_i ?_))
            exact hfin _ (by rw [hk, List.drop_length, cnt, if_neg (show ¬ q = 0 by omega)]; rfl)
        · have hkl : k < W.length := by omega
          have hWk' : idxL (wV W) ((k : Nat) : Int) = some (.int (W.getD k 0 : Nat)) := by simp [idxL, List.getD_eq_getElem?_getD, hkl]
          (repeat (first | with_reducible refine bnd_i ?_ | with_reducible refine ret_i ?_ | with_reducible refine getv_i (by with_unfolding_all rfl) ?_ | with_reducible refine setv_i (by with_unfolding_all rfl) (by simp only [lset]; rfl) ?_ | with_reducible refine seqF_i ?_ | with_reducible refine boolV_i ?_ | with_reducible refine tup_tgt (by with_unfolding_all rfl) ?_ | with_reducible refine tgts_i ?_ | with_reducible refine tgtN_i ?_ | with_reducible refine add_i ?_ | with_reducible refine sub_i ?_ | with_reducible refine neg_i ?_ | with_reducible refine aadd_i ?_ | with_reducible refine asub_i ?_ | with_reducible refine mod_i (by decide) ?_ | with_reducible refine div_i (by decide) ?_ | with_reducible refine int_i ?_ | with_reducible refine lst_i' ?_ | with_reducible refine itm_s ?_ | with_reducible refine itm_t ?_ | with_reducible refine comp_i ?_ | with_reducible refine tr_b ?_ | with_reducible refine tr_n ?_ | with_reducible refine is_n ?_ | with_reducible refine isnt_n ?_ | with_reducible refine if_t (by with_unfolding_all rfl) ?_ | with_reducible refine if_f (by with_unfolding_all rfl) ?_ | with_reducible refine fnW_i (by with_unfolding_all rfl) (by with_unfolding_all rfl) ?_ | with_reducible refine gdW_i (by with_unfolding_all exact trivial) ?_ | with_reducible refine tup_i (by simp only [List.length]; decide) ?_ | with_reducible refine lst_i (by simp only [List.length]; decide) ?_ | with_reducible refine ref_i (by simp only [List.length]; decide) ?_ | with_reducible refine ifp_t (by with_unfolding_all rfl) ?_ | with_reducible refine ifp_f (by with_unfolding_all rfl) ?_ | with_reducible refine find_i ?_ | with_reducible refine find3_i ?_))
          rw [show (k : Int) + 1 = ((k + 1 : Nat) : Int) by omega]
          refine ⟨i, j, r, W, k + 1, q, P, Wk ++ [(k, q)], rfl, hW, hw1, by omega, by omega, hq, hset1, hlr1, hrj, hP, by simp; omega, fun N1 N1' p1 ws1 in1 rc1 => ?_⟩
          obtain ⟨tb1, lr1⟩ := tb_set2 (l' := (tabP W (P ++ N1)).map prV) (m' := (Wk ++ [(k, q)] ++ N1').map pairI) hset1 hlr1 hrj
          have hp1 : N1'.length = N1.length := p1.length_eq
          have hrc1 : ∀ x ∈ N1, k < x.1 ∧ Rch W (k, q) x := fun x hx => ⟨(rc1 x hx).le.1, .same hkl (rc1 x hx)⟩
          (repeat (first | with_reducible refine bnd_i ?_ | with_reducible refine ret_i ?_ | with_reducible refine getv_i (by with_unfolding_all rfl) ?_ | with_reducible refine setv_i (by with_unfolding_all rfl) (by simp only [lset]; rfl) ?_ | with_reducible refine seqF_i ?_ | with_reducible refine boolV_i ?_ | with_reducible refine tup_tgt (by with_unfolding_all rfl) ?_ | with_reducible refine tgts_i ?_ | with_reducible refine tgtN_i ?_ | with_reducible refine add_i ?_ | with_reducible refine sub_i ?_ | with_reducible refine neg_i ?_ | with_reducible refine aadd_i ?_ | with_reducible refine asub_i ?_ | with_reducible refine mod_i (by decide) ?_ | with_reducible refine div_i (by decide) ?_ | with_reducible refine int_i ?_ | with_reducible refine lst_i' ?_ | with_reducible refine itm_s ?_ | with_reducible refine itm_t ?_ | with_reducible refine comp_i ?_ | with_reducible refine tr_b ?_ | with_reducible refine tr_n ?_ | with_reducible refine is_n ?_ | with_reducible refine isnt_n ?_ | with_reducible refine if_t (by with_unfolding_all rfl) ?_ | with_reducible refine if_f (by with_unfolding_all rfl) ?_ | with_reducible refine fnW_i (by with_unfolding_all rfl) (by with_unfolding_all rfl) ?_ | with_reducible refine gdW_i (by with_unfolding_all exact trivial) ?_ | with_reducible refine tup_i (by simp only [List.length]; decide) ?_ | with_reducible refine lst_i (by simp only [List.length]; decide) ?_ | with_reducible refine ref_i (by simp only [List.length]; decide) ?_ | with_reducible refine ifp_t (by with_unfolding_all rfl) ?_ | with_reducible refine ifp_f (by with_unfolding_all rfl) ?_ | with_reducible refine find_i ?_ | with_reducible refine find3_i ?_))
          refine sub_l rfl (by omega) hWk' ?_
          (repeat (first | with_reducible refine bnd_i ?_ | with_reducible refine ret_i ?_ | with_reducible refine getv_i (by with_unfolding_all rfl) ?_ | with_reducible refine setv_i (by with_unfolding_all rfl) (by simp only [lset]; rfl) ?_ | with_reducible refine seqF_i ?_ | with_reducible refine boolV_i ?_ | with_reducible refine tup_tgt (by with_unfolding_all rfl) ?_ | with_reducible refine tgts_i ?_ | with_reducible refine tgtN_i ?_ | with_reducible refine add_i ?_ | with_reducible refine sub_i ?_ | with_reducible refine neg_i ?_ | with_reducible refine aadd_i ?_ | with_reducible refine asub_i ?_ | with_reducible refine mod_i (by decide) ?_ | with_reducible refine div_i (by decide) ?_ | with_reducible refine int_i ?_ | with_reducible refine lst_i' ?_ | with_reducible refine itm_s ?_ | with_reducible refine itm_t ?_ | with_reducible refine comp_i ?_ | with_reducible refine tr_b ?_ | with_reducible refine tr_n ?_ | with_reducible refine is_n ?_ | with_reducible refine isnt_n ?_ | with_reducible refine if_t (by with_unfolding_all rfl) ?_ | with_reducible refine if_f (by with_unfolding_all rfl) ?_ | with_reducible refine fnW_i (by with_unfolding_all rfl) (by with_unfolding_all rfl) ?_ | with_reducible refine gdW_i (by with_unfolding_all exact trivial) ?_ | with_reducible refine tup_i (by simp only [List.length]; decide) ?_ | with_reducible refine lst_i (by simp only [List.length]; decide) ?_ | with_reducible refine ref_i (by simp only [List.length]; decide) ?_ | with_reducible refine ifp_t (by with_unfolding_all rfl) ?_ | with_reducible refine ifp_f (by with_unfolding_all rfl) ?_ | with_reducible refine find_i ?_ | with_reducible refine find3_i ?_))
          refine le_i (fun hwq => ?_) (fun hwq => ?_)
          · have hwq : W.getD k 0 ≤ q := by omega
            (repeat (first | with_reducible refine bnd_i ?_ | with_reducible refine ret_i ?_ | with_reducible refine getv_i (by with_unfolding_all rfl) ?_ | with_reducible refine setv_i (by with_unfolding_all rfl) (by simp only [lset]; rfl) ?_ | with_reducible refine seqF_i ?_ | with_reducible refine boolV_i ?_ | with_reducible refine tup_tgt (by with_unfolding_all rfl) ?_ | with_reducible refine tgts_i ?_ | with_reducible refine tgtN_i ?_ | with_reducible refine add_i ?_ | with_reducible refine sub_i ?_ | with_reducible refine neg_i ?_ | with_reducible refine aadd_i ?_ | with_reducible refine asub_i ?_ | with_reducible refine mod_i (by decide) ?_ | with_reducible refine div_i (by decide) ?_ | with_reducible refine int_i ?_ | with_reducible refine lst_i' ?_ | with_reducible refine itm_s ?_ | with_reducible refine itm_t ?_ | with_reducible refine comp_i ?_ | with_reducible refine tr_b ?_ | with_reducible refine tr_n ?_ | with_reducible refine is_n ?_ | with_reducible refine isnt_n ?_ | with_reducible refine if_t (by with_unfolding_all rfl) ?_ | with_reducible refine if_f (by with_unfolding_all rfl) ?_ | with_reducible refine fnW_i (by with_unfolding_all rfl) (by with_unfolding_all rfl) ?_ | with_reducible refine gdW_i (by with_unfolding_all exact trivial) ?_ | with_reducible refine tup_i (by simp only [List.length]; decide) ?_ | with_reducible refine lst_i (by simp only [List.length]; decide) ?_ | with_reducible refine ref_i (by simp only [List.length]; decide) ?_ | with_reducible refine ifp_t (by with_unfolding_all rfl) ?_ | with_reducible refine ifp_f (by with_unfolding_all rfl) ?_ | with_reducible refine find_i ?_ | with_reducible refine find3_i ?_))
            rw [show (k : Int) + 1 = ((k + 1 : Nat) : Int) by omega]
            refine sub_l rfl (by omega) hWk' ?_
            (repeat (first | with_reducible refine bnd_i ?_ | with_reducible refine ret_i ?_ | with_reducible refine getv_i (by with_unfolding_all rfl) ?_ | with_reducible refine setv_i (by with_unfolding_all rfl) (by simp only [lset]; rfl) ?_ | with_reducible refine seqF_i ?_ | with_reducible refine boolV_i ?_ | with_reducible refine tup_tgt (by with_unfolding_all rfl) ?_ | with_reducible refine tgts_i ?_ | with_reducible refine tgtN_i ?_ | with_reducible refine add_i ?_ | with_reducible refine sub_i ?_ | with_reducible refine neg_i ?_ | with_reducible refine aadd_i ?_ | with_reducible refine asub_i ?_ | with_reducible refine mod_i (by decide) ?_ | with_reducible refine div_i (by decide) ?_ | with_reducible refine int_i ?_ | with_reducible refine lst_i' ?_ | with_reducible refine itm_s ?_ | with_reducible refine itm_t ?_ | with_reducible refine comp_i ?_ | with_reducible refine tr_b ?_ | with_reducible refine tr_n ?_ | with_reducible refine is_n ?_ | with_reducible refine isnt_n ?_ | with_reducible refine if_t (by with_unfolding_all rfl) ?_ | with_reducible refine if_f (by with_unfolding_all rfl) ?_ | with_reducible refine fnW_i (by with_unfolding_all rfl) (by with_unfolding_all rfl) ?_ | with_reducible refine gdW_i (by with_unfolding_all exact trivial) ?_ | with_reducible refine tup_i (by simp only [List.length]; decide) ?_ | with_reducible refine lst_i (by simp only [List.length]; decide) ?_ | with_reducible refine ref_i (by simp only [List.length]; decide) ?_ | with_reducible refine ifp_t (by with_unfolding_all rfl) ?_ | with_reducible refine ifp_f (by with_unfolding_all rfl) ?_ | with_reducible refine find_i ?_ | with_reducible refine find3_i ?_))
            rw [show (q : Int) - ((W.getD k 0 : Nat) : Int) = ((q - W.getD k 0 : Nat) : Int) by omega]
            refine ⟨i, j, r, W, k + 1, q - W.getD k 0, P ++ N1, Wk ++ [(k, q)] ++ N1', rfl, hW, hw1, by omega, by omega, by omega, tb1, lr1, hrj, ws1, by simp; omega, fun N2 N2' p2 ws2 in2 rc2 => ?_⟩
            refine add_s (by have h1 := cnt_small hW (k + 1) q; have h2 := cnt_small hW (k + 1) (q - W.getD k 0); unfold str; rw [S_len, S_len, List.length_replicate, List.length_replicate]; omega) ?_
            rw [str_add]
            (repeat (first | with_reducible refine bnd_i ?_ | with_reducible refine ret_i ?_ | with_reducible refine getv_i (by with_unfolding_all rfl) ?_ | with_reducible refine setv_i (by with_unfolding_all rfl) (by simp only [lset]; rfl) ?_ | with_reducible refine seqF_i ?_ | with_reducible refine boolV_i ?_ | with_reducible refine tup_tgt (by with_unfolding_all rfl) ?_ | with_reducible refine tgts_i ?_ | with_reducible refine tgtN_i ?_ | with_reducible refine add_i ?_ | with_reducible refine sub_i ?_ | with_reducible refine neg_i ?_ | with_reducible refine aadd_i ?_ | with_reducible refine asub_i ?_ | with_reducible refine mod_i (by decide) ?_ | with_reducible refine div_i (by decide) ?_ | with_reducible refine int_i ?_ | with_reducible refine lst_i' ?_ | with_reducible refine itm_s ?_ | with_reducible refine itm_t ?_ | with_reducible refine comp_i ?_ | with_reducible refine tr_b ?_ | with_reducible refine tr_n ?_ | with_reducible refine is_n ?_ | with_reducible refine isnt_n ?_ | with_reducible refine if_t (by with_unfolding_all rfl) ?_ | with_reducible refine if_f (by with_unfolding_all rfl) ?_ | with_reducible refine fnW_i (by with_unfolding_all rfl) (by with_unfolding_all rfl) ?_ | with_reducible refine gdW_i (by with_unfolding_all exact trivial) ?_ | with_reducible refine tup_i (by simp only [List.length]; decide) ?_ | with_reducible refine lst_i (by simp only [List.length]; decide) ?_ | with_reducible refine ref_i (by simp only [List.length]; decide) ?_ | with_reducible refine ifp_t (by with_unfolding_all rfl) ?_ | with_reducible refine ifp_f (by with_unfolding_all rfl) ?_ | with_reducible refine find_i ?_ | with_reducible refine find3_i ?_))
            refine hK _ ⟨N1 ++ N2, N1' ++ N2', p1.append p2, by rw [← List.append_assoc]; exact ws2, fun _ => ⟨?_, fun _ => ?_⟩, fun x hx => ?_, ?_⟩
            · rw [← List.append_assoc]; exact List.mem_append_left _ in1
            · rw [← List.append_assoc]; exact in2
            · rcases List.mem_append.mp hx with hx | hx
              · exact hrc1 x hx
              · exact ⟨(rc2 x hx).le.1, .less hkl hwq (rc2 x hx)⟩
            · rw [drop_cons hkl, cnt, if_pos hwq, set_swap hrj (b' := O.list []), List.set_set, List.append_assoc P, List.append_assoc (Wk ++ [(k, q)])]
          · have hwq : ¬ W.getD k 0 ≤ q := by omega
            (repeat (first | with_reducible refine bnd_i ?_ | with_reducible refine ret_i ?_ | with_reducible refine getv_i (by with_unfolding_all rfl) ?_ | with_reducible refine setv_i (by with_unfolding_all rfl) (by simp only [lset]; rfl) ?_ | with_reducible refine seqF_i ?_ | with_reducible refine boolV_i ?_ | with_reducible refine tup_tgt (by with_unfolding_all rfl) ?_ | with_reducible refine tgts_i ?_ | with_reducible refine tgtN_i ?_ | with_reducible refine add_i ?_ | with_reducible refine sub_i ?_ | with_reducible refine neg_i ?_ | with_reducible refine aadd_i ?_ | with_reducible refine asub_i ?_ | with_reducible refine mod_i (by decide) ?_ | with_reducible refine div_i (by decide) ?_ | with_reducible refine int_i ?_ | with_reducible refine lst_i' ?_ | with_reducible refine itm_s ?_ | with_reducible refine itm_t ?_ | with_reducible refine comp_i ?_ | with_reducible refine tr_b ?_ | with_reducible refine tr_n ?_ | with_reducible refine is_n ?_ | with_reducible refine isnt_n ?_ | with_reducible refine if_t (by with_unfolding_all rfl) ?_ | with_reducible refine if_f (by with_unfolding_all rfl) ?_ | with_reducible refine fnW_i (by with_unfolding_all rfl) (by with_unfolding_all rfl) ?_ | with_reducible refine gdW_i (by with_unfolding_all exact trivial) ?_ | with_reducible refine tup_i (by simp only [List.length]; decide) ?_ | with_reducible refine lst_i (by simp only [List.length]; decide) ?_ | with_reducible refine ref_i (by simp only [List.length]; decide) ?_ | with_reducible refine ifp_t (by with_unfolding_all rfl) ?_ | with_reducible refine ifp_f (by with_unfolding_all rfl) ?_ | with_reducible refine find_i ?_ | with_reducible refine find3_i ?_))
            refine hK _ ⟨N1, N1', p1, ws1, fun _ => ⟨in1, fun h => absurd h hwq⟩, hrc1, ?_⟩
            rw [drop_cons hkl, cnt, if_neg hwq]; rfl
      rintro _ ⟨N, N', hp, hws, hin, hrc, rfl⟩
      have hno : (k, q) ∉ P ++ N := fun h => by
        rcases List.mem_append.mp h with h | h
        · exact hmem h
        · have := (hrc _ h).1
          exact absurd this (Nat.lt_irrefl _)
      obtain ⟨tb2, lr2⟩ := tb_set2 (l' := (tabP W (P ++ N)).map prV) (m' := (Wk ++ [(k, q)] ++ N').map pairI) hset1 hlr1 hrj
      have hTab2 := tabP_tab hW hws.nd hws.inb
      (repeat (first | with_reducible refine bnd_i ?_ | with_reducible refine ret_i ?_ | with_reducible refine getv_i (by with_unfolding_all rfl) ?_ | with_reducible refine setv_i (by with_unfolding_all rfl) (by simp only [lset]; rfl) ?_ | with_reducible refine seqF_i ?_ | with_reducible refine boolV_i ?_ | with_reducible refine tup_tgt (by with_unfolding_all rfl) ?_ | with_reducible refine tgts_i ?_ | with_reducible refine tgtN_i ?_ | with_reducible refine add_i ?_ | with_reducible refine sub_i ?_ | with_reducible refine neg_i ?_ | with_reducible refine aadd_i ?_ | with_reducible refine asub_i ?_ | with_reducible refine mod_i (by decide) ?_ | with_reducible refine div_i (by decide) ?_ | with_reducible refine int_i ?_ | with_reducible refine lst_i' ?_ | with_reducible refine itm_s ?_ | with_reducible refine itm_t ?_ | with_reducible refine comp_i ?_ | with_reducible refine tr_b ?_ | with_reducible refine tr_n ?_ | with_reducible refine is_n ?_ | with_reducible refine isnt_n ?_ | with_reducible refine if_t (by with_unfolding_all rfl) ?_ | with_reducible refine if_f (by with_unfolding_all rfl) ?_ | with_reducible refine fnW_i (by with_unfolding_all rfl) (by with_unfolding_all rfl) ?_ | with_reducible refine gdW_i (by with_unfolding_all exact trivial) ?_ | with_reducible refine tup_i (by simp only [List.length]; decide) ?_ | with_reducible refine lst_i (by simp only [List.length]; decide) ?_ | with_reducible refine ref_i (by simp only [List.length]; decide) ?_ | with_reducible refine ifp_t (by with_unfolding_all rfl) ?_ | with_reducible refine ifp_f (by with_unfolding_all rfl) ?_ | with_reducible refine find_i ?_ | with_reducible refine find3_i ?_))
      rw [show (k : Int) + (q : Int) + 1 = ((k + q + 1 : Nat) : Int) by omega, mod4_nat]
      refine ⟨k, q, _, rfl, hk7, hq, ?_⟩
      (repeat (first | with_reducible refine bnd_i ?_ | with_reducible refine ret_i ?_ | with_reducible refine getv_i (by with_unfolding_all rfl) ?_ | with_reducible refine setv_i (by with_unfolding_all rfl) (by simp only [lset]; rfl) ?_ | with_reducible refine seqF_i ?_ | with_reducible refine boolV_i ?_ | with_reducible refine tup_tgt (by with_unfolding_all rfl) ?_ | with_reducible refine tgts_i ?_ | with_reducible refine tgtN_i ?_ | with_reducible refine add_i ?_ | with_reducible refine sub_i ?_ | with_reducible refine neg_i ?_ | with_reducible refine aadd_i ?_ | with_reducible refine asub_i ?_ | with_reducible refine mod_i (by decide) ?_ | with_reducible refine div_i (by decide) ?_ | with_reducible refine int_i ?_ | with_reducible refine lst_i' ?_ | with_reducible refine itm_s ?_ | with_reducible refine itm_t ?_ | with_reducible refine comp_i ?_ | with_reducible refine tr_b ?_ | with_reducible refine tr_n ?_ | with_reducible refine is_n ?_ | with_reducible refine isnt_n ?_ | with_reducible refine if_t (by with_unfolding_all rfl) ?_ | with_reducible refine if_f (by with_unfolding_all rfl) ?_ | with_reducible refine fnW_i (by with_unfolding_all rfl) (by with_unfolding_all rfl) ?_ | with_reducible refine gdW_i (by with_unfolding_all exact trivial) ?_ | with_reducible refine tup_i (by simp only [List.length]; decide) ?_ | with_reducible refine lst_i (by simp only [List.length]; decide) ?_ | with_reducible refine ref_i (by simp only [List.length]; decide) ?_ | with_reducible refine ifp_t (by with_unfolding_all rfl) ?_ | with_reducible refine ifp_f (by with_unfolding_all rfl) ?_ | with_reducible refine find_i ?_ | with_reducible refine find3_i ?_))
      refine instW_i tb2.1 rfl ⟨_, _, _, _, _, rfl, tb2, hTab2, nm_okK hk7 hq _, str_okV (by have := cnt_small hW k q; omega), ?_⟩
      rw [tabP_del hW hk7 hq _ hws.inb hno]
      (repeat (first | with_reducible refine bnd_i ?_ | with_reducible refine ret_i ?_ | with_reducible refine getv_i (by with_unfolding_all rfl) ?_ | with_reducible refine setv_i (by with_unfolding_all rfl) (by simp only [lset]; rfl) ?_ | with_reducible refine seqF_i ?_ | with_reducible refine boolV_i ?_ | with_reducible refine tup_tgt (by with_unfolding_all rfl) ?_ | with_reducible refine tgts_i ?_ | with_reducible refine tgtN_i ?_ | with_reducible refine add_i ?_ | with_reducible refine sub_i ?_ | with_reducible refine neg_i ?_ | with_reducible refine aadd_i ?_ | with_reducible refine asub_i ?_ | with_reducible refine mod_i (by decide) ?_ | with_reducible refine div_i (by decide) ?_ | with_reducible refine int_i ?_ | with_reducible refine lst_i' ?_ | with_reducible refine itm_s ?_ | with_reducible refine itm_t ?_ | with_reducible refine comp_i ?_ | with_reducible refine tr_b ?_ | with_reducible refine tr_n ?_ | with_reducible refine is_n ?_ | with_reducible refine isnt_n ?_ | with_reducible refine if_t (by with_unfolding_all rfl) ?_ | with_reducible refine if_f (by with_unfolding_all rfl) ?_ | with_reducible refine fnW_i (by with_unfolding_all rfl) (by with_unfolding_all rfl) ?_ | with_reducible refine gdW_i (by with_unfolding_all exact trivial) ?_ | with_reducible refine tup_i (by simp only [List.length]; decide) ?_ | with_reducible refine lst_i (by simp only [List.length]; decide) ?_ | with_reducible refine ref_i (by simp only [List.length]; decide) ?_ | with_reducible refine ifp_t (by with_unfolding_all rfl) ?_ | with_reducible refine ifp_f (by with_unfolding_all rfl) ?_ | with_reducible refine find_i ?_ | with_reducible refine find3_i ?_))
      have e1 : tabP W (P ++ N) ++ [(S (nm k q ((k + q + 1) % 4)), str (cnt (W.drop k) q))] = tabP W (P ++ (N ++ [(k, q)])) := by rw [← List.append_assoc]; exact (List.map_append (f := pr W) (l₁ := P ++ N) (l₂ := [(k, q)])).symm
      rw [e1, set_swap hrj (b' := O.list []), ← hO1]
      have e2 : ((objs.set r (O.list (Wk.map pairI ++ [pairI (k, q)]))).set j (O.list ((tabP W (P ++ (N ++ [(k, q)]))).map prV))).set r (O.list ((Wk ++ [(k, q)] ++ N').map pairI)) = (objs.set j (O.list ((tabP W (P ++ (N ++ [(k, q)]))).map prV))).set r (O.list ((Wk ++ ((k, q) :: N')).map pairI)) := by
        rw [List.set_comm _ _ hrj, List.set_set, List.append_assoc]; rfl
      rw [e2]
      refine hQ (N ++ [(k, q)]) ((k, q) :: N') ?_ ?_ ?_ ?_
      · exact (List.Perm.cons _ hp).trans (List.perm_append_singleton _ _).symm
      · rw [← List.append_assoc]; exact hws.app hno ⟨hkW, hq⟩ hin
      · rw [← List.append_assoc]; exact List.mem_append_right _ (.head _)
      · intro x hx
        rcases List.mem_append.mp hx with hx | hx
        · exact (hrc x hx).2
        · rw [List.mem_singleton.mp hx]; exact .refl _
end Mine

namespace Mine
noncomputable def fd_law : FuncData := (fdO 208).get (by decide +kernel)
theorem is_law : FnIs PG 208 fd_law (stmtsOf fd_law.body) ["script", "weights", "total", "rows", "reached", "table", "work", "strokes", "place", "rest", "right", "spelling"] ["script"] := by
  refine ⟨fun q => fnAt_of (by kernel_rfl), fun q => by kernel_rfl, by kernel_rfl, by kernel_rfl, by kernel_rfl, by kernel_rfl, by kernel_rfl, by kernel_rfl, by kernel_rfl, ?_, ?_, ?_⟩ <;> decide +kernel
theorem eqA_nn {σ : St} {Q : Bool → St → Prop} (q : Q true σ) : eqA .none .none Q σ := q
theorem law_run : ∃ fb, SB ⟨PG, fd_law.scope.names, ["script", "weights", "total", "rows", "reached", "table", "work", "strokes", "place", "rest", "right", "spelling"], 12, true⟩ (stmtsOf fd_law.body) fb ∧ ∀ ns : List Int, ns.length ≤ 63 → fb (fun fl _ => fl = .ret (.bool true)) ⟨initLoc ["script", "weights", "total", "rows", "reached", "table", "work", "strokes", "place", "rest", "right", "spelling"] ["script"] [.lst (ns.map .int)], []⟩ := by
  refine ⟨_, (b_cons (s_AssignComp (k := 1) (caps := [none]) ["number"] (i_seq (r_Slice false (r_Name (k := 0) (by kernel_rfl)) o_none (o_some r_int))) (a_Name (k := 0) (by kernel_rfl)) ts_nil (r_BinOp (r_BinOp (r_Name (k := 0) (by kernel_rfl)) r_int) r_int) (by kernel_rfl) (by kernel_rfl) (by kernel_rfl)) (b_cons (s_Assign (k := 2) (r_BinOp r_int (r_BinOp (r_Call (by kernel_rfl) (rs_cons (r_Name (k := 0) (by kernel_rfl)) rs_nil) rk_nil cal_sum keep_builtin) r_int)) (by kernel_rfl)) (b_cons (s_Assign (k := 3) (r_Call (by kernel_rfl) (rs_cons (r_Name (k := 1) (by kernel_rfl)) (rs_cons (r_Name (k := 2) (by kernel_rfl)) rs_nil)) rk_nil (cal_fn ok_law_counts (by decide)) (.inr fun q => by kernel_rfl)) (by kernel_rfl)) (b_cons (s_Assign (k := 4) (r_Call (by kernel_rfl) (rs_cons (r_Name (k := 1) (by kernel_rfl)) (rs_cons (r_Name (k := 2) (by kernel_rfl)) rs_nil)) rk_nil (cal_fn ok_law_reached (by decide)) (.inr fun q => by kernel_rfl)) (by kernel_rfl)) (b_cons (s_Assign (k := 5) (r_Call (by kernel_rfl) rs_nil rk_nil (cal_class cls_is ok_init0 (by decide)) (.inr fun q => by kernel_rfl)) (by kernel_rfl)) (b_cons (s_Assign (k := 6) (r_ListT rs_nil) (by kernel_rfl)) (b_cons (s_Assign (k := 7) (r_Call (by kernel_rfl) (rs_cons (r_Name (k := 5) (by kernel_rfl)) (rs_cons (r_Name (k := 1) (by kernel_rfl)) (rs_cons r_int (rs_cons (r_Name (k := 2) (by kernel_rfl)) (rs_cons (r_Name (k := 6) (by kernel_rfl)) rs_nil))))) rk_nil (cal_fn (ok_law_ways 6) (by decide)) (.inr fun q => by kernel_rfl)) (by kernel_rfl)) (b_cons (s_If (t_Compare (r_Name (k := 7) (by kernel_rfl)) (r_MulS r_str (r_Sub (r_Sub (r_Name (k := 3) (by kernel_rfl)) r_int) (r_Name (k := 2) (by kernel_rfl))))) (b_cons (s_Return r_bool) b_nil) b_nil) (b_cons (s_If (t_or (t_Compare (r_Call (by kernel_rfl) (rs_cons (r_Name (k := 6) (by kernel_rfl)) rs_nil) rk_nil cal_sorted keep_builtin) (r_Name (k := 4) (by kernel_rfl))) (t_or1 (t_Compare (r_Call (by kernel_rfl) (rs_cons (r_Name (k := 5) (by kernel_rfl)) rs_nil) rk_nil (cal_lenInst sp_len ok_len (by decide)) keep_builtin) (r_Call (by kernel_rfl) (rs_cons (r_Name (k := 4) (by kernel_rfl)) rs_nil) rk_nil cal_len keep_builtin)))) (b_cons (s_Return r_bool) b_nil) b_nil) (b_cons (s_For (i_range (by kernel_rfl) (rs_cons (r_BinOp (r_Call (by kernel_rfl) (rs_cons (r_Name (k := 1) (by kernel_rfl)) rs_nil) rk_nil cal_len keep_builtin) r_int) rs_nil)) (a_Name (k := 8) (by kernel_rfl)) (b_cons (s_For (i_range (by kernel_rfl) (rs_cons (r_BinOp (r_Name (k := 2) (by kernel_rfl)) r_int) rs_nil)) (a_Name (k := 9) (by kernel_rfl)) (b_cons (s_Assign (k := 10) r_none (by kernel_rfl)) (b_cons (s_If (t_Compare (r_Tuple (rs_cons (r_Name (k := 8) (by kernel_rfl)) (rs_cons (r_Name (k := 9) (by kernel_rfl)) rs_nil))) (r_Name (k := 4) (by kernel_rfl))) (b_cons (s_Assign (k := 10) (r_MulS r_str (r_Sub (r_Sub (r_Name (k := 3) (by kernel_rfl)) (r_Name (k := 8) (by kernel_rfl))) (r_Name (k := 9) (by kernel_rfl)))) (by kernel_rfl)) b_nil) b_nil) (b_cons (s_Assign (k := 11) (r_BinOp (r_BinOp (r_BinOp (r_Name (k := 8) (by kernel_rfl)) (r_BinOp r_int (r_Name (k := 9) (by kernel_rfl)))) (r_Name (k := 2) (by kernel_rfl))) r_int) (by kernel_rfl)) (b_cons (s_If (t_Compare (r_SubInst (r_Name (k := 5) (by kernel_rfl)) (r_Call (by kernel_rfl) (rs_cons (r_Name (k := 8) (by kernel_rfl)) (rs_cons (r_Name (k := 9) (by kernel_rfl)) (rs_cons (r_Name (k := 11) (by kernel_rfl)) rs_nil))) rk_nil (cal_fn ok_law_name (by decide)) (.inr fun q => by kernel_rfl)) sp_getitem ok_getitem (by decide)) (r_Name (k := 10) (by kernel_rfl))) (b_cons (s_Return r_bool) b_nil) b_nil) b_nil))))) b_nil)) (b_cons (s_Return r_bool) b_nil))))))))))), fun ns hns => ?_⟩
  rw [show initLoc ["script", "weights", "total", "rows", "reached", "table", "work", "strokes", "place", "rest", "right", "spelling"] ["script"] [.lst (ns.map .int)] = [some (.lst (ns.map .int)), none, none, none, none, none, none, none, none, none, none, none] from by kernel_rfl]
  have hsl : ns.length ≤ sizeLine := by rw [sizeLine_eq]; omega
  have hz : 100000 ≤ sizeLine := by decide
  -- weights
  refine seqF_of (fun σ => ∃ W : List Nat, W.length ≤ 5 ∧ (∀ w ∈ W, 1 ≤ w ∧ w ≤ 5) ∧ σ = ⟨[some (.lst (ns.map .int)), some (.lst (wV W)), none, none, none, none, none, none, none, none, none, none], []⟩) (fun K hK => ?_) ?_
  · (repeat (first | with_reducible refine bnd_i ?_ | with_reducible refine ret_i ?_ | with_reducible refine getv_i (by with_unfolding_all rfl) ?_ | with_reducible refine setv_i (by with_unfolding_all rfl) (by simp only [lset]; rfl) ?_ | with_reducible refine seqF_i ?_ | with_reducible refine boolV_i ?_ | with_reducible refine tup_tgt (by with_unfolding_all rfl) ?_ | with_reducible refine tgts_i ?_ | with_reducible refine tgtN_i ?_ | with_reducible refine add_i ?_ | with_reducible refine sub_i ?_ | with_reducible refine neg_i ?_ | with_reducible refine aadd_i ?_ | with_reducible refine asub_i ?_ | with_reducible refine mod_i (by decide) ?_ | with_reducible refine div_i (by decide) ?_ | with_reducible refine int_i ?_ | with_reducible refine lst_i' ?_ | with_reducible refine itm_s ?_ | with_reducible refine itm_t ?_ | with_reducible refine comp_i ?_ | with_reducible refine tr_b ?_ | with_reducible refine tr_n ?_ | with_reducible refine is_n ?_ | with_reducible refine isnt_n ?_ | with_reducible refine if_t (by with_unfolding_all rfl) ?_ | with_reducible refine if_f (by with_unfolding_all rfl) ?_ | with_reducible refine fnW_i (by with_unfolding_all rfl) (by with_unfolding_all rfl) ?_ | with_reducible refine gdW_i (by with_unfolding_all exact trivial) ?_ | with_reducible refine tup_i (by simp only [List.length]; decide) ?_ | with_reducible refine lst_i (by simp only [List.length]; decide) ?_ | with_reducible refine ref_i (by simp only [List.length]; decide) ?_ | with_reducible refine ifp_t (by with_unfolding_all rfl) ?_ | with_reducible refine ifp_f (by with_unfolding_all rfl) ?_ | with_reducible refine find_i ?_ | with_reducible refine find3_i ?_))
    refine slc_l (l := ns.map .int) rfl (by simpa using hsl) (by rfl) ?_
    refine itm_l rfl ⟨by simp; omega, ?_⟩
    rw [show List.take (5 : Int).toNat (List.map V.int ns) = (ns.take 5).map V.int by simp]
    refine compL_pure V.int (fun _ => true) (fun n => .int (n.fmod 5 + 1)) (fun σ => σ.objs = [] ∧ ∃ a, σ.loc = [a]) (fun σ h => rfl) (fun n hn σ Q' hJ hQ' => ?_) ⟨rfl, _, rfl⟩ fun σ' hJ => ?_
    · obtain ⟨ho, a, hl⟩ := hJ
      obtain ⟨loc, objs⟩ := σ
      cases ho; cases hl
      (repeat (first | with_reducible refine bnd_i ?_ | with_reducible refine ret_i ?_ | with_reducible refine getv_i (by with_unfolding_all rfl) ?_ | with_reducible refine setv_i (by with_unfolding_all rfl) (by simp only [lset]; rfl) ?_ | with_reducible refine seqF_i ?_ | with_reducible refine boolV_i ?_ | with_reducible refine tup_tgt (by with_unfolding_all rfl) ?_ | with_reducible refine tgts_i ?_ | with_reducible refine tgtN_i ?_ | with_reducible refine add_i ?_ | with_reducible refine sub_i ?_ | with_reducible refine neg_i ?_ | with_reducible refine aadd_i ?_ | with_reducible refine asub_i ?_ | with_reducible refine mod_i (by decide) ?_ | with_reducible refine div_i (by decide) ?_ | with_reducible refine int_i ?_ | with_reducible refine lst_i' ?_ | with_reducible refine itm_s ?_ | with_reducible refine itm_t ?_ | with_reducible refine comp_i ?_ | with_reducible refine tr_b ?_ | with_reducible refine tr_n ?_ | with_reducible refine is_n ?_ | with_reducible refine isnt_n ?_ | with_reducible refine if_t (by with_unfolding_all rfl) ?_ | with_reducible refine if_f (by with_unfolding_all rfl) ?_ | with_reducible refine fnW_i (by with_unfolding_all rfl) (by with_unfolding_all rfl) ?_ | with_reducible refine gdW_i (by with_unfolding_all exact trivial) ?_ | with_reducible refine tup_i (by simp only [List.length]; decide) ?_ | with_reducible refine lst_i (by simp only [List.length]; decide) ?_ | with_reducible refine ref_i (by simp only [List.length]; decide) ?_ | with_reducible refine ifp_t (by with_unfolding_all rfl) ?_ | with_reducible refine ifp_f (by with_unfolding_all rfl) ?_ | with_reducible refine find_i ?_ | with_reducible refine find3_i ?_))
      exact hQ' ⟨[some (.int n)], []⟩ ⟨rfl, _, rfl⟩
    · obtain ⟨ho, _⟩ := hJ
      rw [ho, List.filter_eq_self.mpr fun _ _ => rfl, List.nil_append]
      (repeat (first | with_reducible refine bnd_i ?_ | with_reducible refine ret_i ?_ | with_reducible refine getv_i (by with_unfolding_all rfl) ?_ | with_reducible refine setv_i (by with_unfolding_all rfl) (by simp only [lset]; rfl) ?_ | with_reducible refine seqF_i ?_ | with_reducible refine boolV_i ?_ | with_reducible refine tup_tgt (by with_unfolding_all rfl) ?_ | with_reducible refine tgts_i ?_ | with_reducible refine tgtN_i ?_ | with_reducible refine add_i ?_ | with_reducible refine sub_i ?_ | with_reducible refine neg_i ?_ | with_reducible refine aadd_i ?_ | with_reducible refine asub_i ?_ | with_reducible refine mod_i (by decide) ?_ | with_reducible refine div_i (by decide) ?_ | with_reducible refine int_i ?_ | with_reducible refine lst_i' ?_ | with_reducible refine itm_s ?_ | with_reducible refine itm_t ?_ | with_reducible refine comp_i ?_ | with_reducible refine tr_b ?_ | with_reducible refine tr_n ?_ | with_reducible refine is_n ?_ | with_reducible refine isnt_n ?_ | with_reducible refine if_t (by with_unfolding_all rfl) ?_ | with_reducible refine if_f (by with_unfolding_all rfl) ?_ | with_reducible refine fnW_i (by with_unfolding_all rfl) (by with_unfolding_all rfl) ?_ | with_reducible refine gdW_i (by with_unfolding_all exact trivial) ?_ | with_reducible refine tup_i (by simp only [List.length]; decide) ?_ | with_reducible refine lst_i (by simp only [List.length]; decide) ?_ | with_reducible refine ref_i (by simp only [List.length]; decide) ?_ | with_reducible refine ifp_t (by with_unfolding_all rfl) ?_ | with_reducible refine ifp_f (by with_unfolding_all rfl) ?_ | with_reducible refine find_i ?_ | with_reducible refine find3_i ?_))
      have h5 : ∀ n : Int, 0 ≤ n.fmod 5 ∧ n.fmod 5 < 5 := fun n => ⟨Int.fmod_nonneg_of_pos n (by decide), Int.fmod_lt_of_pos n (by decide)⟩
      refine hK _ ⟨(ns.take 5).map fun n => (n.fmod 5 + 1).toNat, by simp; omega, fun w hw => ?_, ?_⟩
      · obtain ⟨n, _, rfl⟩ := List.mem_map.mp hw
        have := h5 n
        omega
      · have e : wV ((ns.take 5).map fun n => (n.fmod 5 + 1).toNat) = (ns.take 5).map fun n => V.int (n.fmod 5 + 1) := by
          unfold wV
          rw [List.map_map]
          exact List.map_congr_left fun n _ => by
            have := h5 n
            show V.int (((n.fmod 5 + 1).toNat : Nat) : Int) = _
            rw [show (((n.fmod 5 + 1).toNat : Nat) : Int) = n.fmod 5 + 1 by omega]
        rw [e]
  rintro _ ⟨W, hW, hw, rfl⟩
  have hw1 : ∀ w ∈ W, 1 ≤ w := fun w h => (hw w h).1
  -- total
  refine seqF_of (fun σ => ∃ T : Nat, 4 ≤ T ∧ T ≤ 7 ∧ σ = ⟨[some (.lst (ns.map .int)), some (.lst (wV W)), some (.int T), none, none, none, none, none, none, none, none, none], []⟩) (fun K hK => ?_) ?_
  · (repeat (first | with_reducible refine bnd_i ?_ | with_reducible refine ret_i ?_ | with_reducible refine getv_i (by with_unfolding_all rfl) ?_ | with_reducible refine setv_i (by with_unfolding_all rfl) (by simp only [lset]; rfl) ?_ | with_reducible refine seqF_i ?_ | with_reducible refine boolV_i ?_ | with_reducible refine tup_tgt (by with_unfolding_all rfl) ?_ | with_reducible refine tgts_i ?_ | with_reducible refine tgtN_i ?_ | with_reducible refine add_i ?_ | with_reducible refine sub_i ?_ | with_reducible refine neg_i ?_ | with_reducible refine aadd_i ?_ | with_reducible refine asub_i ?_ | with_reducible refine mod_i (by decide) ?_ | with_reducible refine div_i (by decide) ?_ | with_reducible refine int_i ?_ | with_reducible refine lst_i' ?_ | with_reducible refine itm_s ?_ | with_reducible refine itm_t ?_ | with_reducible refine comp_i ?_ | with_reducible refine tr_b ?_ | with_reducible refine tr_n ?_ | with_reducible refine is_n ?_ | with_reducible refine isnt_n ?_ | with_reducible refine if_t (by with_unfolding_all rfl) ?_ | with_reducible refine if_f (by with_unfolding_all rfl) ?_ | with_reducible refine fnW_i (by with_unfolding_all rfl) (by with_unfolding_all rfl) ?_ | with_reducible refine gdW_i (by with_unfolding_all exact trivial) ?_ | with_reducible refine tup_i (by simp only [List.length]; decide) ?_ | with_reducible refine lst_i (by simp only [List.length]; decide) ?_ | with_reducible refine ref_i (by simp only [List.length]; decide) ?_ | with_reducible refine ifp_t (by with_unfolding_all rfl) ?_ | with_reducible refine ifp_f (by with_unfolding_all rfl) ?_ | with_reducible refine find_i ?_ | with_reducible refine find3_i ?_))
    refine sum_i rfl ?_
    (repeat (first | with_reducible refine bnd_i ?_ | with_reducible refine ret_i ?_ | with_reducible refine getv_i (by with_unfolding_all rfl) ?_ | with_reducible refine setv_i (by with_unfolding_all rfl) (by simp only [lset]; rfl) ?_ | with_reducible refine seqF_i ?_ | with_reducible refine boolV_i ?_ | with_reducible refine tup_tgt (by with_unfolding_all rfl) ?_ | with_reducible refine tgts_i ?_ | with_reducible refine tgtN_i ?_ | with_reducible refine add_i ?_ | with_reducible refine sub_i ?_ | with_reducible refine neg_i ?_ | with_reducible refine aadd_i ?_ | with_reducible refine asub_i ?_ | with_reducible refine mod_i (by decide) ?_ | with_reducible refine div_i (by decide) ?_ | with_reducible refine int_i ?_ | with_reducible refine lst_i' ?_ | with_reducible refine itm_s ?_ | with_reducible refine itm_t ?_ | with_reducible refine comp_i ?_ | with_reducible refine tr_b ?_ | with_reducible refine tr_n ?_ | with_reducible refine is_n ?_ | with_reducible refine isnt_n ?_ | with_reducible refine if_t (by with_unfolding_all rfl) ?_ | with_reducible refine if_f (by with_unfolding_all rfl) ?_ | with_reducible refine fnW_i (by with_unfolding_all rfl) (by with_unfolding_all rfl) ?_ | with_reducible refine gdW_i (by with_unfolding_all exact trivial) ?_ | with_reducible refine tup_i (by simp only [List.length]; decide) ?_ | with_reducible refine lst_i (by simp only [List.length]; decide) ?_ | with_reducible refine ref_i (by simp only [List.length]; decide) ?_ | with_reducible refine ifp_t (by with_unfolding_all rfl) ?_ | with_reducible refine ifp_f (by with_unfolding_all rfl) ?_ | with_reducible refine find_i ?_ | with_reducible refine find3_i ?_))
    obtain ⟨r, hr, hr4⟩ := fmod_nat ns.sum 4 (by decide)
    have hr : ns.sum.fmod 4 = (r : Int) := hr
    rw [hr]
    exact hK _ ⟨4 + r, by omega, by omega, by rw [show (4 : Int) + (r : Int) = ((4 + r : Nat) : Int) by omega]⟩
  rintro _ ⟨T, hT4, hT7, rfl⟩
  -- rows
  refine seqF_of (fun σ => ∃ v objs, RowsOK objs v W T ∧ σ = ⟨[some (.lst (ns.map .int)), some (.lst (wV W)), some (.int T), some v, none, none, none, none, none, none, none, none], objs⟩) (fun K hK => ?_) ?_
  · (repeat (first | with_reducible refine bnd_i ?_ | with_reducible refine ret_i ?_ | with_reducible refine getv_i (by with_unfolding_all rfl) ?_ | with_reducible refine setv_i (by with_unfolding_all rfl) (by simp only [lset]; rfl) ?_ | with_reducible refine seqF_i ?_ | with_reducible refine boolV_i ?_ | with_reducible refine tup_tgt (by with_unfolding_all rfl) ?_ | with_reducible refine tgts_i ?_ | with_reducible refine tgtN_i ?_ | with_reducible refine add_i ?_ | with_reducible refine sub_i ?_ | with_reducible refine neg_i ?_ | with_reducible refine aadd_i ?_ | with_reducible refine asub_i ?_ | with_reducible refine mod_i (by decide) ?_ | with_reducible refine div_i (by decide) ?_ | with_reducible refine int_i ?_ | with_reducible refine lst_i' ?_ | with_reducible refine itm_s ?_ | with_reducible refine itm_t ?_ | with_reducible refine comp_i ?_ | with_reducible refine tr_b ?_ | with_reducible refine tr_n ?_ | with_reducible refine is_n ?_ | with_reducible refine isnt_n ?_ | with_reducible refine if_t (by with_unfolding_all rfl) ?_ | with_reducible refine if_f (by with_unfolding_all rfl) ?_ | with_reducible refine fnW_i (by with_unfolding_all rfl) (by with_unfolding_all rfl) ?_ | with_reducible refine gdW_i (by with_unfolding_all exact trivial) ?_ | with_reducible refine tup_i (by simp only [List.length]; decide) ?_ | with_reducible refine lst_i (by simp only [List.length]; decide) ?_ | with_reducible refine ref_i (by simp only [List.length]; decide) ?_ | with_reducible refine ifp_t (by with_unfolding_all rfl) ?_ | with_reducible refine ifp_f (by with_unfolding_all rfl) ?_ | with_reducible refine find_i ?_ | with_reducible refine find3_i ?_))
    refine ⟨W, T, rfl, hW, fun w h => by have := hw w h; omega, hT7, fun v ext hR => ?_⟩
    (repeat (first | with_reducible refine bnd_i ?_ | with_reducible refine ret_i ?_ | with_reducible refine getv_i (by with_unfolding_all rfl) ?_ | with_reducible refine setv_i (by with_unfolding_all rfl) (by simp only [lset]; rfl) ?_ | with_reducible refine seqF_i ?_ | with_reducible refine boolV_i ?_ | with_reducible refine tup_tgt (by with_unfolding_all rfl) ?_ | with_reducible refine tgts_i ?_ | with_reducible refine tgtN_i ?_ | with_reducible refine add_i ?_ | with_reducible refine sub_i ?_ | with_reducible refine neg_i ?_ | with_reducible refine aadd_i ?_ | with_reducible refine asub_i ?_ | with_reducible refine mod_i (by decide) ?_ | with_reducible refine div_i (by decide) ?_ | with_reducible refine int_i ?_ | with_reducible refine lst_i' ?_ | with_reducible refine itm_s ?_ | with_reducible refine itm_t ?_ | with_reducible refine comp_i ?_ | with_reducible refine tr_b ?_ | with_reducible refine tr_n ?_ | with_reducible refine is_n ?_ | with_reducible refine isnt_n ?_ | with_reducible refine if_t (by with_unfolding_all rfl) ?_ | with_reducible refine if_f (by with_unfolding_all rfl) ?_ | with_reducible refine fnW_i (by with_unfolding_all rfl) (by with_unfolding_all rfl) ?_ | with_reducible refine gdW_i (by with_unfolding_all exact trivial) ?_ | with_reducible refine tup_i (by simp only [List.length]; decide) ?_ | with_reducible refine lst_i (by simp only [List.length]; decide) ?_ | with_reducible refine ref_i (by simp only [List.length]; decide) ?_ | with_reducible refine ifp_t (by with_unfolding_all rfl) ?_ | with_reducible refine ifp_f (by with_unfolding_all rfl) ?_ | with_reducible refine find_i ?_ | with_reducible refine find3_i ?_))
    exact hK _ ⟨v, _, hR, rfl⟩
  rintro _ ⟨vr, objs, hR, rfl⟩
  -- reached
  refine seqF_of (fun σ => ∃ (qs : List NN) (objs : List O), qs.Perm (fnd W T (W.length + 1)) ∧ qs.Pairwise (fun p q => pkey p < pkey q) ∧ RowsOK objs vr W T ∧ σ = ⟨[some (.lst (ns.map .int)), some (.lst (wV W)), some (.int T), some vr, some (.lst (qs.map pairI)), none, none, none, none, none, none, none], objs⟩) (fun K hK => ?_) ?_
  · (repeat (first | with_reducible refine bnd_i ?_ | with_reducible refine ret_i ?_ | with_reducible refine getv_i (by with_unfolding_all rfl) ?_ | with_reducible refine setv_i (by with_unfolding_all rfl) (by simp only [lset]; rfl) ?_ | with_reducible refine seqF_i ?_ | with_reducible refine boolV_i ?_ | with_reducible refine tup_tgt (by with_unfolding_all rfl) ?_ | with_reducible refine tgts_i ?_ | with_reducible refine tgtN_i ?_ | with_reducible refine add_i ?_ | with_reducible refine sub_i ?_ | with_reducible refine neg_i ?_ | with_reducible refine aadd_i ?_ | with_reducible refine asub_i ?_ | with_reducible refine mod_i (by decide) ?_ | with_reducible refine div_i (by decide) ?_ | with_reducible refine int_i ?_ | with_reducible refine lst_i' ?_ | with_reducible refine itm_s ?_ | with_reducible refine itm_t ?_ | with_reducible refine comp_i ?_ | with_reducible refine tr_b ?_ | with_reducible refine tr_n ?_ | with_reducible refine is_n ?_ | with_reducible refine isnt_n ?_ | with_reducible refine if_t (by with_unfolding_all rfl) ?_ | with_reducible refine if_f (by with_unfolding_all rfl) ?_ | with_reducible refine fnW_i (by with_unfolding_all rfl) (by with_unfolding_all rfl) ?_ | with_reducible refine gdW_i (by with_unfolding_all exact trivial) ?_ | with_reducible refine tup_i (by simp only [List.length]; decide) ?_ | with_reducible refine lst_i (by simp only [List.length]; decide) ?_ | with_reducible refine ref_i (by simp only [List.length]; decide) ?_ | with_reducible refine ifp_t (by with_unfolding_all rfl) ?_ | with_reducible refine ifp_f (by with_unfolding_all rfl) ?_ | with_reducible refine find_i ?_ | with_reducible refine find3_i ?_))
    refine ⟨W, T, rfl, hW, hT7, fun qs ext h1 h2 => ?_⟩
    (repeat (first | with_reducible refine bnd_i ?_ | with_reducible refine ret_i ?_ | with_reducible refine getv_i (by with_unfolding_all rfl) ?_ | with_reducible refine setv_i (by with_unfolding_all rfl) (by simp only [lset]; rfl) ?_ | with_reducible refine seqF_i ?_ | with_reducible refine boolV_i ?_ | with_reducible refine tup_tgt (by with_unfolding_all rfl) ?_ | with_reducible refine tgts_i ?_ | with_reducible refine tgtN_i ?_ | with_reducible refine add_i ?_ | with_reducible refine sub_i ?_ | with_reducible refine neg_i ?_ | with_reducible refine aadd_i ?_ | with_reducible refine asub_i ?_ | with_reducible refine mod_i (by decide) ?_ | with_reducible refine div_i (by decide) ?_ | with_reducible refine int_i ?_ | with_reducible refine lst_i' ?_ | with_reducible refine itm_s ?_ | with_reducible refine itm_t ?_ | with_reducible refine comp_i ?_ | with_reducible refine tr_b ?_ | with_reducible refine tr_n ?_ | with_reducible refine is_n ?_ | with_reducible refine isnt_n ?_ | with_reducible refine if_t (by with_unfolding_all rfl) ?_ | with_reducible refine if_f (by with_unfolding_all rfl) ?_ | with_reducible refine fnW_i (by with_unfolding_all rfl) (by with_unfolding_all rfl) ?_ | with_reducible refine gdW_i (by with_unfolding_all exact trivial) ?_ | with_reducible refine tup_i (by simp only [List.length]; decide) ?_ | with_reducible refine lst_i (by simp only [List.length]; decide) ?_ | with_reducible refine ref_i (by simp only [List.length]; decide) ?_ | with_reducible refine ifp_t (by with_unfolding_all rfl) ?_ | with_reducible refine ifp_f (by with_unfolding_all rfl) ?_ | with_reducible refine find_i ?_ | with_reducible refine find3_i ?_))
    exact hK _ ⟨qs, _, h1, h2, hR.keep fun k hk => List.getElem?_append_left hk, rfl⟩
  clear hR objs
  rintro _ ⟨qs, objs, hqp, hqs, hR, rfl⟩
  -- table
  refine seqF_of (fun σ => σ = ⟨[some (.lst (ns.map .int)), some (.lst (wV W)), some (.int T), some vr, some (.lst (qs.map pairI)), some (.inst C objs.length), none, none, none, none, none, none], tab0 objs⟩) (fun K hK => ?_) ?_
  · (repeat (first | with_reducible refine bnd_i ?_ | with_reducible refine ret_i ?_ | with_reducible refine getv_i (by with_unfolding_all rfl) ?_ | with_reducible refine setv_i (by with_unfolding_all rfl) (by simp only [lset]; rfl) ?_ | with_reducible refine seqF_i ?_ | with_reducible refine boolV_i ?_ | with_reducible refine tup_tgt (by with_unfolding_all rfl) ?_ | with_reducible refine tgts_i ?_ | with_reducible refine tgtN_i ?_ | with_reducible refine add_i ?_ | with_reducible refine sub_i ?_ | with_reducible refine neg_i ?_ | with_reducible refine aadd_i ?_ | with_reducible refine asub_i ?_ | with_reducible refine mod_i (by decide) ?_ | with_reducible refine div_i (by decide) ?_ | with_reducible refine int_i ?_ | with_reducible refine lst_i' ?_ | with_reducible refine itm_s ?_ | with_reducible refine itm_t ?_ | with_reducible refine comp_i ?_ | with_reducible refine tr_b ?_ | with_reducible refine tr_n ?_ | with_reducible refine is_n ?_ | with_reducible refine isnt_n ?_ | with_reducible refine if_t (by with_unfolding_all rfl) ?_ | with_reducible refine if_f (by with_unfolding_all rfl) ?_ | with_reducible refine fnW_i (by with_unfolding_all rfl) (by with_unfolding_all rfl) ?_ | with_reducible refine gdW_i (by with_unfolding_all exact trivial) ?_ | with_reducible refine tup_i (by simp only [List.length]; decide) ?_ | with_reducible refine lst_i (by simp only [List.length]; decide) ?_ | with_reducible refine ref_i (by simp only [List.length]; decide) ?_ | with_reducible refine ifp_t (by with_unfolding_all rfl) ?_ | with_reducible refine ifp_f (by with_unfolding_all rfl) ?_ | with_reducible refine find_i ?_ | with_reducible refine find3_i ?_))
    refine new0 ?_ _ (fun vs kvs o Q' h => h)
    (repeat (first | with_reducible refine bnd_i ?_ | with_reducible refine ret_i ?_ | with_reducible refine getv_i (by with_unfolding_all rfl) ?_ | with_reducible refine setv_i (by with_unfolding_all rfl) (by simp only [lset]; rfl) ?_ | with_reducible refine seqF_i ?_ | with_reducible refine boolV_i ?_ | with_reducible refine tup_tgt (by with_unfolding_all rfl) ?_ | with_reducible refine tgts_i ?_ | with_reducible refine tgtN_i ?_ | with_reducible refine add_i ?_ | with_reducible refine sub_i ?_ | with_reducible refine neg_i ?_ | with_reducible refine aadd_i ?_ | with_reducible refine asub_i ?_ | with_reducible refine mod_i (by decide) ?_ | with_reducible refine div_i (by decide) ?_ | with_reducible refine int_i ?_ | with_reducible refine lst_i' ?_ | with_reducible refine itm_s ?_ | with_reducible refine itm_t ?_ | with_reducible refine comp_i ?_ | with_reducible refine tr_b ?_ | with_reducible refine tr_n ?_ | with_reducible refine is_n ?_ | with_reducible refine isnt_n ?_ | with_reducible refine if_t (by with_unfolding_all rfl) ?_ | with_reducible refine if_f (by with_unfolding_all rfl) ?_ | with_reducible refine fnW_i (by with_unfolding_all rfl) (by with_unfolding_all rfl) ?_ | with_reducible refine gdW_i (by with_unfolding_all exact trivial) ?_ | with_reducible refine tup_i (by simp only [List.length]; decide) ?_ | with_reducible refine lst_i (by simp only [List.length]; decide) ?_ | with_reducible refine ref_i (by simp only [List.length]; decide) ?_ | with_reducible refine ifp_t (by with_unfolding_all rfl) ?_ | with_reducible refine ifp_f (by with_unfolding_all rfl) ?_ | with_reducible refine find_i ?_ | with_reducible refine find3_i ?_))
    exact hK _ rfl
  rintro _ rfl
  have hl0 : (tab0 objs).length = objs.length + 2 := by simp [tab0]
  -- work
  refine seqF_of (fun σ => σ = ⟨[some (.lst (ns.map .int)), some (.lst (wV W)), some (.int T), some vr, some (.lst (qs.map pairI)), some (.inst C objs.length), some (.ref (objs.length + 2)), none, none, none, none, none], tab0 objs ++ [O.list []]⟩) (fun K hK => ?_) ?_
  · (repeat (first | with_reducible refine bnd_i ?_ | with_reducible refine ret_i ?_ | with_reducible refine getv_i (by with_unfolding_all rfl) ?_ | with_reducible refine setv_i (by with_unfolding_all rfl) (by simp only [lset]; rfl) ?_ | with_reducible refine seqF_i ?_ | with_reducible refine boolV_i ?_ | with_reducible refine tup_tgt (by with_unfolding_all rfl) ?_ | with_reducible refine tgts_i ?_ | with_reducible refine tgtN_i ?_ | with_reducible refine add_i ?_ | with_reducible refine sub_i ?_ | with_reducible refine neg_i ?_ | with_reducible refine aadd_i ?_ | with_reducible refine asub_i ?_ | with_reducible refine mod_i (by decide) ?_ | with_reducible refine div_i (by decide) ?_ | with_reducible refine int_i ?_ | with_reducible refine lst_i' ?_ | with_reducible refine itm_s ?_ | with_reducible refine itm_t ?_ | with_reducible refine comp_i ?_ | with_reducible refine tr_b ?_ | with_reducible refine tr_n ?_ | with_reducible refine is_n ?_ | with_reducible refine isnt_n ?_ | with_reducible refine if_t (by with_unfolding_all rfl) ?_ | with_reducible refine if_f (by with_unfolding_all rfl) ?_ | with_reducible refine fnW_i (by with_unfolding_all rfl) (by with_unfolding_all rfl) ?_ | with_reducible refine gdW_i (by with_unfolding_all exact trivial) ?_ | with_reducible refine tup_i (by simp only [List.length]; decide) ?_ | with_reducible refine lst_i (by simp only [List.length]; decide) ?_ | with_reducible refine ref_i (by simp only [List.length]; decide) ?_ | with_reducible refine ifp_t (by with_unfolding_all rfl) ?_ | with_reducible refine ifp_f (by with_unfolding_all rfl) ?_ | with_reducible refine find_i ?_ | with_reducible refine find3_i ?_))
    rw [hl0]
    exact hK _ rfl
  rintro _ rfl
  have hTB0 : TB (tab0 objs ++ [O.list []]) objs.length (objs.length + 1) [] := tb_keep (tb_0 objs)
  have hL0 : lstAt (tab0 objs ++ [O.list []]) (objs.length + 2) = some [] := by rw [← hl0]; exact lst_new
  have hrj : objs.length + 2 ≠ objs.length + 1 := by omega
  -- strokes
  refine seqF_of (fun σ => ∃ (N N' : List NN) (O1 : List O), N'.Perm N ∧ WS W N ∧ N.Perm (fnd W T (W.length + 1)) ∧ TB O1 objs.length (objs.length + 1) ((tabP W N).map prV) ∧ lstAt O1 (objs.length + 2) = some (N'.map pairI) ∧ RowsOK O1 vr W T ∧ σ = ⟨[some (.lst (ns.map .int)), some (.lst (wV W)), some (.int T), some vr, some (.lst (qs.map pairI)), some (.inst C objs.length), some (.ref (objs.length + 2)), some (.str (str (cnt W T))), none, none, none, none], O1⟩) (fun K hK => ?_) ?_
  · (repeat (first | with_reducible refine bnd_i ?_ | with_reducible refine ret_i ?_ | with_reducible refine getv_i (by with_unfolding_all rfl) ?_ | with_reducible refine setv_i (by with_unfolding_all rfl) (by simp only [lset]; rfl) ?_ | with_reducible refine seqF_i ?_ | with_reducible refine boolV_i ?_ | with_reducible refine tup_tgt (by with_unfolding_all rfl) ?_ | with_reducible refine tgts_i ?_ | with_reducible refine tgtN_i ?_ | with_reducible refine add_i ?_ | with_reducible refine sub_i ?_ | with_reducible refine neg_i ?_ | with_reducible refine aadd_i ?_ | with_reducible refine asub_i ?_ | with_reducible refine mod_i (by decide) ?_ | with_reducible refine div_i (by decide) ?_ | with_reducible refine int_i ?_ | with_reducible refine lst_i' ?_ | with_reducible refine itm_s ?_ | with_reducible refine itm_t ?_ | with_reducible refine comp_i ?_ | with_reducible refine tr_b ?_ | with_reducible refine tr_n ?_ | with_reducible refine is_n ?_ | with_reducible refine isnt_n ?_ | with_reducible refine if_t (by with_unfolding_all rfl) ?_ | with_reducible refine if_f (by with_unfolding_all rfl) ?_ | with_reducible refine fnW_i (by with_unfolding_all rfl) (by with_unfolding_all rfl) ?_ | with_reducible refine gdW_i (by with_unfolding_all exact trivial) ?_ | with_reducible refine tup_i (by simp only [List.length]; decide) ?_ | with_reducible refine lst_i (by simp only [List.length]; decide) ?_ | with_reducible refine ref_i (by simp only [List.length]; decide) ?_ | with_reducible refine ifp_t (by with_unfolding_all rfl) ?_ | with_reducible refine ifp_f (by with_unfolding_all rfl) ?_ | with_reducible refine find_i ?_ | with_reducible refine find3_i ?_))
    refine ⟨objs.length, objs.length + 1, objs.length + 2, W, 0, T, [], [], rfl, hW, hw1, by omega, by omega, by omega, hTB0, hL0, hrj, ⟨List.nodup_nil, (fun _ _ h => by cases h), (fun _ h => by cases h)⟩, by simp, fun N N' hp hws hin hrc => ?_⟩
    (repeat (first | with_reducible refine bnd_i ?_ | with_reducible refine ret_i ?_ | with_reducible refine getv_i (by with_unfolding_all rfl) ?_ | with_reducible refine setv_i (by with_unfolding_all rfl) (by simp only [lset]; rfl) ?_ | with_reducible refine seqF_i ?_ | with_reducible refine boolV_i ?_ | with_reducible refine tup_tgt (by with_unfolding_all rfl) ?_ | with_reducible refine tgts_i ?_ | with_reducible refine tgtN_i ?_ | with_reducible refine add_i ?_ | with_reducible refine sub_i ?_ | with_reducible refine neg_i ?_ | with_reducible refine aadd_i ?_ | with_reducible refine asub_i ?_ | with_reducible refine mod_i (by decide) ?_ | with_reducible refine div_i (by decide) ?_ | with_reducible refine int_i ?_ | with_reducible refine lst_i' ?_ | with_reducible refine itm_s ?_ | with_reducible refine itm_t ?_ | with_reducible refine comp_i ?_ | with_reducible refine tr_b ?_ | with_reducible refine tr_n ?_ | with_reducible refine is_n ?_ | with_reducible refine isnt_n ?_ | with_reducible refine if_t (by with_unfolding_all rfl) ?_ | with_reducible refine if_f (by with_unfolding_all rfl) ?_ | with_reducible refine fnW_i (by with_unfolding_all rfl) (by with_unfolding_all rfl) ?_ | with_reducible refine gdW_i (by with_unfolding_all exact trivial) ?_ | with_reducible refine tup_i (by simp only [List.length]; decide) ?_ | with_reducible refine lst_i (by simp only [List.length]; decide) ?_ | with_reducible refine ref_i (by simp only [List.length]; decide) ?_ | with_reducible refine ifp_t (by with_unfolding_all rfl) ?_ | with_reducible refine ifp_f (by with_unfolding_all rfl) ?_ | with_reducible refine find_i ?_ | with_reducible refine find3_i ?_))
    obtain ⟨t1, t2⟩ := tb_set2 (l' := (tabP W N).map prV) (m' := N'.map pairI) hTB0 hL0 hrj
    refine hK _ ⟨N, N', _, hp, hws, all_perm hws.nd hws.cl hin hrc, t1, t2, hR.keep fun k hk => ?_, rfl⟩
    rw [List.getElem?_set_ne (by omega), List.getElem?_set_ne (by omega)]
    unfold tab0
    rw [List.append_assoc, List.getElem?_append_left hk]
  rintro _ ⟨N, N', O1, hp, hws, hNp, hTB, hWk, hR1, rfl⟩
  obtain ⟨rs, hrs, hrl, hri⟩ := hR1
  have hTab := tabP_tab hW hws.nd hws.inb
  have hN48 := len_48 hW hws.nd hws.inb
  have hrow : ∀ k r, k ≤ W.length → r ≤ T → ∃ u, idxL rs ((k : Nat) : Int) = some u ∧ seqOf O1 u = some (tbl T (cnt (W.drop k))) ∧ idxL (tbl T (cnt (W.drop k))) ((r : Nat) : Int) = some (.int (cnt (W.drop k) r : Nat)) := fun k r hk hr => by
    obtain ⟨u, h1, h2⟩ := hri k hk
    have hlt : k < rs.length := by omega
    exact ⟨u, by unfold idxL; simp [hlt]; exact (List.getElem?_eq_some_iff.mp h1).2, h2, tbl_at hr⟩
  have hqN : qs.length = N.length := by rw [hqp.length_eq, hNp.length_eq]
  refine seqF_ret (fun σ => σ = ⟨[some (.lst (ns.map .int)), some (.lst (wV W)), some (.int T), some vr, some (.lst (qs.map pairI)), some (.inst C objs.length), some (.ref (objs.length + 2)), some (.str (str (cnt W T))), none, none, none, none], O1⟩) (fun K hK hRt => ?_) ?_
  · obtain ⟨u, hu1, hu2, hu3⟩ := hrow 0 T (by omega) (Nat.le_refl _)
    (repeat (first | with_reducible refine bnd_i ?_ | with_reducible refine ret_i ?_ | with_reducible refine getv_i (by with_unfolding_all rfl) ?_ | with_reducible refine setv_i (by with_unfolding_all rfl) (by simp only [lset]; rfl) ?_ | with_reducible refine seqF_i ?_ | with_reducible refine boolV_i ?_ | with_reducible refine tup_tgt (by with_unfolding_all rfl) ?_ | with_reducible refine tgts_i ?_ | with_reducible refine tgtN_i ?_ | with_reducible refine add_i ?_ | with_reducible refine sub_i ?_ | with_reducible refine neg_i ?_ | with_reducible refine aadd_i ?_ | with_reducible refine asub_i ?_ | with_reducible refine mod_i (by decide) ?_ | with_reducible refine div_i (by decide) ?_ | with_reducible refine int_i ?_ | with_reducible refine lst_i' ?_ | with_reducible refine itm_s ?_ | with_reducible refine itm_t ?_ | with_reducible refine comp_i ?_ | with_reducible refine tr_b ?_ | with_reducible refine tr_n ?_ | with_reducible refine is_n ?_ | with_reducible refine isnt_n ?_ | with_reducible refine if_t (by with_unfolding_all rfl) ?_ | with_reducible refine if_f (by with_unfolding_all rfl) ?_ | with_reducible refine fnW_i (by with_unfolding_all rfl) (by with_unfolding_all rfl) ?_ | with_reducible refine gdW_i (by with_unfolding_all exact trivial) ?_ | with_reducible refine tup_i (by simp only [List.length]; decide) ?_ | with_reducible refine lst_i (by simp only [List.length]; decide) ?_ | with_reducible refine ref_i (by simp only [List.length]; decide) ?_ | with_reducible refine ifp_t (by with_unfolding_all rfl) ?_ | with_reducible refine ifp_f (by with_unfolding_all rfl) ?_ | with_reducible refine find_i ?_ | with_reducible refine find3_i ?_))
    refine sub_l hrs (by omega) hu1 ?_
    (repeat (first | with_reducible refine bnd_i ?_ | with_reducible refine ret_i ?_ | with_reducible refine getv_i (by with_unfolding_all rfl) ?_ | with_reducible refine setv_i (by with_unfolding_all rfl) (by simp only [lset]; rfl) ?_ | with_reducible refine seqF_i ?_ | with_reducible refine boolV_i ?_ | with_reducible refine tup_tgt (by with_unfolding_all rfl) ?_ | with_reducible refine tgts_i ?_ | with_reducible refine tgtN_i ?_ | with_reducible refine add_i ?_ | with_reducible refine sub_i ?_ | with_reducible refine neg_i ?_ | with_reducible refine aadd_i ?_ | with_reducible refine asub_i ?_ | with_reducible refine mod_i (by decide) ?_ | with_reducible refine div_i (by decide) ?_ | with_reducible refine int_i ?_ | with_reducible refine lst_i' ?_ | with_reducible refine itm_s ?_ | with_reducible refine itm_t ?_ | with_reducible refine comp_i ?_ | with_reducible refine tr_b ?_ | with_reducible refine tr_n ?_ | with_reducible refine is_n ?_ | with_reducible refine isnt_n ?_ | with_reducible refine if_t (by with_unfolding_all rfl) ?_ | with_reducible refine if_f (by with_unfolding_all rfl) ?_ | with_reducible refine fnW_i (by with_unfolding_all rfl) (by with_unfolding_all rfl) ?_ | with_reducible refine gdW_i (by with_unfolding_all exact trivial) ?_ | with_reducible refine tup_i (by simp only [List.length]; decide) ?_ | with_reducible refine lst_i (by simp only [List.length]; decide) ?_ | with_reducible refine ref_i (by simp only [List.length]; decide) ?_ | with_reducible refine ifp_t (by with_unfolding_all rfl) ?_ | with_reducible refine ifp_f (by with_unfolding_all rfl) ?_ | with_reducible refine find_i ?_ | with_reducible refine find3_i ?_))
    refine sub_l hu2 (by omega) hu3 ?_
    rw [List.drop_zero]
    have hc := cnt_small hW 0 T
    rw [List.drop_zero] at hc
    refine mulS_i (mul_ok _ (by omega)) ?_
    rw [mul_str _ (by omega)]
    refine ne_s (fun _ => ?_) (fun h => absurd rfl h)
    (repeat (first | with_reducible refine bnd_i ?_ | with_reducible refine ret_i ?_ | with_reducible refine getv_i (by with_unfolding_all rfl) ?_ | with_reducible refine setv_i (by with_unfolding_all rfl) (by simp only [lset]; rfl) ?_ | with_reducible refine seqF_i ?_ | with_reducible refine boolV_i ?_ | with_reducible refine tup_tgt (by with_unfolding_all rfl) ?_ | with_reducible refine tgts_i ?_ | with_reducible refine tgtN_i ?_ | with_reducible refine add_i ?_ | with_reducible refine sub_i ?_ | with_reducible refine neg_i ?_ | with_reducible refine aadd_i ?_ | with_reducible refine asub_i ?_ | with_reducible refine mod_i (by decide) ?_ | with_reducible refine div_i (by decide) ?_ | with_reducible refine int_i ?_ | with_reducible refine lst_i' ?_ | with_reducible refine itm_s ?_ | with_reducible refine itm_t ?_ | with_reducible refine comp_i ?_ | with_reducible refine tr_b ?_ | with_reducible refine tr_n ?_ | with_reducible refine is_n ?_ | with_reducible refine isnt_n ?_ | with_reducible refine if_t (by with_unfolding_all rfl) ?_ | with_reducible refine if_f (by with_unfolding_all rfl) ?_ | with_reducible refine fnW_i (by with_unfolding_all rfl) (by with_unfolding_all rfl) ?_ | with_reducible refine gdW_i (by with_unfolding_all exact trivial) ?_ | with_reducible refine tup_i (by simp only [List.length]; decide) ?_ | with_reducible refine lst_i (by simp only [List.length]; decide) ?_ | with_reducible refine ref_i (by simp only [List.length]; decide) ?_ | with_reducible refine ifp_t (by with_unfolding_all rfl) ?_ | with_reducible refine ifp_f (by with_unfolding_all rfl) ?_ | with_reducible refine find_i ?_ | with_reducible refine find3_i ?_))
    exact hK _ rfl
  rintro _ rfl
  refine seqF_ret (fun σ => σ = ⟨[some (.lst (ns.map .int)), some (.lst (wV W)), some (.int T), some vr, some (.lst (qs.map pairI)), some (.inst C objs.length), some (.ref (objs.length + 2)), some (.str (str (cnt W T))), none, none, none, none], O1⟩) (fun K hK hRt => ?_) ?_
  · (repeat (first | with_reducible refine bnd_i ?_ | with_reducible refine ret_i ?_ | with_reducible refine getv_i (by with_unfolding_all rfl) ?_ | with_reducible refine setv_i (by with_unfolding_all rfl) (by simp only [lset]; rfl) ?_ | with_reducible refine seqF_i ?_ | with_reducible refine boolV_i ?_ | with_reducible refine tup_tgt (by with_unfolding_all rfl) ?_ | with_reducible refine tgts_i ?_ | with_reducible refine tgtN_i ?_ | with_reducible refine add_i ?_ | with_reducible refine sub_i ?_ | with_reducible refine neg_i ?_ | with_reducible refine aadd_i ?_ | with_reducible refine asub_i ?_ | with_reducible refine mod_i (by decide) ?_ | with_reducible refine div_i (by decide) ?_ | with_reducible refine int_i ?_ | with_reducible refine lst_i' ?_ | with_reducible refine itm_s ?_ | with_reducible refine itm_t ?_ | with_reducible refine comp_i ?_ | with_reducible refine tr_b ?_ | with_reducible refine tr_n ?_ | with_reducible refine is_n ?_ | with_reducible refine isnt_n ?_ | with_reducible refine if_t (by with_unfolding_all rfl) ?_ | with_reducible refine if_f (by with_unfolding_all rfl) ?_ | with_reducible refine fnW_i (by with_unfolding_all rfl) (by with_unfolding_all rfl) ?_ | with_reducible refine gdW_i (by with_unfolding_all exact trivial) ?_ | with_reducible refine tup_i (by simp only [List.length]; decide) ?_ | with_reducible refine lst_i (by simp only [List.length]; decide) ?_ | with_reducible refine ref_i (by simp only [List.length]; decide) ?_ | with_reducible refine ifp_t (by with_unfolding_all rfl) ?_ | with_reducible refine ifp_f (by with_unfolding_all rfl) ?_ | with_reducible refine find_i ?_ | with_reducible refine find3_i ?_))
    have hpos : 1 ≤ N'.length := by
      rw [hp.length_eq, hNp.length_eq]
      have : (0, T) ∈ fnd W T (W.length + 1) := fnd_mem.mpr ⟨by show 0 < _; omega, by simp [lev]⟩
      exact List.length_pos_iff.mpr (List.ne_nil_of_mem this)
    refine sorted_i hWk hpos (by rw [hp.length_eq]; omega) (hp.nodup_iff.mpr hws.nd) (fun p hpm => ?_) (fun qs' h1 h2 => ?_)
    · have := (hws.inb p (hp.mem_iff.mp hpm)).2
      omega
    · have he : qs' = qs := sorted_unique (h1.trans (hp.trans (hNp.trans hqp.symm))) h2 hqs
      subst he
      (repeat (first | with_reducible refine bnd_i ?_ | with_reducible refine ret_i ?_ | with_reducible refine getv_i (by with_unfolding_all rfl) ?_ | with_reducible refine setv_i (by with_unfolding_all rfl) (by simp only [lset]; rfl) ?_ | with_reducible refine seqF_i ?_ | with_reducible refine boolV_i ?_ | with_reducible refine tup_tgt (by with_unfolding_all rfl) ?_ | with_reducible refine tgts_i ?_ | with_reducible refine tgtN_i ?_ | with_reducible refine add_i ?_ | with_reducible refine sub_i ?_ | with_reducible refine neg_i ?_ | with_reducible refine aadd_i ?_ | with_reducible refine asub_i ?_ | with_reducible refine mod_i (by decide) ?_ | with_reducible refine div_i (by decide) ?_ | with_reducible refine int_i ?_ | with_reducible refine lst_i' ?_ | with_reducible refine itm_s ?_ | with_reducible refine itm_t ?_ | with_reducible refine comp_i ?_ | with_reducible refine tr_b ?_ | with_reducible refine tr_n ?_ | with_reducible refine is_n ?_ | with_reducible refine isnt_n ?_ | with_reducible refine if_t (by with_unfolding_all rfl) ?_ | with_reducible refine if_f (by with_unfolding_all rfl) ?_ | with_reducible refine fnW_i (by with_unfolding_all rfl) (by with_unfolding_all rfl) ?_ | with_reducible refine gdW_i (by with_unfolding_all exact trivial) ?_ | with_reducible refine tup_i (by simp only [List.length]; decide) ?_ | with_reducible refine lst_i (by simp only [List.length]; decide) ?_ | with_reducible refine ref_i (by simp only [List.length]; decide) ?_ | with_reducible refine ifp_t (by with_unfolding_all rfl) ?_ | with_reducible refine ifp_f (by with_unfolding_all rfl) ?_ | with_reducible refine find_i ?_ | with_reducible refine find3_i ?_))
      refine ne_v (eqA_seq veq_pairI (fun x objs => nrm_pairI x objs 5) (l := qs') (m := qs') rfl rfl ?_)
      rw [decide_eq_true rfl]
      (repeat (first | with_reducible refine bnd_i ?_ | with_reducible refine ret_i ?_ | with_reducible refine getv_i (by with_unfolding_all rfl) ?_ | with_reducible refine setv_i (by with_unfolding_all rfl) (by simp only [lset]; rfl) ?_ | with_reducible refine seqF_i ?_ | with_reducible refine boolV_i ?_ | with_reducible refine tup_tgt (by with_unfolding_all rfl) ?_ | with_reducible refine tgts_i ?_ | with_reducible refine tgtN_i ?_ | with_reducible refine add_i ?_ | with_reducible refine sub_i ?_ | with_reducible refine neg_i ?_ | with_reducible refine aadd_i ?_ | with_reducible refine asub_i ?_ | with_reducible refine mod_i (by decide) ?_ | with_reducible refine div_i (by decide) ?_ | with_reducible refine int_i ?_ | with_reducible refine lst_i' ?_ | with_reducible refine itm_s ?_ | with_reducible refine itm_t ?_ | with_reducible refine comp_i ?_ | with_reducible refine tr_b ?_ | with_reducible refine tr_n ?_ | with_reducible refine is_n ?_ | with_reducible refine isnt_n ?_ | with_reducible refine if_t (by with_unfolding_all rfl) ?_ | with_reducible refine if_f (by with_unfolding_all rfl) ?_ | with_reducible refine fnW_i (by with_unfolding_all rfl) (by with_unfolding_all rfl) ?_ | with_reducible refine gdW_i (by with_unfolding_all exact trivial) ?_ | with_reducible refine tup_i (by simp only [List.length]; decide) ?_ | with_reducible refine lst_i (by simp only [List.length]; decide) ?_ | with_reducible refine ref_i (by simp only [List.length]; decide) ?_ | with_reducible refine ifp_t (by with_unfolding_all rfl) ?_ | with_reducible refine ifp_f (by with_unfolding_all rfl) ?_ | with_reducible refine find_i ?_ | with_reducible refine find3_i ?_))
      refine lenI_i hTB.1 rfl ⟨_, _, _, rfl, hTB, hTab.1, _, rfl, by omega, by simp [tabP]; omega, ?_⟩
      (repeat (first | with_reducible refine bnd_i ?_ | with_reducible refine ret_i ?_ | with_reducible refine getv_i (by with_unfolding_all rfl) ?_ | with_reducible refine setv_i (by with_unfolding_all rfl) (by simp only [lset]; rfl) ?_ | with_reducible refine seqF_i ?_ | with_reducible refine boolV_i ?_ | with_reducible refine tup_tgt (by with_unfolding_all rfl) ?_ | with_reducible refine tgts_i ?_ | with_reducible refine tgtN_i ?_ | with_reducible refine add_i ?_ | with_reducible refine sub_i ?_ | with_reducible refine neg_i ?_ | with_reducible refine aadd_i ?_ | with_reducible refine asub_i ?_ | with_reducible refine mod_i (by decide) ?_ | with_reducible refine div_i (by decide) ?_ | with_reducible refine int_i ?_ | with_reducible refine lst_i' ?_ | with_reducible refine itm_s ?_ | with_reducible refine itm_t ?_ | with_reducible refine comp_i ?_ | with_reducible refine tr_b ?_ | with_reducible refine tr_n ?_ | with_reducible refine is_n ?_ | with_reducible refine isnt_n ?_ | with_reducible refine if_t (by with_unfolding_all rfl) ?_ | with_reducible refine if_f (by with_unfolding_all rfl) ?_ | with_reducible refine fnW_i (by with_unfolding_all rfl) (by with_unfolding_all rfl) ?_ | with_reducible refine gdW_i (by with_unfolding_all exact trivial) ?_ | with_reducible refine tup_i (by simp only [List.length]; decide) ?_ | with_reducible refine lst_i (by simp only [List.length]; decide) ?_ | with_reducible refine ref_i (by simp only [List.length]; decide) ?_ | with_reducible refine ifp_t (by with_unfolding_all rfl) ?_ | with_reducible refine ifp_f (by with_unfolding_all rfl) ?_ | with_reducible refine find_i ?_ | with_reducible refine find3_i ?_))
      refine len_l rfl (by simp; omega) ?_
      refine ne_i (fun _ => ?_) (fun h => absurd (by simp [tabP, hqN]) h)
      (repeat (first | with_reducible refine bnd_i ?_ | with_reducible refine ret_i ?_ | with_reducible refine getv_i (by with_unfolding_all rfl) ?_ | with_reducible refine setv_i (by with_unfolding_all rfl) (by simp only [lset]; rfl) ?_ | with_reducible refine seqF_i ?_ | with_reducible refine boolV_i ?_ | with_reducible refine tup_tgt (by with_unfolding_all rfl) ?_ | with_reducible refine tgts_i ?_ | with_reducible refine tgtN_i ?_ | with_reducible refine add_i ?_ | with_reducible refine sub_i ?_ | with_reducible refine neg_i ?_ | with_reducible refine aadd_i ?_ | with_reducible refine asub_i ?_ | with_reducible refine mod_i (by decide) ?_ | with_reducible refine div_i (by decide) ?_ | with_reducible refine int_i ?_ | with_reducible refine lst_i' ?_ | with_reducible refine itm_s ?_ | with_reducible refine itm_t ?_ | with_reducible refine comp_i ?_ | with_reducible refine tr_b ?_ | with_reducible refine tr_n ?_ | with_reducible refine is_n ?_ | with_reducible refine isnt_n ?_ | with_reducible refine if_t (by with_unfolding_all rfl) ?_ | with_reducible refine if_f (by with_unfolding_all rfl) ?_ | with_reducible refine fnW_i (by with_unfolding_all rfl) (by with_unfolding_all rfl) ?_ | with_reducible refine gdW_i (by with_unfolding_all exact trivial) ?_ | with_reducible refine tup_i (by simp only [List.length]; decide) ?_ | with_reducible refine lst_i (by simp only [List.length]; decide) ?_ | with_reducible refine ref_i (by simp only [List.length]; decide) ?_ | with_reducible refine ifp_t (by with_unfolding_all rfl) ?_ | with_reducible refine ifp_f (by with_unfolding_all rfl) ?_ | with_reducible refine find_i ?_ | with_reducible refine find3_i ?_))
      exact hK _ rfl
  rintro _ rfl
  -- the check
  refine seqF_ret (fun _ => True) (fun K hK hRt => ?_) (fun σ _ => by (repeat (first | with_reducible refine bnd_i ?_ | with_reducible refine ret_i ?_ | with_reducible refine getv_i (by with_unfolding_all rfl) ?_ | with_reducible refine setv_i (by with_unfolding_all rfl) (by simp only [lset]; rfl) ?_ | with_reducible refine seqF_i ?_ | with_reducible refine boolV_i ?_ | with_reducible refine tup_tgt (by with_unfolding_all rfl) ?_ | with_reducible refine tgts_i ?_ | with_reducible refine tgtN_i ?_ | with_reducible refine add_i ?_ | with_reducible refine sub_i ?_ | with_reducible refine neg_i ?_ | with_reducible refine aadd_i ?_ | with_reducible refine asub_i ?_ | with_reducible refine mod_i (by decide) ?_ | with_reducible refine div_i (by decide) ?_ | with_reducible refine int_i ?_ | with_reducible refine lst_i' ?_ | with_reducible refine itm_s ?_ | with_reducible refine itm_t ?_ | with_reducible refine comp_i ?_ | with_reducible refine tr_b ?_ | with_reducible refine tr_n ?_ | with_reducible refine is_n ?_ | with_reducible refine isnt_n ?_ | with_reducible refine if_t (by with_unfolding_all rfl) ?_ | with_reducible refine if_f (by with_unfolding_all rfl) ?_ | with_reducible refine fnW_i (by with_unfolding_all rfl) (by with_unfolding_all rfl) ?_ | with_reducible refine gdW_i (by with_unfolding_all exact trivial) ?_ | with_reducible refine tup_i (by simp only [List.length]; decide) ?_ | with_reducible refine lst_i (by simp only [List.length]; decide) ?_ | with_reducible refine ref_i (by simp only [List.length]; decide) ?_ | with_reducible refine ifp_t (by with_unfolding_all rfl) ?_ | with_reducible refine ifp_f (by with_unfolding_all rfl) ?_ | with_reducible refine find_i ?_ | with_reducible refine find3_i ?_)); rfl)
  (repeat (first | with_reducible refine bnd_i ?_ | with_reducible refine ret_i ?_ | with_reducible refine getv_i (by with_unfolding_all rfl) ?_ | with_reducible refine setv_i (by with_unfolding_all rfl) (by simp only [lset]; rfl) ?_ | with_reducible refine seqF_i ?_ | with_reducible refine boolV_i ?_ | with_reducible refine tup_tgt (by with_unfolding_all rfl) ?_ | with_reducible refine tgts_i ?_ | with_reducible refine tgtN_i ?_ | with_reducible refine add_i ?_ | with_reducible refine sub_i ?_ | with_reducible refine neg_i ?_ | with_reducible refine aadd_i ?_ | with_reducible refine asub_i ?_ | with_reducible refine mod_i (by decide) ?_ | with_reducible refine div_i (by decide) ?_ | with_reducible refine int_i ?_ | with_reducible refine lst_i' ?_ | with_reducible refine itm_s ?_ | with_reducible refine itm_t ?_ | with_reducible refine comp_i ?_ | with_reducible refine tr_b ?_ | with_reducible refine tr_n ?_ | with_reducible refine is_n ?_ | with_reducible refine isnt_n ?_ | with_reducible refine if_t (by with_unfolding_all rfl) ?_ | with_reducible refine if_f (by with_unfolding_all rfl) ?_ | with_reducible refine fnW_i (by with_unfolding_all rfl) (by with_unfolding_all rfl) ?_ | with_reducible refine gdW_i (by with_unfolding_all exact trivial) ?_ | with_reducible refine tup_i (by simp only [List.length]; decide) ?_ | with_reducible refine lst_i (by simp only [List.length]; decide) ?_ | with_reducible refine ref_i (by simp only [List.length]; decide) ?_ | with_reducible refine ifp_t (by with_unfolding_all rfl) ?_ | with_reducible refine ifp_f (by with_unfolding_all rfl) ?_ | with_reducible refine find_i ?_ | with_reducible refine find3_i ?_))
  refine len_l rfl (by simp; omega) ?_
  rw [List.length_map]
  (repeat (first | with_reducible refine bnd_i ?_ | with_reducible refine ret_i ?_ | with_reducible refine getv_i (by with_unfolding_all rfl) ?_ | with_reducible refine setv_i (by with_unfolding_all rfl) (by simp only [lset]; rfl) ?_ | with_reducible refine seqF_i ?_ | with_reducible refine boolV_i ?_ | with_reducible refine tup_tgt (by with_unfolding_all rfl) ?_ | with_reducible refine tgts_i ?_ | with_reducible refine tgtN_i ?_ | with_reducible refine add_i ?_ | with_reducible refine sub_i ?_ | with_reducible refine neg_i ?_ | with_reducible refine aadd_i ?_ | with_reducible refine asub_i ?_ | with_reducible refine mod_i (by decide) ?_ | with_reducible refine div_i (by decide) ?_ | with_reducible refine int_i ?_ | with_reducible refine lst_i' ?_ | with_reducible refine itm_s ?_ | with_reducible refine itm_t ?_ | with_reducible refine comp_i ?_ | with_reducible refine tr_b ?_ | with_reducible refine tr_n ?_ | with_reducible refine is_n ?_ | with_reducible refine isnt_n ?_ | with_reducible refine if_t (by with_unfolding_all rfl) ?_ | with_reducible refine if_f (by with_unfolding_all rfl) ?_ | with_reducible refine fnW_i (by with_unfolding_all rfl) (by with_unfolding_all rfl) ?_ | with_reducible refine gdW_i (by with_unfolding_all exact trivial) ?_ | with_reducible refine tup_i (by simp only [List.length]; decide) ?_ | with_reducible refine lst_i (by simp only [List.length]; decide) ?_ | with_reducible refine ref_i (by simp only [List.length]; decide) ?_ | with_reducible refine ifp_t (by with_unfolding_all rfl) ?_ | with_reducible refine ifp_f (by with_unfolding_all rfl) ?_ | with_reducible refine find_i ?_ | with_reducible refine find3_i ?_))
  rw [show (W.length : Int) + 1 = ((W.length + 1 : Nat) : Int) by omega]
  refine rng1_i (by omega) (by omega) ?_
  refine forL_range (fun k σ => ∃ a8 a9 a10 a11, σ = ⟨[some (.lst (ns.map .int)), some (.lst (wV W)), some (.int T), some vr, some (.lst (qs.map pairI)), some (.inst C objs.length), some (.ref (objs.length + 2)), some (.str (str (cnt W T))), a8, a9, a10, a11], O1⟩) (W.length + 1) (fun _ _ _ => trivial) (fun k σ K₁ hk hI h1 _ _ _ => ?_) (fun σ hI => hK _ trivial) ⟨_, _, _, _, rfl⟩
  obtain ⟨a8, a9, a10, a11, rfl⟩ := hI
  (repeat (first | with_reducible refine bnd_i ?_ | with_reducible refine ret_i ?_ | with_reducible refine getv_i (by with_unfolding_all rfl) ?_ | with_reducible refine setv_i (by with_unfolding_all rfl) (by simp only [lset]; rfl) ?_ | with_reducible refine seqF_i ?_ | with_reducible refine boolV_i ?_ | with_reducible refine tup_tgt (by with_unfolding_all rfl) ?_ | with_reducible refine tgts_i ?_ | with_reducible refine tgtN_i ?_ | with_reducible refine add_i ?_ | with_reducible refine sub_i ?_ | with_reducible refine neg_i ?_ | with_reducible refine aadd_i ?_ | with_reducible refine asub_i ?_ | with_reducible refine mod_i (by decide) ?_ | with_reducible refine div_i (by decide) ?_ | with_reducible refine int_i ?_ | with_reducible refine lst_i' ?_ | with_reducible refine itm_s ?_ | with_reducible refine itm_t ?_ | with_reducible refine comp_i ?_ | with_reducible refine tr_b ?_ | with_reducible refine tr_n ?_ | with_reducible refine is_n ?_ | with_reducible refine isnt_n ?_ | with_reducible refine if_t (by with_unfolding_all rfl) ?_ | with_reducible refine if_f (by with_unfolding_all rfl) ?_ | with_reducible refine fnW_i (by with_unfolding_all rfl) (by with_unfolding_all rfl) ?_ | with_reducible refine gdW_i (by with_unfolding_all exact trivial) ?_ | with_reducible refine tup_i (by simp only [List.length]; decide) ?_ | with_reducible refine lst_i (by simp only [List.length]; decide) ?_ | with_reducible refine ref_i (by simp only [List.length]; decide) ?_ | with_reducible refine ifp_t (by with_unfolding_all rfl) ?_ | with_reducible refine ifp_f (by with_unfolding_all rfl) ?_ | with_reducible refine find_i ?_ | with_reducible refine find3_i ?_))
  rw [show (T : Int) + 1 = ((T + 1 : Nat) : Int) by omega]
  refine rng1_i (by omega) (by omega) ?_
  refine forL_range (fun r σ => ∃ a9 a10 a11, σ = ⟨[some (.lst (ns.map .int)), some (.lst (wV W)), some (.int T), some vr, some (.lst (qs.map pairI)), some (.inst C objs.length), some (.ref (objs.length + 2)), some (.str (str (cnt W T))), some (.int k), a9, a10, a11], O1⟩) (T + 1) (fun _ _ _ => trivial) (fun r σ K₂ hr hI h2 _ _ _ => ?_) (fun σ hI => by obtain ⟨a9, a10, a11, rfl⟩ := hI; exact h1 _ ⟨_, _, _, _, rfl⟩) ⟨_, _, _, rfl⟩
  obtain ⟨a9, a10, a11, rfl⟩ := hI
  have hk7 : k < 7 := by omega
  have hr8 : r < 8 := by omega
  have hmem : (k, r) ∈ qs ↔ (k, r) ∈ N := by rw [hqp.mem_iff, hNp.mem_iff]
  (repeat (first | with_reducible refine bnd_i ?_ | with_reducible refine ret_i ?_ | with_reducible refine getv_i (by with_unfolding_all rfl) ?_ | with_reducible refine setv_i (by with_unfolding_all rfl) (by simp only [lset]; rfl) ?_ | with_reducible refine boolV_i ?_ | with_reducible refine tup_tgt (by with_unfolding_all rfl) ?_ | with_reducible refine tgts_i ?_ | with_reducible refine tgtN_i ?_ | with_reducible refine add_i ?_ | with_reducible refine sub_i ?_ | with_reducible refine neg_i ?_ | with_reducible refine aadd_i ?_ | with_reducible refine asub_i ?_ | with_reducible refine mod_i (by decide) ?_ | with_reducible refine div_i (by decide) ?_ | with_reducible refine int_i ?_ | with_reducible refine lst_i' ?_ | with_reducible refine itm_s ?_ | with_reducible refine itm_t ?_ | with_reducible refine comp_i ?_ | with_reducible refine tr_b ?_ | with_reducible refine tr_n ?_ | with_reducible refine is_n ?_ | with_reducible refine isnt_n ?_ | with_reducible refine if_t (by with_unfolding_all rfl) ?_ | with_reducible refine if_f (by with_unfolding_all rfl) ?_ | with_reducible refine fnW_i (by with_unfolding_all rfl) (by with_unfolding_all rfl) ?_ | with_reducible refine gdW_i (by with_unfolding_all exact trivial) ?_ | with_reducible refine tup_i (by simp only [List.length]; decide) ?_ | with_reducible refine lst_i (by simp only [List.length]; decide) ?_ | with_reducible refine ref_i (by simp only [List.length]; decide) ?_ | with_reducible refine ifp_t (by with_unfolding_all rfl) ?_ | with_reducible refine ifp_f (by with_unfolding_all rfl) ?_ | with_reducible refine find_i ?_ | with_reducible refine find3_i ?_))
  refine seqF_of (fun σ => σ = ⟨[some (.lst (ns.map .int)), some (.lst (wV W)), some (.int T), some vr, some (.lst (qs.map pairI)), some (.inst C objs.length), some (.ref (objs.length + 2)), some (.str (str (cnt W T))), some (.int k), some (.int r), some .none, a11], O1⟩) (fun K₃ hK₃ => ?_) ?_
  · (repeat (first | with_reducible refine bnd_i ?_ | with_reducible refine ret_i ?_ | with_reducible refine getv_i (by with_unfolding_all rfl) ?_ | with_reducible refine setv_i (by with_unfolding_all rfl) (by simp only [lset]; rfl) ?_ | with_reducible refine seqF_i ?_ | with_reducible refine boolV_i ?_ | with_reducible refine tup_tgt (by with_unfolding_all rfl) ?_ | with_reducible refine tgts_i ?_ | with_reducible refine tgtN_i ?_ | with_reducible refine add_i ?_ | with_reducible refine sub_i ?_ | with_reducible refine neg_i ?_ | with_reducible refine aadd_i ?_ | with_reducible refine asub_i ?_ | with_reducible refine mod_i (by decide) ?_ | with_reducible refine div_i (by decide) ?_ | with_reducible refine int_i ?_ | with_reducible refine lst_i' ?_ | with_reducible refine itm_s ?_ | with_reducible refine itm_t ?_ | with_reducible refine comp_i ?_ | with_reducible refine tr_b ?_ | with_reducible refine tr_n ?_ | with_reducible refine is_n ?_ | with_reducible refine isnt_n ?_ | with_reducible refine if_t (by with_unfolding_all rfl) ?_ | with_reducible refine if_f (by with_unfolding_all rfl) ?_ | with_reducible refine fnW_i (by with_unfolding_all rfl) (by with_unfolding_all rfl) ?_ | with_reducible refine gdW_i (by with_unfolding_all exact trivial) ?_ | with_reducible refine tup_i (by simp only [List.length]; decide) ?_ | with_reducible refine lst_i (by simp only [List.length]; decide) ?_ | with_reducible refine ref_i (by simp only [List.length]; decide) ?_ | with_reducible refine ifp_t (by with_unfolding_all rfl) ?_ | with_reducible refine ifp_f (by with_unfolding_all rfl) ?_ | with_reducible refine find_i ?_ | with_reducible refine find3_i ?_))
    exact hK₃ _ rfl
  rintro _ rfl
  refine seqF_of (fun σ => σ = ⟨[some (.lst (ns.map .int)), some (.lst (wV W)), some (.int T), some vr, some (.lst (qs.map pairI)), some (.inst C objs.length), some (.ref (objs.length + 2)), some (.str (str (cnt W T))), some (.int k), some (.int r), some (if (k, r) ∈ N then .str (str (cnt (W.drop k) r)) else .none), a11], O1⟩) (fun K₃ hK₃ => ?_) ?_
  · (repeat (first | with_reducible refine bnd_i ?_ | with_reducible refine ret_i ?_ | with_reducible refine getv_i (by with_unfolding_all rfl) ?_ | with_reducible refine setv_i (by with_unfolding_all rfl) (by simp only [lset]; rfl) ?_ | with_reducible refine seqF_i ?_ | with_reducible refine boolV_i ?_ | with_reducible refine tup_tgt (by with_unfolding_all rfl) ?_ | with_reducible refine tgts_i ?_ | with_reducible refine tgtN_i ?_ | with_reducible refine add_i ?_ | with_reducible refine sub_i ?_ | with_reducible refine neg_i ?_ | with_reducible refine aadd_i ?_ | with_reducible refine asub_i ?_ | with_reducible refine mod_i (by decide) ?_ | with_reducible refine div_i (by decide) ?_ | with_reducible refine int_i ?_ | with_reducible refine lst_i' ?_ | with_reducible refine itm_s ?_ | with_reducible refine itm_t ?_ | with_reducible refine comp_i ?_ | with_reducible refine tr_b ?_ | with_reducible refine tr_n ?_ | with_reducible refine is_n ?_ | with_reducible refine isnt_n ?_ | with_reducible refine if_t (by with_unfolding_all rfl) ?_ | with_reducible refine if_f (by with_unfolding_all rfl) ?_ | with_reducible refine fnW_i (by with_unfolding_all rfl) (by with_unfolding_all rfl) ?_ | with_reducible refine gdW_i (by with_unfolding_all exact trivial) ?_ | with_reducible refine tup_i (by simp only [List.length]; decide) ?_ | with_reducible refine lst_i (by simp only [List.length]; decide) ?_ | with_reducible refine ref_i (by simp only [List.length]; decide) ?_ | with_reducible refine ifp_t (by with_unfolding_all rfl) ?_ | with_reducible refine ifp_f (by with_unfolding_all rfl) ?_ | with_reducible refine find_i ?_ | with_reducible refine find3_i ?_))
    refine in_v (inA_pairs (x := (k, r)) (l := qs) rfl (fun h => ?_) (fun h => ?_))
    · obtain ⟨u, hu1, hu2, hu3⟩ := hrow k r (by omega) (by omega)
      (repeat (first | with_reducible refine bnd_i ?_ | with_reducible refine ret_i ?_ | with_reducible refine getv_i (by with_unfolding_all rfl) ?_ | with_reducible refine setv_i (by with_unfolding_all rfl) (by simp only [lset]; rfl) ?_ | with_reducible refine seqF_i ?_ | with_reducible refine boolV_i ?_ | with_reducible refine tup_tgt (by with_unfolding_all rfl) ?_ | with_reducible refine tgts_i ?_ | with_reducible refine tgtN_i ?_ | with_reducible refine add_i ?_ | with_reducible refine sub_i ?_ | with_reducible refine neg_i ?_ | with_reducible refine aadd_i ?_ | with_reducible refine asub_i ?_ | with_reducible refine mod_i (by decide) ?_ | with_reducible refine div_i (by decide) ?_ | with_reducible refine int_i ?_ | with_reducible refine lst_i' ?_ | with_reducible refine itm_s ?_ | with_reducible refine itm_t ?_ | with_reducible refine comp_i ?_ | with_reducible refine tr_b ?_ | with_reducible refine tr_n ?_ | with_reducible refine is_n ?_ | with_reducible refine isnt_n ?_ | with_reducible refine if_t (by with_unfolding_all rfl) ?_ | with_reducible refine if_f (by with_unfolding_all rfl) ?_ | with_reducible refine fnW_i (by with_unfolding_all rfl) (by with_unfolding_all rfl) ?_ | with_reducible refine gdW_i (by with_unfolding_all exact trivial) ?_ | with_reducible refine tup_i (by simp only [List.length]; decide) ?_ | with_reducible refine lst_i (by simp only [List.length]; decide) ?_ | with_reducible refine ref_i (by simp only [List.length]; decide) ?_ | with_reducible refine ifp_t (by with_unfolding_all rfl) ?_ | with_reducible refine ifp_f (by with_unfolding_all rfl) ?_ | with_reducible refine find_i ?_ | with_reducible refine find3_i ?_))
      refine sub_l hrs (by omega) hu1 ?_
      (repeat (first | with_reducible refine bnd_i ?_ | with_reducible refine ret_i ?_ | with_reducible refine getv_i (by with_unfolding_all rfl) ?_ | with_reducible refine setv_i (by with_unfolding_all rfl) (by simp only [lset]; rfl) ?_ | with_reducible refine seqF_i ?_ | with_reducible refine boolV_i ?_ | with_reducible refine tup_tgt (by with_unfolding_all rfl) ?_ | with_reducible refine tgts_i ?_ | with_reducible refine tgtN_i ?_ | with_reducible refine add_i ?_ | with_reducible refine sub_i ?_ | with_reducible refine neg_i ?_ | with_reducible refine aadd_i ?_ | with_reducible refine asub_i ?_ | with_reducible refine mod_i (by decide) ?_ | with_reducible refine div_i (by decide) ?_ | with_reducible refine int_i ?_ | with_reducible refine lst_i' ?_ | with_reducible refine itm_s ?_ | with_reducible refine itm_t ?_ | with_reducible refine comp_i ?_ | with_reducible refine tr_b ?_ | with_reducible refine tr_n ?_ | with_reducible refine is_n ?_ | with_reducible refine isnt_n ?_ | with_reducible refine if_t (by with_unfolding_all rfl) ?_ | with_reducible refine if_f (by with_unfolding_all rfl) ?_ | with_reducible refine fnW_i (by with_unfolding_all rfl) (by with_unfolding_all rfl) ?_ | with_reducible refine gdW_i (by with_unfolding_all exact trivial) ?_ | with_reducible refine tup_i (by simp only [List.length]; decide) ?_ | with_reducible refine lst_i (by simp only [List.length]; decide) ?_ | with_reducible refine ref_i (by simp only [List.length]; decide) ?_ | with_reducible refine ifp_t (by with_unfolding_all rfl) ?_ | with_reducible refine ifp_f (by with_unfolding_all rfl) ?_ | with_reducible refine find_i ?_ | with_reducible refine find3_i ?_))
      refine sub_l hu2 (by omega) hu3 ?_
      have hc := cnt_small hW k r
      refine mulS_i (mul_ok _ (by omega)) ?_
      rw [mul_str _ (by omega)]
      (repeat (first | with_reducible refine bnd_i ?_ | with_reducible refine ret_i ?_ | with_reducible refine getv_i (by with_unfolding_all rfl) ?_ | with_reducible refine setv_i (by with_unfolding_all rfl) (by simp only [lset]; rfl) ?_ | with_reducible refine seqF_i ?_ | with_reducible refine boolV_i ?_ | with_reducible refine tup_tgt (by with_unfolding_all rfl) ?_ | with_reducible refine tgts_i ?_ | with_reducible refine tgtN_i ?_ | with_reducible refine add_i ?_ | with_reducible refine sub_i ?_ | with_reducible refine neg_i ?_ | with_reducible refine aadd_i ?_ | with_reducible refine asub_i ?_ | with_reducible refine mod_i (by decide) ?_ | with_reducible refine div_i (by decide) ?_ | with_reducible refine int_i ?_ | with_reducible refine lst_i' ?_ | with_reducible refine itm_s ?_ | with_reducible refine itm_t ?_ | with_reducible refine comp_i ?_ | with_reducible refine tr_b ?_ | with_reducible refine tr_n ?_ | with_reducible refine is_n ?_ | with_reducible refine isnt_n ?_ | with_reducible refine if_t (by with_unfolding_all rfl) ?_ | with_reducible refine if_f (by with_unfolding_all rfl) ?_ | with_reducible refine fnW_i (by with_unfolding_all rfl) (by with_unfolding_all rfl) ?_ | with_reducible refine gdW_i (by with_unfolding_all exact trivial) ?_ | with_reducible refine tup_i (by simp only [List.length]; decide) ?_ | with_reducible refine lst_i (by simp only [List.length]; decide) ?_ | with_reducible refine ref_i (by simp only [List.length]; decide) ?_ | with_reducible refine ifp_t (by with_unfolding_all rfl) ?_ | with_reducible refine ifp_f (by with_unfolding_all rfl) ?_ | with_reducible refine find_i ?_ | with_reducible refine find3_i ?_))
      exact hK₃ _ (by rw [if_pos (hmem.mp h)])
    · (repeat (first | with_reducible refine bnd_i ?_ | with_reducible refine ret_i ?_ | with_reducible refine getv_i (by with_unfolding_all rfl) ?_ | with_reducible refine setv_i (by with_unfolding_all rfl) (by simp only [lset]; rfl) ?_ | with_reducible refine seqF_i ?_ | with_reducible refine boolV_i ?_ | with_reducible refine tup_tgt (by with_unfolding_all rfl) ?_ | with_reducible refine tgts_i ?_ | with_reducible refine tgtN_i ?_ | with_reducible refine add_i ?_ | with_reducible refine sub_i ?_ | with_reducible refine neg_i ?_ | with_reducible refine aadd_i ?_ | with_reducible refine asub_i ?_ | with_reducible refine mod_i (by decide) ?_ | with_reducible refine div_i (by decide) ?_ | with_reducible refine int_i ?_ | with_reducible refine lst_i' ?_ | with_reducible refine itm_s ?_ | with_reducible refine itm_t ?_ | with_reducible refine comp_i ?_ | with_reducible refine tr_b ?_ | with_reducible refine tr_n ?_ | with_reducible refine is_n ?_ | with_reducible refine isnt_n ?_ | with_reducible refine if_t (by with_unfolding_all rfl) ?_ | with_reducible refine if_f (by with_unfolding_all rfl) ?_ | with_reducible refine fnW_i (by with_unfolding_all rfl) (by with_unfolding_all rfl) ?_ | with_reducible refine gdW_i (by with_unfolding_all exact trivial) ?_ | with_reducible refine tup_i (by simp only [List.length]; decide) ?_ | with_reducible refine lst_i (by simp only [List.length]; decide) ?_ | with_reducible refine ref_i (by simp only [List.length]; decide) ?_ | with_reducible refine ifp_t (by with_unfolding_all rfl) ?_ | with_reducible refine ifp_f (by with_unfolding_all rfl) ?_ | with_reducible refine find_i ?_ | with_reducible refine find3_i ?_))
      exact hK₃ _ (by rw [if_neg fun h' => h (hmem.mpr h')])
  rintro _ rfl
  (repeat (first | with_reducible refine bnd_i ?_ | with_reducible refine ret_i ?_ | with_reducible refine getv_i (by with_unfolding_all rfl) ?_ | with_reducible refine setv_i (by with_unfolding_all rfl) (by simp only [lset]; rfl) ?_ | with_reducible refine seqF_i ?_ | with_reducible refine boolV_i ?_ | with_reducible refine tup_tgt (by with_unfolding_all rfl) ?_ | with_reducible refine tgts_i ?_ | with_reducible refine tgtN_i ?_ | with_reducible refine add_i ?_ | with_reducible refine sub_i ?_ | with_reducible refine neg_i ?_ | with_reducible refine aadd_i ?_ | with_reducible refine asub_i ?_ | with_reducible refine mod_i (by decide) ?_ | with_reducible refine div_i (by decide) ?_ | with_reducible refine int_i ?_ | with_reducible refine lst_i' ?_ | with_reducible refine itm_s ?_ | with_reducible refine itm_t ?_ | with_reducible refine comp_i ?_ | with_reducible refine tr_b ?_ | with_reducible refine tr_n ?_ | with_reducible refine is_n ?_ | with_reducible refine isnt_n ?_ | with_reducible refine if_t (by with_unfolding_all rfl) ?_ | with_reducible refine if_f (by with_unfolding_all rfl) ?_ | with_reducible refine fnW_i (by with_unfolding_all rfl) (by with_unfolding_all rfl) ?_ | with_reducible refine gdW_i (by with_unfolding_all exact trivial) ?_ | with_reducible refine tup_i (by simp only [List.length]; decide) ?_ | with_reducible refine lst_i (by simp only [List.length]; decide) ?_ | with_reducible refine ref_i (by simp only [List.length]; decide) ?_ | with_reducible refine ifp_t (by with_unfolding_all rfl) ?_ | with_reducible refine ifp_f (by with_unfolding_all rfl) ?_ | with_reducible refine find_i ?_ | with_reducible refine find3_i ?_))
  refine mul_i (IntMulOk.of_left (by decide)) ?_
  (repeat (first | with_reducible refine bnd_i ?_ | with_reducible refine ret_i ?_ | with_reducible refine getv_i (by with_unfolding_all rfl) ?_ | with_reducible refine setv_i (by with_unfolding_all rfl) (by simp only [lset]; rfl) ?_ | with_reducible refine seqF_i ?_ | with_reducible refine boolV_i ?_ | with_reducible refine tup_tgt (by with_unfolding_all rfl) ?_ | with_reducible refine tgts_i ?_ | with_reducible refine tgtN_i ?_ | with_reducible refine add_i ?_ | with_reducible refine sub_i ?_ | with_reducible refine neg_i ?_ | with_reducible refine aadd_i ?_ | with_reducible refine asub_i ?_ | with_reducible refine mod_i (by decide) ?_ | with_reducible refine div_i (by decide) ?_ | with_reducible refine int_i ?_ | with_reducible refine lst_i' ?_ | with_reducible refine itm_s ?_ | with_reducible refine itm_t ?_ | with_reducible refine comp_i ?_ | with_reducible refine tr_b ?_ | with_reducible refine tr_n ?_ | with_reducible refine is_n ?_ | with_reducible refine isnt_n ?_ | with_reducible refine if_t (by with_unfolding_all rfl) ?_ | with_reducible refine if_f (by with_unfolding_all rfl) ?_ | with_reducible refine fnW_i (by with_unfolding_all rfl) (by with_unfolding_all rfl) ?_ | with_reducible refine gdW_i (by with_unfolding_all exact trivial) ?_ | with_reducible refine tup_i (by simp only [List.length]; decide) ?_ | with_reducible refine lst_i (by simp only [List.length]; decide) ?_ | with_reducible refine ref_i (by simp only [List.length]; decide) ?_ | with_reducible refine ifp_t (by with_unfolding_all rfl) ?_ | with_reducible refine ifp_f (by with_unfolding_all rfl) ?_ | with_reducible refine find_i ?_ | with_reducible refine find3_i ?_))
  rw [show (k : Int) + 2 * (r : Int) + (T : Int) = ((k + 2 * r + T : Nat) : Int) by omega, mod4_nat]
  (repeat (first | with_reducible refine bnd_i ?_ | with_reducible refine ret_i ?_ | with_reducible refine getv_i (by with_unfolding_all rfl) ?_ | with_reducible refine setv_i (by with_unfolding_all rfl) (by simp only [lset]; rfl) ?_ | with_reducible refine seqF_i ?_ | with_reducible refine boolV_i ?_ | with_reducible refine tup_tgt (by with_unfolding_all rfl) ?_ | with_reducible refine tgts_i ?_ | with_reducible refine tgtN_i ?_ | with_reducible refine add_i ?_ | with_reducible refine sub_i ?_ | with_reducible refine neg_i ?_ | with_reducible refine aadd_i ?_ | with_reducible refine asub_i ?_ | with_reducible refine mod_i (by decide) ?_ | with_reducible refine div_i (by decide) ?_ | with_reducible refine int_i ?_ | with_reducible refine lst_i' ?_ | with_reducible refine itm_s ?_ | with_reducible refine itm_t ?_ | with_reducible refine comp_i ?_ | with_reducible refine tr_b ?_ | with_reducible refine tr_n ?_ | with_reducible refine is_n ?_ | with_reducible refine isnt_n ?_ | with_reducible refine if_t (by with_unfolding_all rfl) ?_ | with_reducible refine if_f (by with_unfolding_all rfl) ?_ | with_reducible refine fnW_i (by with_unfolding_all rfl) (by with_unfolding_all rfl) ?_ | with_reducible refine gdW_i (by with_unfolding_all exact trivial) ?_ | with_reducible refine tup_i (by simp only [List.length]; decide) ?_ | with_reducible refine lst_i (by simp only [List.length]; decide) ?_ | with_reducible refine ref_i (by simp only [List.length]; decide) ?_ | with_reducible refine ifp_t (by with_unfolding_all rfl) ?_ | with_reducible refine ifp_f (by with_unfolding_all rfl) ?_ | with_reducible refine find_i ?_ | with_reducible refine find3_i ?_))
  refine ⟨k, r, _, rfl, hk7, hr8, ?_⟩
  (repeat (first | with_reducible refine bnd_i ?_ | with_reducible refine ret_i ?_ | with_reducible refine getv_i (by with_unfolding_all rfl) ?_ | with_reducible refine setv_i (by with_unfolding_all rfl) (by simp only [lset]; rfl) ?_ | with_reducible refine seqF_i ?_ | with_reducible refine boolV_i ?_ | with_reducible refine tup_tgt (by with_unfolding_all rfl) ?_ | with_reducible refine tgts_i ?_ | with_reducible refine tgtN_i ?_ | with_reducible refine add_i ?_ | with_reducible refine sub_i ?_ | with_reducible refine neg_i ?_ | with_reducible refine aadd_i ?_ | with_reducible refine asub_i ?_ | with_reducible refine mod_i (by decide) ?_ | with_reducible refine div_i (by decide) ?_ | with_reducible refine int_i ?_ | with_reducible refine lst_i' ?_ | with_reducible refine itm_s ?_ | with_reducible refine itm_t ?_ | with_reducible refine comp_i ?_ | with_reducible refine tr_b ?_ | with_reducible refine tr_n ?_ | with_reducible refine is_n ?_ | with_reducible refine isnt_n ?_ | with_reducible refine if_t (by with_unfolding_all rfl) ?_ | with_reducible refine if_f (by with_unfolding_all rfl) ?_ | with_reducible refine fnW_i (by with_unfolding_all rfl) (by with_unfolding_all rfl) ?_ | with_reducible refine gdW_i (by with_unfolding_all exact trivial) ?_ | with_reducible refine tup_i (by simp only [List.length]; decide) ?_ | with_reducible refine lst_i (by simp only [List.length]; decide) ?_ | with_reducible refine ref_i (by simp only [List.length]; decide) ?_ | with_reducible refine ifp_t (by with_unfolding_all rfl) ?_ | with_reducible refine ifp_f (by with_unfolding_all rfl) ?_ | with_reducible refine find_i ?_ | with_reducible refine find3_i ?_))
  refine instW_i hTB.1 rfl ⟨_, _, _, _, rfl, hTB, hTab, nm_okK hk7 hr8 _, ?_⟩
  rw [tabP_get hW hk7 hr8 _ hws.inb]
  (repeat (first | with_reducible refine bnd_i ?_ | with_reducible refine ret_i ?_ | with_reducible refine getv_i (by with_unfolding_all rfl) ?_ | with_reducible refine setv_i (by with_unfolding_all rfl) (by simp only [lset]; rfl) ?_ | with_reducible refine seqF_i ?_ | with_reducible refine boolV_i ?_ | with_reducible refine tup_tgt (by with_unfolding_all rfl) ?_ | with_reducible refine tgts_i ?_ | with_reducible refine tgtN_i ?_ | with_reducible refine add_i ?_ | with_reducible refine sub_i ?_ | with_reducible refine neg_i ?_ | with_reducible refine aadd_i ?_ | with_reducible refine asub_i ?_ | with_reducible refine mod_i (by decide) ?_ | with_reducible refine div_i (by decide) ?_ | with_reducible refine int_i ?_ | with_reducible refine lst_i' ?_ | with_reducible refine itm_s ?_ | with_reducible refine itm_t ?_ | with_reducible refine comp_i ?_ | with_reducible refine tr_b ?_ | with_reducible refine tr_n ?_ | with_reducible refine is_n ?_ | with_reducible refine isnt_n ?_ | with_reducible refine if_t (by with_unfolding_all rfl) ?_ | with_reducible refine if_f (by with_unfolding_all rfl) ?_ | with_reducible refine fnW_i (by with_unfolding_all rfl) (by with_unfolding_all rfl) ?_ | with_reducible refine gdW_i (by with_unfolding_all exact trivial) ?_ | with_reducible refine tup_i (by simp only [List.length]; decide) ?_ | with_reducible refine lst_i (by simp only [List.length]; decide) ?_ | with_reducible refine ref_i (by simp only [List.length]; decide) ?_ | with_reducible refine ifp_t (by with_unfolding_all rfl) ?_ | with_reducible refine ifp_f (by with_unfolding_all rfl) ?_ | with_reducible refine find_i ?_ | with_reducible refine find3_i ?_))
  by_cases hm : (k, r) ∈ N
  · rw [if_pos hm]
    refine ne_s (fun _ => ?_) (fun h => absurd rfl h)
    (repeat (first | with_reducible refine bnd_i ?_ | with_reducible refine ret_i ?_ | with_reducible refine getv_i (by with_unfolding_all rfl) ?_ | with_reducible refine setv_i (by with_unfolding_all rfl) (by simp only [lset]; rfl) ?_ | with_reducible refine seqF_i ?_ | with_reducible refine boolV_i ?_ | with_reducible refine tup_tgt (by with_unfolding_all rfl) ?_ | with_reducible refine tgts_i ?_ | with_reducible refine tgtN_i ?_ | with_reducible refine add_i ?_ | with_reducible refine sub_i ?_ | with_reducible refine neg_i ?_ | with_reducible refine aadd_i ?_ | with_reducible refine asub_i ?_ | with_reducible refine mod_i (by decide) ?_ | with_reducible refine div_i (by decide) ?_ | with_reducible refine int_i ?_ | with_reducible refine lst_i' ?_ | with_reducible refine itm_s ?_ | with_reducible refine itm_t ?_ | with_reducible refine comp_i ?_ | with_reducible refine tr_b ?_ | with_reducible refine tr_n ?_ | with_reducible refine is_n ?_ | with_reducible refine isnt_n ?_ | with_reducible refine if_t (by with_unfolding_all rfl) ?_ | with_reducible refine if_f (by with_unfolding_all rfl) ?_ | with_reducible refine fnW_i (by with_unfolding_all rfl) (by with_unfolding_all rfl) ?_ | with_reducible refine gdW_i (by with_unfolding_all exact trivial) ?_ | with_reducible refine tup_i (by simp only [List.length]; decide) ?_ | with_reducible refine lst_i (by simp only [List.length]; decide) ?_ | with_reducible refine ref_i (by simp only [List.length]; decide) ?_ | with_reducible refine ifp_t (by with_unfolding_all rfl) ?_ | with_reducible refine ifp_f (by with_unfolding_all rfl) ?_ | with_reducible refine find_i ?_ | with_reducible refine find3_i ?_))
    exact h2 _ ⟨_, _, _, rfl⟩
  · rw [if_neg hm]
    refine ne_v (eqA_nn ?_)
    (repeat (first | with_reducible refine bnd_i ?_ | with_reducible refine ret_i ?_ | with_reducible refine getv_i (by with_unfolding_all rfl) ?_ | with_reducible refine setv_i (by with_unfolding_all rfl) (by simp only [lset]; rfl) ?_ | with_reducible refine seqF_i ?_ | with_reducible refine boolV_i ?_ | with_reducible refine tup_tgt (by with_unfolding_all rfl) ?_ | with_reducible refine tgts_i ?_ | with_reducible refine tgtN_i ?_ | with_reducible refine add_i ?_ | with_reducible refine sub_i ?_ | with_reducible refine neg_i ?_ | with_reducible refine aadd_i ?_ | with_reducible refine asub_i ?_ | with_reducible refine mod_i (by decide) ?_ | with_reducible refine div_i (by decide) ?_ | with_reducible refine int_i ?_ | with_reducible refine lst_i' ?_ | with_reducible refine itm_s ?_ | with_reducible refine itm_t ?_ | with_reducible refine comp_i ?_ | with_reducible refine tr_b ?_ | with_reducible refine tr_n ?_ | with_reducible refine is_n ?_ | with_reducible refine isnt_n ?_ | with_reducible refine if_t (by with_unfolding_all rfl) ?_ | with_reducible refine if_f (by with_unfolding_all rfl) ?_ | with_reducible refine fnW_i (by with_unfolding_all rfl) (by with_unfolding_all rfl) ?_ | with_reducible refine gdW_i (by with_unfolding_all exact trivial) ?_ | with_reducible refine tup_i (by simp only [List.length]; decide) ?_ | with_reducible refine lst_i (by simp only [List.length]; decide) ?_ | with_reducible refine ref_i (by simp only [List.length]; decide) ?_ | with_reducible refine ifp_t (by with_unfolding_all rfl) ?_ | with_reducible refine ifp_f (by with_unfolding_all rfl) ?_ | with_reducible refine find_i ?_ | with_reducible refine find3_i ?_))
    exact h2 _ ⟨_, _, _, rfl⟩
end Mine

open PySem PySem.W PyProof.Rows
set_option Elab.async false
set_option maxRecDepth 100000
set_option maxHeartbeats 8000000
theorem Mine.glob_chk : ∀ q, Mine.globChk (Mine.PG.K q) Mine.PG.glob = true := fun q => by kernel_rfl
theorem Mine.law_nocell : ∀ x ∈ Mine.fd_law.scope.names, x.2 ≠ .cell := by decide +kernel
theorem PySem.Challenge.cw_dn0263_12_holds : PySem.Challenge.rw_dn0263_12.Holds :=
  hd (by
  w_strict (
    k_go0
    obtain ⟨fb, hb, hrun⟩ := Mine.law_run
    rename Glob _ _ _ _ _ _ _ _ => GL
    rename Well _ _ _ _ => hW
    rename Fr _ _ _ _ => F
    refine Mine.law_end hb (hrun _ (by omega)) (by assumption) GL.g GL.b GL.builtins GL.nolimit Mine.glob_chk (fun _ => rfl) rfl rfl rfl rfl rfl Mine.law_nocell rfl (by decide) F ?_ (by assumption) hW (fun s' m F' hg' hos => ?_)
    · rfl
    · refine goodW_bool F' hg' (raisesW_false ?_) ?_ hos
      · wrow_none_raised
      · wrow_post))

