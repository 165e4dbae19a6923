import PyProof.Rows.All
import Wide.All
import OpenK.AllK
import Wide.FinOn
import KE.KIntText
import KE.KParD
import KE.KRevIter
import KE.KMulAny
import KE.KSortTup
import KE.KBoundM
import KE.KTab
import PyProof.StationsW
import PySem.Challenge.RW_dn0263_06
set_option tactic.hygienic false
open PySem PySem.W PyProof.Rows PySem.Calls
set_option Elab.async false
set_option maxRecDepth 100000

namespace Mine

/-! ## Abstract values, objects, states -/

inductive V where
  | none | bool (b : Bool) | int (i : Int) | str (s : Str)
  | tup (l : List V) | lst (l : List V)
  | ref (i : Nat) | inst (c i : Nat) | glob (v : Value) | fzo (o : Obj) | dct (i : Nat)

inductive O where
  | list (l : List V)
  | attrs (l : List (Str × V))

inductive Fl where
  | next | brk | cont | ret (v : V)

structure St where
  loc : List (Option V)
  objs : List O

noncomputable abbrev W (α : Type) := (α → St → Prop) → St → Prop

noncomputable def lget : List (Option V) → Nat → Option V
  | [], _ => .none
  | a :: _, 0 => a
  | _ :: l, n + 1 => lget l n
noncomputable def lset : List (Option V) → Nat → V → List (Option V)
  | [], _, _ => []
  | _ :: l, 0, v => some v :: l
  | a :: l, n + 1, v => a :: lset l n v

theorem lget_lset_self : ∀ (l : List (Option V)) (k : Nat) (v : V), k < l.length → lget (lset l k v) k = some v
  | _ :: _, 0, _, _ => rfl
  | _ :: l, n + 1, v, h => lget_lset_self l n v (Nat.lt_of_succ_lt_succ h)
theorem lget_lset_ne : ∀ (l : List (Option V)) (k j : Nat) (v : V), j ≠ k → lget (lset l k v) j = lget l j
  | [], _, _, _, _ => rfl
  | _ :: _, 0, 0, _, h => absurd rfl h
  | _ :: _, 0, _ + 1, _, _ => rfl
  | _ :: _, _ + 1, 0, _, _ => rfl
  | _ :: l, k + 1, j + 1, v, h => lget_lset_ne l k j v fun e => h (by rw [e])
theorem lget_some_lt : ∀ {l : List (Option V)} {k : Nat} {v : V}, lget l k = some v → k < l.length
  | [], _, _, h => by cases h
  | _ :: _, 0, _, _ => Nat.succ_pos _
  | _ :: l, n + 1, _, h => Nat.succ_lt_succ (lget_some_lt (l := l) (k := n) h)
theorem lset_self_or {l : List (Option V)} {k j : Nat} {v u : V} (h : lget (lset l k v) j = some u) : (j = k ∧ u = v) ∨ (j ≠ k ∧ lget l j = some u) := by
  by_cases e : j = k
  · subst e
    have hl : j < l.length := by
      have := lget_some_lt h
      clear h
      induction l generalizing j with
      | nil => exact absurd this (Nat.not_lt_zero _)
      | cons a l ih => cases j with
        | zero => exact Nat.succ_pos _
        | succ n => exact Nat.succ_lt_succ (ih (Nat.lt_of_succ_lt_succ this))
    rw [lget_lset_self _ _ _ hl] at h
    exact .inl ⟨rfl, (Option.some.inj h).symm⟩
  · rw [lget_lset_ne _ _ _ _ e] at h
    exact .inr ⟨e, h⟩

/-! ## Ghost and relations -/

structure G where
  fz : List (Addr × Obj)
  tr : List Addr

noncomputable def G.le (g g' : G) : Prop := (∀ p ∈ g.fz, p ∈ g'.fz) ∧ ∃ r, g'.tr = g.tr ++ r
theorem G.le.refl (g : G) : g.le g := ⟨fun _ h => h, [], by simp⟩
theorem G.le.trans {a b c : G} (x : a.le b) (y : b.le c) : a.le c := by
  obtain ⟨r, hr⟩ := x.2
  obtain ⟨r', hr'⟩ := y.2
  exact ⟨fun p h => y.1 p (x.1 p h), r ++ r', by rw [hr', hr, List.append_assoc]⟩
theorem G.le.tr {g g' : G} (x : g.le g') {i : Nat} {a : Addr} (h : g.tr[i]? = some a) : g'.tr[i]? = some a := by
  obtain ⟨r, hr⟩ := x.2
  rw [hr, List.getElem?_append_left (List.getElem?_eq_some_iff.mp h).1]; exact h

noncomputable abbrev listO (xs : List Value) (n : Nat) : Obj := { cls := .type "list", data := .seq xs.toArray n }
noncomputable abbrev tupO (xs : List Value) (n : Nat) : Obj := { cls := .type "tuple", data := .seq xs.toArray n }
noncomputable abbrev instO (c dx : Addr) (sl : Array (Option Value)) : Obj := ⟨.ref c, some dx, .plain, sl⟩

mutual
noncomputable def VR (g : G) : V → Value → Prop
  | .none, x => x = .none
  | .bool b, x => x = .bool b
  | .int i, x => ∃ t, x = .int i t
  | .str s, x => ∃ t, x = .str s t
  | .tup l, x => ∃ a xs n, x = .ref a ∧ (a, tupO xs n) ∈ g.fz ∧ VRs g l xs
  | .lst l, x => ∃ a xs n, x = .ref a ∧ (a, listO xs n) ∈ g.fz ∧ VRs g l xs
  | .ref i, x => ∃ a, x = .ref a ∧ g.tr[i]? = some a
  | .inst c i, x => ∃ a dx sl, x = .ref a ∧ g.tr[i]? = some dx ∧ (a, instO c dx sl) ∈ g.fz
  | .glob v, x => x = v
  | .fzo o, x => ∃ a, x = .ref a ∧ (a, o) ∈ g.fz
  | .dct i, x => ∃ a, x = .ref a ∧ g.tr[i]? = some a ∧ sysModules < a
noncomputable def VRs (g : G) : List V → List Value → Prop
  | [], xs => xs = []
  | v :: vs, xs => ∃ y ys, xs = y :: ys ∧ VR g v y ∧ VRs g vs ys
end

mutual
theorem VR.mono {g g' : G} (le : g.le g') : ∀ (v : V) {x : Value}, VR g v x → VR g' v x
  | .none, _, h => h
  | .bool _, _, h => h
  | .int _, _, h => h
  | .str _, _, h => h
  | .tup l, _, h => by
    simp only [VR] at h ⊢
    obtain ⟨a, xs, n, e, m, r⟩ := h
    exact ⟨a, xs, n, e, le.1 _ m, VRs.mono le l r⟩
  | .lst l, _, h => by
    simp only [VR] at h ⊢
    obtain ⟨a, xs, n, e, m, r⟩ := h
    exact ⟨a, xs, n, e, le.1 _ m, VRs.mono le l r⟩
  | .ref i, _, h => by
    simp only [VR] at h ⊢
    obtain ⟨a, e, m⟩ := h
    exact ⟨a, e, le.tr m⟩
  | .inst c i, _, h => by
    simp only [VR] at h ⊢
    obtain ⟨a, dx, sl, e, m, r⟩ := h
    exact ⟨a, dx, sl, e, le.tr m, le.1 _ r⟩
  | .glob _, _, h => h
  | .fzo o, _, h => by
    simp only [VR] at h ⊢
    obtain ⟨a, e, m⟩ := h
    exact ⟨a, e, le.1 _ m⟩
  | .dct i, _, h => by
    simp only [VR] at h ⊢
    obtain ⟨a, e, m, r⟩ := h
    exact ⟨a, e, le.tr m, r⟩
theorem VRs.mono {g g' : G} (le : g.le g') : ∀ (l : List V) {xs : List Value}, VRs g l xs → VRs g' l xs
  | [], _, h => h
  | v :: vs, _, h => by
    simp only [VRs] at h ⊢
    obtain ⟨y, ys, e, a, b⟩ := h
    exact ⟨y, ys, e, VR.mono le v a, VRs.mono le vs b⟩
end

theorem VRs.length {g : G} : ∀ {l : List V} {xs : List Value}, VRs g l xs → xs.length = l.length
  | [], _, h => by simp only [VRs] at h; subst h; rfl
  | v :: vs, _, h => by
    simp only [VRs] at h
    obtain ⟨y, ys, rfl, _, b⟩ := h
    simp [VRs.length b]
theorem VRs.get {g : G} : ∀ {l : List V} {xs : List Value}, VRs g l xs → ∀ {i : Nat} {v : V}, l[i]? = some v → ∃ x, xs[i]? = some x ∧ VR g v x
  | [], _, _, i, v, e => by simp at e
  | u :: vs, _, h, i, v, e => by
    simp only [VRs] at h
    obtain ⟨y, ys, rfl, a, b⟩ := h
    cases i with
    | zero => simp at e; subst e; exact ⟨y, by simp, a⟩
    | succ n => simp at e ⊢; exact VRs.get b e
theorem VRs.get' {g : G} {l : List V} {xs : List Value} (h : VRs g l xs) {i : Nat} {x : Value} (e : xs[i]? = some x) : ∃ v, l[i]? = some v ∧ VR g v x := by
  have hl := h.length
  have hi : i < l.length := by rw [← hl]; exact (List.getElem?_eq_some_iff.mp e).1
  obtain ⟨x', e', r⟩ := h.get (List.getElem?_eq_getElem hi)
  rw [e] at e'; cases e'
  exact ⟨_, List.getElem?_eq_getElem hi, r⟩
theorem VRs.append {g : G} : ∀ {l l' : List V} {xs xs' : List Value}, VRs g l xs → VRs g l' xs' → VRs g (l ++ l') (xs ++ xs')
  | [], _, _, _, h, h' => by simp only [VRs] at h; subst h; exact h'
  | v :: vs, _, _, _, h, h' => by
    simp only [VRs] at h
    obtain ⟨y, ys, rfl, a, b⟩ := h
    simp only [List.cons_append, VRs]
    exact ⟨y, _, rfl, a, VRs.append b h'⟩
theorem VRs.of_get {g : G} : ∀ {l : List V} {xs : List Value}, xs.length = l.length → (∀ (i : Nat) v x, l[i]? = some v → xs[i]? = some x → VR g v x) → VRs g l xs
  | [], xs, h, _ => by simp only [VRs]; exact List.eq_nil_of_length_eq_zero h
  | v :: vs, [], h, _ => by simp at h
  | v :: vs, y :: ys, h, k => by
    simp only [VRs]
    exact ⟨y, ys, rfl, k 0 v y rfl rfl, VRs.of_get (by simpa using h) fun i v x a b => k (i + 1) v x (by simpa using a) (by simpa using b)⟩
theorem VRs.nil {g : G} : VRs g [] [] := by simp only [VRs]
theorem VRs.cons {g : G} {v : V} {vs : List V} {x : Value} {xs : List Value} (h : VR g v x) (h' : VRs g vs xs) : VRs g (v :: vs) (x :: xs) := by simp only [VRs]; exact ⟨x, xs, rfl, h, h'⟩
theorem VRs.one {g : G} {v : V} {x : Value} (h : VR g v x) : VRs g [v] [x] := .cons h .nil

/-- an attribute table -/
noncomputable def AR (P : Params) (g : G) (l : List (Str × V)) (es : List DictEntry) : Prop :=
  es.length = l.length ∧ ∀ (i : Nat) k v e, l[i]? = some (k, v) → es[i]? = some e → (∃ t, e.key = .str k t) ∧ e.hash = PyData.keyHash P k ∧ VR g v e.val
noncomputable def OR (P : Params) (g : G) : O → Obj → Prop
  | .list l, ob => ∃ xs n, ob = listO xs n ∧ VRs g l xs
  | .attrs l, ob => ∃ es n, ob = dictOf es n ∧ n = l.length ∧ AR P g l es
theorem AR.mono {P : Params} {g g' : G} (le : g.le g') {l : List (Str × V)} {es : List DictEntry} (h : AR P g l es) : AR P g' l es :=
  ⟨h.1, fun i k v e a b => ⟨(h.2 i k v e a b).1, (h.2 i k v e a b).2.1, VR.mono le v (h.2 i k v e a b).2.2⟩⟩
theorem OR.mono {P : Params} {g g' : G} (le : g.le g') : ∀ {o : O} {ob : Obj}, OR P g o ob → OR P g' o ob
  | .list l, _, ⟨xs, n, e, r⟩ => ⟨xs, n, e, VRs.mono le l r⟩
  | .attrs l, _, ⟨es, n, e, en, r⟩ => ⟨es, n, e, en, r.mono le⟩
/-- static facts of the program text -/
structure Prg where
  prog : Program
  K : Params → Frag
  glob : List (Str × Value)

/-- static facts of a frame -/
structure Kap where
  P : Prg
  names : List (Str × NameKind)
  vars : List Str
  D : Nat
  fn : Bool

structure Ctx where
  w : World
  h₀ : Heap
  A : Around
  env : Env
  cw : List Addr
  pins : List (Addr × Obj)
  os : OsState
  forb : List Addr
  outs : List (Addr × Obj)

/-- an address that the frame may write: a cell of its own, or the table of an outer frame, which stays up to its slots -/
noncomputable def OutOK (Φ : Ctx) (a : Addr) (v : Option Value) (oc : Obj) : Prop := match Φ.outs.lookup a with
  | some o => (∃ sl, oc = { o with slots := sl }) ∧ ∃ es ep, oc.data = .dict es ep
  | none => oc.data = .cell v
noncomputable def FrameOK (Φ : Ctx) (e : Env) : Prop := e.scope.kind ≠ .module ∧ ∃ L, e.frame = some L ∧ (L = Φ.env.locals ∨ (L ∈ Φ.cw ∧ (Φ.outs.lookup L).isSome = true))

noncomputable abbrev KeepsH (h h' : Heap) : Prop := ∀ b o, h.get? b = some o → h'.get? b = some o

noncomputable def Ctx.muts (Φ : Ctx) (g : G) : List Addr := Φ.env.locals :: (Φ.cw ++ g.tr)

structure Ctx.Ok (κ : Kap) (Φ : Ctx) : Prop where
  kinds : ∀ x, Φ.env.kindOf x = κ.names.lookup x
  kind : Φ.env.scope.kind = .function
  globals : Φ.env.globals = mainGlobals
  builtins : Φ.env.builtins = builtinsNs
  handled : Φ.A.handled = none
  KIn : (κ.P.K Φ.w.params).In Φ.h₀
  nolim : Φ.h₀.NoLimit
  globs : ∃ mg mb, Φ.h₀.Ns mainGlobals mg ∧ Φ.h₀.Ns builtinsNs mb ∧ ∀ x v, κ.P.glob.lookup x = some v → mg x = some v ∨ (mg x = .none ∧ mb x = some v)
  depth : Φ.A.depth + 2 * κ.D < recursionLimit
  cwr : κ.fn = true → ∀ x, κ.names.lookup x = some .cell → ∃ c, Φ.env.cells.lookup x = some c ∧ c ∈ Φ.cw ∧ Φ.outs.lookup c = .none
  above : Φ.h₀.objs.size ≤ Φ.env.locals
  cinj : ∀ x y c, Φ.env.cells.lookup x = some c → Φ.env.cells.lookup y = some c → x = y
  units : Φ.A.units + 20 * κ.D + 100 < cLine
  frames : ∃ l, Φ.A.frames = some l ∧ (∀ e ∈ l, FrameOK Φ e) ∧ (κ.fn = true → Φ.env.frame = some Φ.env.locals ∧ ∃ l', l = Φ.env :: l')
  outsIn : ∀ p ∈ Φ.outs, p.1 ∈ Φ.cw

noncomputable def slot : List Str → Str → Option Nat
  | [], _ => .none
  | y :: ys, x => if x == y then some 0 else (slot ys x).map (· + 1)

noncomputable def LocR (κ : Kap) (Φ : Ctx) (g : G) (loc : List (Option V)) (m : Str → Option Value) (h : Heap) : Prop :=
  ∀ x k v, slot κ.vars x = some k → lget loc k = some v → match Φ.env.kindOf x with
    | some .local => ∃ val, m x = some val ∧ VR g v val
    | some .cell => ∃ c val, Φ.env.cells.lookup x = some c ∧ h.IsCell c (some val) ∧ VR g v val
    | _ => True

noncomputable def TrR (P : Params) (g : G) (objs : List O) (h : Heap) : Prop :=
  g.tr.length = objs.length ∧ ∀ (i : Nat) (a : Addr) (o : O), g.tr[i]? = some a → objs[i]? = some o → ∃ ob, h.get? a = some ob ∧ OR P g o ob

structure Rel (κ : Kap) (Φ : Ctx) (g : G) (σ : St) (s : Shared) : Prop where
  ns : ∃ m, s.heap.Ns Φ.env.locals m ∧ LocR κ Φ g σ.loc m s.heap
  cells : ∀ a ∈ Φ.cw, ∃ v oc, s.heap.get? a = some oc ∧ OutOK Φ a v oc
  keep : KeepsH Φ.h₀ s.heap
  fz : ∀ p ∈ g.fz, s.heap.get? p.1 = some p.2
  pins : ∀ p ∈ Φ.pins, s.heap.get? p.1 = some p.2
  tr : TrR Φ.w.params g σ.objs s.heap
  muts : ∀ a ∈ Φ.muts g, Φ.h₀.get? a = none ∧ (∀ p ∈ g.fz, p.1 ≠ a) ∧ ∀ p ∈ Φ.pins, p.1 ≠ a
  nodup : (Φ.muts g).Nodup
  pinsOk : ∀ p ∈ Φ.pins, Φ.h₀.get? p.1 = none ∧ ∀ q ∈ g.fz, q.1 ≠ p.1
  cellsOk : ∀ x c, Φ.env.kindOf x = some .cell → Φ.env.cells.lookup x = some c → c ∈ Φ.cw ∨ (Φ.h₀.get? c).isSome = true
  gens : s.gens = #[]
  os : s.os = Φ.os
  forb : ∀ a ∈ Φ.forb, (Φ.h₀.get? a).isSome = true ∧ ∀ p ∈ g.fz, p.1 ≠ a

noncomputable def Known (Φ : Ctx) (g : G) (b : Addr) : Prop := b ∈ Φ.muts g ∨ (∃ p ∈ g.fz, p.1 = b) ∨ (∃ p ∈ Φ.pins, p.1 = b) ∨ (Φ.h₀.get? b).isSome = true

theorem TrR.at {P : Params} {g : G} {objs : List O} {h : Heap} (T : TrR P g objs h) {i : Nat} {a : Addr} (e : g.tr[i]? = some a) : ∃ o ob, objs[i]? = some o ∧ h.get? a = some ob ∧ OR P g o ob := by
  have hi : i < objs.length := by rw [← T.1]; exact (List.getElem?_eq_some_iff.mp e).1
  obtain ⟨ob, h1, h2⟩ := T.2 i a _ e (List.getElem?_eq_getElem hi)
  exact ⟨_, ob, List.getElem?_eq_getElem hi, h1, h2⟩

theorem Rel.known {κ : Kap} {Φ : Ctx} {g : G} {σ : St} {s : Shared} (R : Rel κ Φ g σ s) {b : Addr} (k : Known Φ g b) : ∃ o, s.heap.get? b = some o := by
  rcases k with k | ⟨p, hp, rfl⟩ | ⟨p, hp, rfl⟩ | k
  · rcases List.mem_cons.mp k with rfl | k
    · obtain ⟨m, ⟨o, _, _, ho, _⟩, _⟩ := R.ns; exact ⟨o, ho⟩
    · rcases List.mem_append.mp k with k | k
      · obtain ⟨v, o, ho, _⟩ := R.cells b k; exact ⟨o, ho⟩
      · obtain ⟨i, hi⟩ := List.getElem?_of_mem k
        obtain ⟨_, ob, _, h, _⟩ := R.tr.at hi
        exact ⟨ob, h⟩
  · exact ⟨_, R.fz p hp⟩
  · exact ⟨_, R.pins p hp⟩
  · obtain ⟨o, ho⟩ := Option.isSome_iff_exists.mp k
    exact ⟨o, R.keep b o ho⟩

theorem Rel.fresh {κ : Kap} {Φ : Ctx} {g : G} {σ : St} {s : Shared} (R : Rel κ Φ g σ s) : ¬ Known Φ g s.heap.objs.size := fun k => by
  obtain ⟨o, ho⟩ := R.known k
  exact absurd (Heap.lt_size ho) (Nat.lt_irrefl _)

set_option tactic.hygienic true in
/-- all that is known is kept: the relation stays -/
theorem Rel.ext {κ : Kap} {Φ : Ctx} {g : G} {σ : St} {s : Shared} (R : Rel κ Φ g σ s) {h' : Heap} {tk : Nat}
    (hk : ∀ b o, Known Φ g b → s.heap.get? b = some o → h'.get? b = some o) : Rel κ Φ g σ { s with heap := h', toks := tk } := by
  obtain ⟨m, ⟨o, es, ep, ho, r⟩, lr⟩ := R.ns
  refine ⟨⟨m, ⟨o, es, ep, hk _ _ (.inl (.head _)) ho, r⟩, fun x k v hs hl => ?_⟩, fun a ha => ?_, fun b o e => hk b o (.inr (.inr (.inr (by rw [e]; rfl)))) (R.keep b o e), fun p hp => hk _ _ (.inr (.inl ⟨p, hp, rfl⟩)) (R.fz p hp),
    fun p hp => hk _ _ (.inr (.inr (.inl ⟨p, hp, rfl⟩))) (R.pins p hp), ⟨R.tr.1, fun i a o e1 e2 => ?_⟩, R.muts, R.nodup, R.pinsOk, R.cellsOk, R.gens, R.os, R.forb⟩
  · have := lr x k v hs hl
    split at this
    · exact this
    · rename_i hc
      obtain ⟨c, val, h1, ⟨oc, hoc, hd⟩, h3⟩ := this
      refine ⟨c, val, h1, ⟨oc, hk _ _ ?_ hoc, hd⟩, h3⟩
      rcases R.cellsOk x c hc h1 with h | h
      · exact .inl (.tail _ (List.mem_append_left _ h))
      · exact .inr (.inr (.inr h))
    · trivial
  · obtain ⟨v, oc, hoc, hd⟩ := R.cells a ha
    exact ⟨v, oc, hk _ _ (.inl (.tail _ (List.mem_append_left _ ha))) hoc, hd⟩
  · obtain ⟨ob, h1, h2⟩ := R.tr.2 i a o e1 e2
    exact ⟨ob, hk _ _ (.inl (.tail _ (List.mem_append_right _ (List.mem_of_getElem? e1)))) h1, h2⟩

theorem Rel.keeps {κ : Kap} {Φ : Ctx} {g : G} {σ : St} {s : Shared} (R : Rel κ Φ g σ s) {h' : Heap} {tk : Nat} (hk : KeepsH s.heap h') : Rel κ Φ g σ { s with heap := h', toks := tk } :=
  R.ext fun b o _ e => hk b o e
theorem Rel.tok {κ : Kap} {Φ : Ctx} {g : G} {σ : St} {s : Shared} (R : Rel κ Φ g σ s) (tk : Nat) : Rel κ Φ g σ { s with toks := tk } := R.keeps (h' := s.heap) fun _ _ e => e

/-- a new frozen object -/
theorem Rel.freeze {κ : Kap} {Φ : Ctx} {g : G} {σ : St} {s : Shared} (R : Rel κ Φ g σ s) {a : Addr} {o : Obj} (ha : s.heap.get? a = some o) (hn : ¬ Known Φ g a) :
    Rel κ Φ ⟨(a, o) :: g.fz, g.tr⟩ σ s ∧ g.le ⟨(a, o) :: g.fz, g.tr⟩ := by
  have le : g.le ⟨(a, o) :: g.fz, g.tr⟩ := ⟨fun p h => .tail _ h, [], by simp⟩
  refine ⟨?_, le⟩
  obtain ⟨m, hm, lr⟩ := R.ns
  refine ⟨⟨m, hm, fun x k v hs hl => ?_⟩, R.cells, R.keep, fun p hp => ?_, R.pins, ⟨R.tr.1, fun i a o e1 e2 => ?_⟩, fun b hb => ⟨(R.muts b hb).1, fun p hp => ?_, (R.muts b hb).2.2⟩, R.nodup, fun p hp => ⟨(R.pinsOk p hp).1, fun q hq => ?_⟩, R.cellsOk, R.gens, R.os, fun b hb => ⟨(R.forb b hb).1, fun q hq => ?_⟩⟩
  · have := lr x k v hs hl
    split at this
    · obtain ⟨val, h1, h2⟩ := this; exact ⟨val, h1, VR.mono le v h2⟩
    · obtain ⟨c, val, h1, h2, h3⟩ := this; exact ⟨c, val, h1, h2, VR.mono le v h3⟩
    · trivial
  · rcases List.mem_cons.mp hp with rfl | hp
    · exact ha
    · exact R.fz p hp
  · obtain ⟨ob, h1, h2⟩ := R.tr.2 i a o e1 e2
    exact ⟨ob, h1, h2.mono le⟩
  · rcases List.mem_cons.mp hp with rfl | hp
    · intro e; exact hn (.inl ((show a = b from e) ▸ hb))
    · exact (R.muts b hb).2.1 p hp
  · rcases List.mem_cons.mp hq with rfl | hq
    · intro e; exact hn (.inr (.inr (.inl ⟨p, hp, e.symm⟩)))
    · exact (R.pinsOk p hp).2 q hq
  · rcases List.mem_cons.mp hq with rfl | hq
    · intro e; exact hn (.inr (.inr (.inr ((show a = b from e) ▸ (R.forb b hb).1))))
    · exact (R.forb b hb).2 q hq

/-- a new tracked object -/
theorem Rel.track {κ : Kap} {Φ : Ctx} {g : G} {σ : St} {s : Shared} (R : Rel κ Φ g σ s) {a : Addr} {ob : Obj} {o : O} (ha : s.heap.get? a = some ob) (hn : ¬ Known Φ g a) (ho : OR Φ.w.params g o ob) :
    Rel κ Φ ⟨g.fz, g.tr ++ [a]⟩ { σ with objs := σ.objs ++ [o] } s ∧ g.le ⟨g.fz, g.tr ++ [a]⟩ := by
  have le : g.le ⟨g.fz, g.tr ++ [a]⟩ := ⟨fun p h => h, [a], rfl⟩
  refine ⟨?_, le⟩
  obtain ⟨m, hm, lr⟩ := R.ns
  have hmem : ∀ b, b ∈ Φ.muts ⟨g.fz, g.tr ++ [a]⟩ → b ∈ Φ.muts g ∨ b = a := fun b hb => by
    simp only [Ctx.muts, List.mem_cons, List.mem_append, List.mem_nil_iff, or_false] at hb ⊢
    rcases hb with h | h | h | h
    · exact .inl (.inl h)
    · exact .inl (.inr (.inl h))
    · exact .inl (.inr (.inr h))
    · exact .inr h
  refine ⟨⟨m, hm, fun x k v hs hl => ?_⟩, R.cells, R.keep, R.fz, R.pins, ⟨by simp [R.tr.1], fun i b o' e1 e2 => ?_⟩, fun b hb => ?_, ?_, R.pinsOk, R.cellsOk, R.gens, R.os, R.forb⟩
  · have := lr x k v hs hl
    split at this
    · obtain ⟨val, h1, h2⟩ := this; exact ⟨val, h1, VR.mono le v h2⟩
    · obtain ⟨c, val, h1, h2, h3⟩ := this; exact ⟨c, val, h1, h2, VR.mono le v h3⟩
    · trivial
  · simp only at e1 e2
    by_cases hi : i < g.tr.length
    · rw [List.getElem?_append_left hi] at e1
      rw [List.getElem?_append_left (by rw [← R.tr.1]; exact hi)] at e2
      obtain ⟨ob', h1, h2⟩ := R.tr.2 i b o' e1 e2
      exact ⟨ob', h1, h2.mono le⟩
    · rw [List.getElem?_append_right (by omega)] at e1
      rw [List.getElem?_append_right (by rw [← R.tr.1]; omega), ← R.tr.1] at e2
      have : i - g.tr.length = 0 := by
        have := (List.getElem?_eq_some_iff.mp e1).1
        simp at this; omega
      rw [this] at e1 e2
      simp at e1 e2
      subst e1 e2
      exact ⟨ob, ha, ho.mono le⟩
  · rcases hmem b hb with h | rfl
    · exact R.muts b h
    · refine ⟨?_, fun p hp e => hn (.inr (.inl ⟨p, hp, e⟩)), fun p hp e => hn (.inr (.inr (.inl ⟨p, hp, e⟩)))⟩
      cases q : Φ.h₀.get? b with
      | none => rfl
      | some o => exact absurd (.inr (.inr (.inr (by rw [q]; rfl)))) hn
  · show (Φ.env.locals :: (Φ.cw ++ (g.tr ++ [a]))).Nodup
    rw [← List.append_assoc, ← List.cons_append]
    refine List.nodup_append.mpr ⟨R.nodup, (List.nodup_cons.mpr ⟨by simp, List.nodup_nil⟩), fun x hx y hy e => ?_⟩
    rw [List.mem_singleton.mp hy] at e
    exact hn (.inl (e ▸ hx))

set_option tactic.hygienic true in
/-- a tracked object is turned -/
theorem Rel.turn {κ : Kap} {Φ : Ctx} {g : G} {σ : St} {s : Shared} (R : Rel κ Φ g σ s) {i : Nat} {a : Addr} {ob : Obj} {o : O} {h' : Heap} {tk : Nat} (hi : g.tr[i]? = some a)
    (h1 : h'.get? a = some ob) (ho : OR Φ.w.params g o ob) (hk : ∀ b o, b ≠ a → s.heap.get? b = some o → h'.get? b = some o) :
    Rel κ Φ g { σ with objs := σ.objs.set i o } { s with heap := h', toks := tk } := by
  have hmem : a ∈ Φ.muts g := .tail _ (List.mem_append_right _ (List.mem_of_getElem? hi))
  have nd := R.nodup
  have hne : ∀ b, b ∈ Φ.env.locals :: Φ.cw → b ≠ a := fun b hb e => by
    subst e
    rw [show Φ.muts g = (Φ.env.locals :: Φ.cw) ++ g.tr from rfl] at nd
    exact (List.nodup_append.mp nd).2.2 b hb b (List.mem_of_getElem? hi) rfl
  have hil : i < g.tr.length := (List.getElem?_eq_some_iff.mp hi).1
  obtain ⟨m, ⟨oL, es, ep, hoL, r⟩, lr⟩ := R.ns
  refine ⟨⟨m, ⟨oL, es, ep, hk _ _ (hne _ (.head _)) hoL, r⟩, fun x k v hs hl => ?_⟩, fun c hc => ?_, fun b o e => hk b o (fun q => ?_) (R.keep b o e), fun p hp => hk _ _ ((R.muts a hmem).2.1 p hp) (R.fz p hp),
    fun p hp => hk _ _ ((R.muts a hmem).2.2 p hp) (R.pins p hp), ⟨by simp [R.tr.1], fun j b o' e1 e2 => ?_⟩, R.muts, R.nodup, R.pinsOk, R.cellsOk, R.gens, R.os, R.forb⟩
  · have := lr x k v hs hl
    split at this
    · exact this
    · rename_i hc
      obtain ⟨c, val, h1, ⟨oc, hoc, hd⟩, h3⟩ := this
      refine ⟨c, val, h1, ⟨oc, hk _ _ ?_ hoc, hd⟩, h3⟩
      rcases R.cellsOk x c hc h1 with h | h
      · exact hne c (.tail _ h)
      · intro e; rw [e, (R.muts a hmem).1] at h; cases h
    · trivial
  · obtain ⟨v, oc, hoc, hd⟩ := R.cells c hc
    exact ⟨v, oc, hk _ _ (hne c (.tail _ hc)) hoc, hd⟩
  · rw [q, (R.muts a hmem).1] at e; cases e
  · by_cases hj : j = i
    · subst hj
      rw [hi] at e1; cases e1
      rw [List.getElem?_set_self (by rw [← R.tr.1]; exact hil)] at e2
      cases e2
      exact ⟨ob, h1, ho⟩
    · rw [List.getElem?_set_ne (Ne.symm hj)] at e2
      obtain ⟨ob', h2, h3⟩ := R.tr.2 j b o' e1 e2
      refine ⟨ob', hk _ _ (fun q => hj ?_) h2, h3⟩
      subst q
      have ndt := (List.nodup_append.mp (show ((Φ.env.locals :: Φ.cw) ++ g.tr).Nodup from nd)).2.1
      exact (List.getElem?_inj (List.getElem?_eq_some_iff.mp e1).1 ndt).mp (e1.trans hi.symm)

set_option tactic.hygienic true in
/-- the library's own ledger for what is known -/
theorem Rel.ledgerK {κ : Kap} {Φ : Ctx} {g : G} {σ : St} {s : Shared} (R : Rel κ Φ g σ s) (above : Φ.h₀.objs.size ≤ Φ.env.locals) :
    ∃ m news, Fr Φ.h₀ Φ.env.locals s.heap m ∧ News Φ.h₀ Φ.env.locals s.heap news ∧
      (∀ h' tk, Fr Φ.h₀ Φ.env.locals h' m → News Φ.h₀ Φ.env.locals h' news → Rel κ Φ g σ { s with heap := h', toks := tk }) ∧
      ∀ b, Known Φ g b → b = Φ.env.locals ∨ (Φ.h₀.get? b).isSome = true ∨ ∃ o, (b, o) ∈ news := by
  obtain ⟨m, hm, lr⟩ := R.ns
  let as : List Addr := Φ.cw ++ (g.fz.map (·.1) ++ (Φ.pins.map (·.1) ++ g.tr))
  let news : List (Addr × Obj) := as.filterMap fun a => match s.heap.get? a with
    | some o => if (Φ.h₀.get? a).isNone && a != Φ.env.locals then some (a, o) else none
    | none => none
  have hin : ∀ a o, a ∈ as → a ≠ Φ.env.locals → s.heap.get? a = some o → (a, o) ∈ news ∨ Φ.h₀.get? a = some o := fun a o ha hne ho => by
    cases q : Φ.h₀.get? a with
    | some o' => exact .inr (by rw [R.keep a o' q] at ho; exact ho)
    | none => exact .inl (List.mem_filterMap.mpr ⟨a, ha, by simp [ho, q, hne]⟩)
  have hN : News Φ.h₀ Φ.env.locals s.heap news := fun p hp => by
    obtain ⟨a, ha, e⟩ := List.mem_filterMap.mp hp
    split at e
    · rename_i o ho
      split at e
      · rename_i c
        cases e
        simp only [Bool.and_eq_true, Option.isNone_iff_eq_none, bne_iff_ne] at c
        exact ⟨ho, c.2, c.1⟩
      · cases e
    · cases e
  refine ⟨m, news, ⟨hm, R.keep, above⟩, hN, fun h' tk F N => ?_, fun b k => ?_⟩
  rotate_left
  · by_cases hbL : b = Φ.env.locals
    · exact .inl hbL
    · obtain ⟨o, ho⟩ := R.known k
      rcases k with k | ⟨p, hp, rfl⟩ | ⟨p, hp, rfl⟩ | k
      · rcases List.mem_cons.mp k with k | k
        · exact absurd k hbL
        · rcases List.mem_append.mp k with k | k
          · rcases hin b o (List.mem_append_left _ k) hbL ho with q | q
            · exact .inr (.inr ⟨o, q⟩)
            · exact .inr (.inl (by rw [q]; rfl))
          · rcases hin b o (List.mem_append_right _ (List.mem_append_right _ (List.mem_append_right _ k))) hbL ho with q | q
            · exact .inr (.inr ⟨o, q⟩)
            · exact .inr (.inl (by rw [q]; rfl))
      · rcases hin p.1 o (List.mem_append_right _ (List.mem_append_left _ (List.mem_map_of_mem hp))) hbL ho with q | q
        · exact .inr (.inr ⟨o, q⟩)
        · exact .inr (.inl (by rw [q]; rfl))
      · rcases hin p.1 o (List.mem_append_right _ (List.mem_append_right _ (List.mem_append_left _ (List.mem_map_of_mem hp)))) hbL ho with q | q
        · exact .inr (.inr ⟨o, q⟩)
        · exact .inr (.inl (by rw [q]; rfl))
      · exact .inr (.inl k)
  have hk : ∀ b o, b ≠ Φ.env.locals → Known Φ g b → s.heap.get? b = some o → h'.get? b = some o := fun b o hb k ho => by
    have hb' : b ∈ as ∨ Φ.h₀.get? b = some o := by
      rcases k with k | ⟨p, hp, rfl⟩ | ⟨p, hp, rfl⟩ | k
      · rcases List.mem_cons.mp k with k | k
        · exact absurd k hb
        · rcases List.mem_append.mp k with k | k
          · exact .inl (List.mem_append_left _ k)
          · exact .inl (List.mem_append_right _ (List.mem_append_right _ (List.mem_append_right _ k)))
      · exact .inl (List.mem_append_right _ (List.mem_append_left _ (List.mem_map_of_mem hp)))
      · exact .inl (List.mem_append_right _ (List.mem_append_right _ (List.mem_append_left _ (List.mem_map_of_mem hp))))
      · obtain ⟨o', ho'⟩ := Option.isSome_iff_exists.mp k
        have := R.keep b o' ho'
        rw [ho] at this; cases this
        exact .inr ho'
    rcases hb' with hb' | hb'
    · rcases hin b o hb' hb ho with q | q
      · exact (N _ q).1
      · exact F.keep b o q
    · exact F.keep b o hb'
  have nd := List.nodup_cons.mp (show (Φ.env.locals :: (Φ.cw ++ g.tr)).Nodup from R.nodup)
  have hL := R.muts Φ.env.locals (.head _)
  refine ⟨⟨m, F.ns, fun x k v hs hl => ?_⟩, fun a ha => ?_, F.keep, fun p hp => hk _ _ (hL.2.1 p hp) (.inr (.inl ⟨p, hp, rfl⟩)) (R.fz p hp), fun p hp => hk _ _ (hL.2.2 p hp) (.inr (.inr (.inl ⟨p, hp, rfl⟩))) (R.pins p hp),
    ⟨R.tr.1, fun i a o e1 e2 => ?_⟩, R.muts, R.nodup, R.pinsOk, R.cellsOk, R.gens, R.os, R.forb⟩
  · have := lr x k v hs hl
    split at this
    · exact this
    · rename_i hc
      obtain ⟨c, val, h1, ⟨oc, hoc, hd⟩, h3⟩ := this
      refine ⟨c, val, h1, ⟨oc, ?_, hd⟩, h3⟩
      rcases R.cellsOk x c hc h1 with h | h
      · exact hk _ _ (fun e => nd.1 (e ▸ List.mem_append_left _ h)) (.inl (.tail _ (List.mem_append_left _ h))) hoc
      · exact hk _ _ (fun e => by rw [e, hL.1] at h; cases h) (.inr (.inr (.inr h))) hoc
    · trivial
  · obtain ⟨v, oc, hoc, hd⟩ := R.cells a ha
    exact ⟨v, oc, hk _ _ (fun e => nd.1 (e ▸ List.mem_append_left _ ha)) (.inl (.tail _ (List.mem_append_left _ ha))) hoc, hd⟩
  · obtain ⟨ob, h1, h2⟩ := R.tr.2 i a o e1 e2
    have hm := List.mem_of_getElem? e1
    exact ⟨ob, hk _ _ (fun e => nd.1 (e ▸ List.mem_append_right _ hm)) (.inl (.tail _ (List.mem_append_right _ hm))) h1, h2⟩

theorem Rel.ledger {κ : Kap} {Φ : Ctx} {g : G} {σ : St} {s : Shared} (R : Rel κ Φ g σ s) (above : Φ.h₀.objs.size ≤ Φ.env.locals) :
    ∃ m news, Fr Φ.h₀ Φ.env.locals s.heap m ∧ News Φ.h₀ Φ.env.locals s.heap news ∧
      ∀ h' tk, Fr Φ.h₀ Φ.env.locals h' m → News Φ.h₀ Φ.env.locals h' news → Rel κ Φ g σ { s with heap := h', toks := tk } := by
  obtain ⟨m, news, F, N, back, _⟩ := R.ledgerK above
  exact ⟨m, news, F, N, back⟩
theorem ntail {h₀ h : Heap} {L : Addr} {p : Addr × Obj} {news : List (Addr × Obj)} (N : News h₀ L h (p :: news)) : News h₀ L h news := fun q hq => N q (.tail _ hq)

end Mine

open PySem PySem.W PyProof.Rows PySem.Calls
set_option Elab.async false
set_option maxRecDepth 100000
set_option linter.unusedVariables false

namespace Mine

/-! ## The judgements -/

noncomputable abbrev NoE : Value → Shared → Prop := fun _ _ => False

noncomputable def PE (κ : Kap) (Φ : Ctx) (g : G) (Q : V → St → Prop) (x : Value) (s' : Shared) : Prop := ∃ g' v σ', g.le g' ∧ Rel κ Φ g' σ' s' ∧ VR g' v x ∧ Q v σ'
noncomputable def PEs (κ : Kap) (Φ : Ctx) (g : G) (Q : List V → St → Prop) (xs : List Value) (s' : Shared) : Prop := ∃ g' vs σ', g.le g' ∧ Rel κ Φ g' σ' s' ∧ VRs g' vs xs ∧ Q vs σ'
noncomputable def PU (κ : Kap) (Φ : Ctx) (g : G) (Q : Unit → St → Prop) (_ : Unit) (s' : Shared) : Prop := ∃ g' σ', g.le g' ∧ Rel κ Φ g' σ' s' ∧ Q () σ'
noncomputable def PB (κ : Kap) (Φ : Ctx) (g : G) (Q : Bool → St → Prop) (b : Bool) (s' : Shared) : Prop := ∃ g' σ', g.le g' ∧ Rel κ Φ g' σ' s' ∧ Q b σ'
noncomputable def FlR (g : G) : Fl → Flow → Prop
  | .next, f => f = .next
  | .brk, f => f = .brk
  | .cont, f => f = .cont
  | .ret v, f => ∃ x, f = .ret x ∧ VR g v x
noncomputable def PF (κ : Kap) (Φ : Ctx) (g : G) (Q : Fl → St → Prop) (f : Flow) (s' : Shared) : Prop := ∃ g' fl σ', g.le g' ∧ Rel κ Φ g' σ' s' ∧ FlR g' fl f ∧ Q fl σ'

noncomputable def SE (κ : Kap) (e : Expr) (f : W V) : Prop :=
  ∀ Φ, Ctx.Ok κ Φ → ∀ g σ s Q, Rel κ Φ g σ s → f Q σ → wpAny (model κ.P.prog Φ.w) Φ.A (eval e Φ.env) (PE κ Φ g Q) NoE s
noncomputable def ST (κ : Kap) (e : Expr) (f : W Bool) : Prop :=
  ∀ Φ, Ctx.Ok κ Φ → ∀ g σ s Q, Rel κ Φ g σ s → f Q σ → wpAny (model κ.P.prog Φ.w) Φ.A (isTrue e Φ.env (eval e Φ.env)) (PB κ Φ g Q) NoE s
noncomputable def SEs (κ : Kap) (es : List Expr) (f : W (List V)) : Prop :=
  ∀ Φ, Ctx.Ok κ Φ → ∀ pos g σ s Q, Rel κ Φ g σ s → f Q σ → wpAny (model κ.P.prog Φ.w) Φ.A (spliced (backTo pos (starEach es Φ.env))) (PEs κ Φ g Q) NoE s
noncomputable def SS (κ : Kap) (st : Stmt) (f : W Fl) : Prop :=
  ∀ Φ, Ctx.Ok κ Φ → ∀ g σ s Q, Rel κ Φ g σ s → f Q σ → wpAny (model κ.P.prog Φ.w) Φ.A (exec st Φ.env) (PF κ Φ g Q) NoE s
noncomputable def SB (κ : Kap) (sts : List Stmt) (f : W Fl) : Prop :=
  ∀ Φ, Ctx.Ok κ Φ → ∀ g σ s Q, Rel κ Φ g σ s → f Q σ → wpAny (model κ.P.prog Φ.w) Φ.A (execs sts Φ.env) (PF κ Φ g Q) NoE s
/-- a target that takes a value -/
noncomputable def SA (κ : Kap) (t : Expr) (f : V → W Unit) : Prop :=
  ∀ Φ, Ctx.Ok κ Φ → ∀ g σ s Q v x, Rel κ Φ g σ s → VR g v x → f v Q σ → wpAny (model κ.P.prog Φ.w) Φ.A (assign t Φ.env x) (PU κ Φ g Q) NoE s

noncomputable def ret {α : Type} (v : α) : W α := fun Q σ => Q v σ
noncomputable def bnd {α β : Type} (m : W α) (k : α → W β) : W β := fun Q σ => m (fun a σ' => k a Q σ') σ

section
variable {κ : Kap}

theorem PE.le {Φ : Ctx} {g g' : G} {Q : V → St → Prop} {x : Value} {s : Shared} (le : g.le g') (h : PE κ Φ g' Q x s) : PE κ Φ g Q x s := by
  obtain ⟨g'', v, σ, l, r⟩ := h; exact ⟨g'', v, σ, le.trans l, r⟩
theorem PEs.le {Φ : Ctx} {g g' : G} {Q : List V → St → Prop} {x : List Value} {s : Shared} (le : g.le g') (h : PEs κ Φ g' Q x s) : PEs κ Φ g Q x s := by
  obtain ⟨g'', v, σ, l, r⟩ := h; exact ⟨g'', v, σ, le.trans l, r⟩
theorem PB.le {Φ : Ctx} {g g' : G} {Q : Bool → St → Prop} {x : Bool} {s : Shared} (le : g.le g') (h : PB κ Φ g' Q x s) : PB κ Φ g Q x s := by
  obtain ⟨g'', σ, l, r⟩ := h; exact ⟨g'', σ, le.trans l, r⟩
theorem PU.le {Φ : Ctx} {g g' : G} {Q : Unit → St → Prop} {x : Unit} {s : Shared} (le : g.le g') (h : PU κ Φ g' Q x s) : PU κ Φ g Q x s := by
  obtain ⟨g'', σ, l, r⟩ := h; exact ⟨g'', σ, le.trans l, r⟩
theorem PF.le {Φ : Ctx} {g g' : G} {Q : Fl → St → Prop} {x : Flow} {s : Shared} (le : g.le g') (h : PF κ Φ g' Q x s) : PF κ Φ g Q x s := by
  obtain ⟨g'', v, σ, l, r⟩ := h; exact ⟨g'', v, σ, le.trans l, r⟩
theorem FlR.mono {g g' : G} (le : g.le g') : ∀ {fl : Fl} {f : Flow}, FlR g fl f → FlR g' fl f
  | .next, _, h => h
  | .brk, _, h => h
  | .cont, _, h => h
  | .ret v, _, ⟨x, e, r⟩ => ⟨x, e, VR.mono le v r⟩

/-- widen the ghost behind a step -/
theorem wPE {Φ : Ctx} {g g' : G} {t : Sem Value} {Q : V → St → Prop} {s : Shared} {M : Model} {A : Around} (le : g.le g') (h : wpAny M A t (PE κ Φ g' Q) NoE s) : wpAny M A t (PE κ Φ g Q) NoE s :=
  wpAny_mono h (fun _ _ p => p.le le) fun _ _ e => e
theorem wPB {Φ : Ctx} {g g' : G} {t : Sem Bool} {Q : Bool → St → Prop} {s : Shared} {M : Model} {A : Around} (le : g.le g') (h : wpAny M A t (PB κ Φ g' Q) NoE s) : wpAny M A t (PB κ Φ g Q) NoE s :=
  wpAny_mono h (fun _ _ p => p.le le) fun _ _ e => e
theorem wPU {Φ : Ctx} {g g' : G} {t : Sem Unit} {Q : Unit → St → Prop} {s : Shared} {M : Model} {A : Around} (le : g.le g') (h : wpAny M A t (PU κ Φ g' Q) NoE s) : wpAny M A t (PU κ Φ g Q) NoE s :=
  wpAny_mono h (fun _ _ p => p.le le) fun _ _ e => e
theorem wPF {Φ : Ctx} {g g' : G} {t : Sem Flow} {Q : Fl → St → Prop} {s : Shared} {M : Model} {A : Around} (le : g.le g') (h : wpAny M A t (PF κ Φ g' Q) NoE s) : wpAny M A t (PF κ Φ g Q) NoE s :=
  wpAny_mono h (fun _ _ p => p.le le) fun _ _ e => e

/-! ## Names and constants -/

noncomputable def getv (k : Nat) : W V := fun Q σ => match lget σ.loc k with
  | some v => Q v σ
  | none => False
noncomputable def setv (k : Nat) (v : V) : W Unit := fun Q σ => k < σ.loc.length ∧ Q () { σ with loc := lset σ.loc k v }

set_option tactic.hygienic true in
theorem getv_def {k : Nat} {Q : V → St → Prop} {σ : St} (h : getv k Q σ) : ∃ v, lget σ.loc k = some v ∧ Q v σ := by
  unfold getv at h
  split at h
  · rename_i v e; exact ⟨v, e, h⟩
  · exact h.elim

noncomputable def lcl (κ : Kap) (x : Str) (k : Nat) : Bool := (κ.names.lookup x == some .local || κ.names.lookup x == some .cell) && slot κ.vars x == some k && !(x == ("__debug__" : Str))
theorem lcl_slot {x : Str} {k : Nat} (h : lcl κ x k = true) : slot κ.vars x = some k := by
  simp only [lcl, Bool.and_eq_true, beq_iff_eq] at h; exact h.1.2
theorem lcl_kind {x : Str} {k : Nat} (h : lcl κ x k = true) : κ.names.lookup x = some .local ∨ κ.names.lookup x = some .cell := by
  simp only [lcl, Bool.and_eq_true, Bool.or_eq_true, beq_iff_eq] at h; exact h.1.1
theorem lcl_dbg {x : Str} {k : Nat} (h : lcl κ x k = true) : (x == ("__debug__" : Str)) = false := by
  simp only [lcl, Bool.and_eq_true, Bool.not_eq_true'] at h; exact h.2

theorem loadv {Φ : Ctx} (ok : Ctx.Ok κ Φ) {g : G} {σ : St} {s : Shared} {Q : V → St → Prop} {x : Str} {k : Nat} (R : Rel κ Φ g σ s) (hx : lcl κ x k = true) (h : getv k Q σ) {A : Around} :
    wpAny (model κ.P.prog Φ.w) A (loadName Φ.env x) (PE κ Φ g Q) NoE s := by
  obtain ⟨v, e, q⟩ := getv_def h
  obtain ⟨m, hm, lr⟩ := R.ns
  have := lr x k v (lcl_slot hx) e
  rcases lcl_kind hx with hk | hk
  · rw [← ok.kinds x] at hk
    simp only [hk] at this
    obtain ⟨val, h1, h2⟩ := this
    exact wpAny_loadName_local ok.kind hk hm h1 ⟨g, v, σ, .refl g, R, h2, q⟩
  · rw [← ok.kinds x] at hk
    simp only [hk] at this
    obtain ⟨c, val, h1, h2, h3⟩ := this
    exact wpAny_loadName_cell ok.kind hk h1 h2 ⟨g, v, σ, .refl g, R, h3, q⟩

theorem r_Name {x : Str} {k : Nat} {pos : Pos} (hx : lcl κ x k = true) : SE κ (.Name x pos) (getv k) :=
  fun Φ ok g σ s Q R h => wpAny_Name (loadv ok R hx h) (lcl_dbg hx)

noncomputable def gbl (κ : Kap) (x : Str) (v : Value) : Bool := κ.names.lookup x == some .globalImplicit && κ.P.glob.lookup x == some v && !(x == ("__debug__" : Str))
theorem r_Glob {x : Str} {v : Value} {pos : Pos} (hx : gbl κ x v = true) : SE κ (.Name x pos) (ret (.glob v)) := fun Φ ok g σ s Q R h => by
  simp only [gbl, Bool.and_eq_true, Bool.not_eq_true', beq_iff_eq] at hx
  obtain ⟨⟨h1, h2⟩, h3⟩ := hx
  obtain ⟨mg, mb, hg, hb, look⟩ := ok.globs
  have fin : PE κ Φ g Q v s := ⟨g, .glob v, σ, .refl g, R, by simp only [VR], h⟩
  have hg' : s.heap.Ns Φ.env.globals mg := by rw [ok.globals]; exact hg.keeps R.keep
  have hb' : s.heap.Ns Φ.env.builtins mb := by rw [ok.builtins]; exact hb.keeps R.keep
  refine Name_function_global ok.kind ((ok.kinds x).trans h1) ?_ h3
  rcases look x v h2 with e | ⟨e, e'⟩
  · exact loadGlobal_global hg' e fin
  · exact loadGlobal_builtin hg' e hb' e' fin

theorem slot_inj : ∀ {vars : List Str} {x y : Str} {k : Nat}, slot vars x = some k → slot vars y = some k → x = y
  | [], _, _, _, h, _ => by cases h
  | z :: zs, x, y, k, h, h' => by
    simp only [slot] at h h'
    by_cases e : x == z
    · rw [if_pos e] at h
      cases h
      by_cases e' : y == z
      · rw [beq_iff_eq.mp e, beq_iff_eq.mp e']
      · rw [if_neg e'] at h'
        cases q : slot zs y <;> rw [q] at h' <;> simp at h'
    · rw [if_neg e] at h
      by_cases e' : y == z
      · rw [if_pos e'] at h'
        cases h'
        cases q : slot zs x <;> rw [q] at h <;> simp at h
      · rw [if_neg e'] at h'
        cases q : slot zs x with
        | none => rw [q] at h; cases h
        | some i =>
          cases q' : slot zs y with
          | none => rw [q'] at h'; cases h'
          | some j =>
            rw [q] at h; rw [q'] at h'
            simp at h h'
            subst h
            have : j = i := by omega
            subst this
            exact slot_inj q q'

noncomputable def stl (κ : Kap) (x : Str) (k : Nat) : Bool := lcl κ x k && (κ.names.lookup x == some .local || κ.fn)
theorem stl_lcl {x : Str} {k : Nat} (h : stl κ x k = true) : lcl κ x k = true := (Bool.and_eq_true_iff.mp h).1
theorem stl_fn {x : Str} {k : Nat} (h : stl κ x k = true) (hc : κ.names.lookup x = some .cell) : κ.fn = true := by
  have := (Bool.and_eq_true_iff.mp h).2
  rw [hc] at this
  simpa using this

set_option tactic.hygienic true in
theorem storev {Φ : Ctx} (ok : Ctx.Ok κ Φ) {g : G} {σ : St} {s : Shared} {Q : Unit → St → Prop} {x : Str} {k : Nat} {v : V} {val : Value} (R : Rel κ Φ g σ s) (hx' : stl κ x k = true)
    (hv : VR g v val) (h : setv k v Q σ) {A : Around} :
    wpAny (model κ.P.prog Φ.w) A (storeName Φ.env x val) (PU κ Φ g Q) NoE s := by
  have hx := stl_lcl hx'
  have hcd : ∀ y c, Φ.env.cells.lookup y = some c → Φ.env.cells.lookup x = some c → y = x := fun y c a b => ok.cinj y x c a b
  obtain ⟨hl, q⟩ := h
  obtain ⟨m, hm, lr⟩ := R.ns
  have hmem : Φ.env.locals ∈ Φ.muts g := .head _
  rcases lcl_kind hx with hk | hk
  · have hk' := hk
    rw [← ok.kinds x] at hk'
    refine wpAny_storeName_local hk' hm (fun h' hn hs => ⟨g, _, .refl g, ?_, q⟩) (by rw [ok.kind]; rfl)
    have hkeep : ∀ b o, b ≠ Φ.env.locals → s.heap.get? b = some o → h'.get? b = some o := fun b o hb e => hs.extBut b o hb e
    have nd := List.nodup_cons.mp (show (Φ.env.locals :: (Φ.cw ++ g.tr)).Nodup from R.nodup)
    refine ⟨⟨_, hn, fun y j u hs' hl' => ?_⟩, fun a ha => ?_, fun b o e => hkeep b o (fun z => ?_) (R.keep b o e), fun p hp => hkeep _ _ ((R.muts _ hmem).2.1 p hp) (R.fz p hp), fun p hp => hkeep _ _ ((R.muts _ hmem).2.2 p hp) (R.pins p hp),
      ⟨R.tr.1, fun i a o e1 e2 => ?_⟩, R.muts, R.nodup, R.pinsOk, R.cellsOk, R.gens, R.os, R.forb⟩
    · rcases lset_self_or hl' with ⟨rfl, rfl⟩ | ⟨hj, hu⟩
      · have := slot_inj hs' (lcl_slot hx)
        subst this
        rw [hk']
        exact ⟨val, by simp, hv⟩
      · have hyx : y ≠ x := fun e => by subst e; rw [lcl_slot hx] at hs'; exact hj (Option.some.inj hs').symm
        have := lr y j u hs' hu
        split at this
        · obtain ⟨w, h1, h2⟩ := this; exact ⟨w, by rw [if_neg hyx]; exact h1, h2⟩
        · rename_i hc
          obtain ⟨c, w, h1, ⟨oc, hoc, hd⟩, h3⟩ := this
          refine ⟨c, w, h1, ⟨oc, hkeep _ _ ?_ hoc, hd⟩, h3⟩
          rcases R.cellsOk y c hc h1 with z | z
          · exact fun e => nd.1 (e ▸ List.mem_append_left _ z)
          · intro e; rw [e, (R.muts _ hmem).1] at z; cases z
        · trivial
    · obtain ⟨u, oc, hoc, hd⟩ := R.cells a ha
      exact ⟨u, oc, hkeep _ _ (fun e => nd.1 (e ▸ List.mem_append_left _ ha)) hoc, hd⟩
    · rw [z, (R.muts _ hmem).1] at e; cases e
    · obtain ⟨ob, h1, h2⟩ := R.tr.2 i a o e1 e2
      exact ⟨ob, hkeep _ _ (fun e => nd.1 (e ▸ List.mem_append_right _ (List.mem_of_getElem? e1))) h1, h2⟩
  · obtain ⟨c, hc, hcm, hco⟩ := ok.cwr (stl_fn hx' hk) x hk
    have hk' := hk
    rw [← ok.kinds x] at hk'
    have hcM : c ∈ Φ.muts g := .tail _ (List.mem_append_left _ hcm)
    obtain ⟨u₀, oc₀, hoc₀, hd₀⟩ := R.cells c hcm
    have hu₀ : s.heap.IsCell c u₀ := ⟨oc₀, hoc₀, by unfold OutOK at hd₀; rw [hco] at hd₀; exact hd₀⟩
    refine wpAny_storeName_cell ok.kind hk' hc hu₀ (fun h' hn hs => ⟨g, _, .refl g, ?_, q⟩)
    have hkeep : ∀ b o, b ≠ c → s.heap.get? b = some o → h'.get? b = some o := fun b o hb e => hs.extBut b o hb e
    have nd : (Φ.env.locals :: (Φ.cw ++ g.tr)).Nodup := R.nodup
    have ndL : Φ.env.locals ≠ c := fun e => (List.nodup_cons.mp nd).1 (e ▸ List.mem_append_left _ hcm)
    have ndT : ∀ a ∈ g.tr, a ≠ c := fun a ha e => (List.nodup_append.mp (List.nodup_cons.mp nd).2).2.2 c hcm a ha e.symm
    obtain ⟨oL, es, ep, hoL, rL⟩ := hm
    have hR : Rel κ Φ g { σ with loc := lset σ.loc k v } { s with heap := h' } := by
      refine ⟨⟨m, ⟨oL, es, ep, hkeep _ _ ndL hoL, rL⟩, fun y j u hs' hl' => ?_⟩, fun a ha => ?_, fun b o e => hkeep b o (fun z => ?_) (R.keep b o e), fun p hp => hkeep _ _ ((R.muts _ hcM).2.1 p hp) (R.fz p hp), fun p hp => hkeep _ _ ((R.muts _ hcM).2.2 p hp) (R.pins p hp),
        ⟨R.tr.1, fun i a o e1 e2 => ?_⟩, R.muts, R.nodup, R.pinsOk, R.cellsOk, R.gens, R.os, R.forb⟩
      · rcases lset_self_or hl' with ⟨rfl, rfl⟩ | ⟨hj, hu⟩
        · have := slot_inj hs' (lcl_slot hx)
          subst this
          rw [hk']
          exact ⟨c, val, hc, hn, hv⟩
        · have hyx : y ≠ x := fun e => by subst e; rw [lcl_slot hx] at hs'; exact hj (Option.some.inj hs').symm
          have := lr y j u hs' hu
          split at this
          · exact this
          · rename_i hcy
            obtain ⟨c', w, h1, ⟨oc, hoc, hd⟩, h3⟩ := this
            exact ⟨c', w, h1, ⟨oc, hkeep _ _ (fun e => hyx (hcd y c (e ▸ h1) hc)) hoc, hd⟩, h3⟩
          · trivial
      · by_cases e : a = c
        · subst e
          obtain ⟨on, hon, hdn⟩ := hn
          exact ⟨some val, on, hon, by unfold OutOK; rw [hco]; exact hdn⟩
        · obtain ⟨u, oc, hoc, hd⟩ := R.cells a ha
          exact ⟨u, oc, hkeep _ _ e hoc, hd⟩
      · rw [z, (R.muts _ hcM).1] at e; cases e
      · obtain ⟨ob, h1, h2⟩ := R.tr.2 i a o e1 e2
        exact ⟨ob, hkeep _ _ (ndT a (List.mem_of_getElem? e1)) h1, h2⟩
    exact hR

end
end Mine

open PySem PySem.W PyProof.Rows PySem.Calls
set_option Elab.async false
set_option maxRecDepth 100000
set_option linter.unusedVariables false

namespace Mine
open PySem.SeqAt

/-! ## Reading the store -/

noncomputable def lstAt (objs : List O) (i : Nat) : Option (List V) := match objs[i]? with
  | some (.list l) => some l
  | _ => none
/-- the items of a list, frozen or tracked -/
noncomputable def seqOf (objs : List O) : V → Option (List V)
  | .lst l => some l
  | .ref i => lstAt objs i
  | _ => none
noncomputable def attrAt (objs : List O) (i : Nat) (x : Str) : Option V := match objs[i]? with
  | some (.attrs l) => l.lookup x
  | _ => none

section
variable {κ : Kap} {Φ : Ctx} {g : G} {σ : St} {s : Shared}

theorem Rel.lst_at (R : Rel κ Φ g σ s) {l : List V} {x : Value} (h : VR g (.lst l) x) : ∃ a xs n, x = .ref a ∧ s.heap.get? a = some (listO xs n) ∧ VRs g l xs ∧ (a, listO xs n) ∈ g.fz := by
  simp only [VR] at h
  obtain ⟨a, xs, n, e, m, r⟩ := h
  exact ⟨a, xs, n, e, R.fz _ m, r, m⟩
theorem Rel.tup_at (R : Rel κ Φ g σ s) {l : List V} {x : Value} (h : VR g (.tup l) x) : ∃ a xs n, x = .ref a ∧ s.heap.get? a = some (tupO xs n) ∧ VRs g l xs := by
  simp only [VR] at h
  obtain ⟨a, xs, n, e, m, r⟩ := h
  exact ⟨a, xs, n, e, R.fz _ m, r⟩
set_option tactic.hygienic true in
theorem lstAt_some {objs : List O} {i : Nat} {l : List V} (h : lstAt objs i = some l) : objs[i]? = some (.list l) := by
  unfold lstAt at h
  split at h
  · rename_i e; cases h; exact e
  · cases h
theorem Rel.ref_at (R : Rel κ Φ g σ s) {i : Nat} {l : List V} {x : Value} (h : VR g (.ref i) x) (hl : lstAt σ.objs i = some l) :
    ∃ a xs n, x = .ref a ∧ g.tr[i]? = some a ∧ s.heap.get? a = some (listO xs n) ∧ VRs g l xs := by
  simp only [VR] at h
  obtain ⟨a, e, m⟩ := h
  obtain ⟨ob, h1, h2⟩ := R.tr.2 i a _ m (lstAt_some hl)
  obtain ⟨xs, n, rfl, r⟩ := h2
  exact ⟨a, xs, n, e, m, h1, r⟩
theorem Rel.seq_at (R : Rel κ Φ g σ s) {v : V} {l : List V} {x : Value} (h : VR g v x) (hl : seqOf σ.objs v = some l) : ∃ a xs n, x = .ref a ∧ s.heap.get? a = some (listO xs n) ∧ VRs g l xs := by
  cases v <;> simp only [seqOf] at hl <;> try (cases hl; done)
  · cases hl
    obtain ⟨a, xs, n, e, h1, h2, _⟩ := R.lst_at h
    exact ⟨a, xs, n, e, h1, h2⟩
  · obtain ⟨a, xs, n, e, _, h1, h2⟩ := R.ref_at h hl
    exact ⟨a, xs, n, e, h1, h2⟩
theorem isList_of {h : Heap} {a : Addr} {xs : List Value} {n : Nat} (e : h.get? a = some (listO xs n)) : h.IsList a xs.toArray := ⟨_, e, rfl, n, rfl⟩
theorem isTuple_of {h : Heap} {a : Addr} {xs : List Value} {n : Nat} (e : h.get? a = some (tupO xs n)) : h.IsTuple a xs.toArray := ⟨_, e, rfl, n, rfl⟩
end

/-! ## Equality -/

noncomputable def seqOpt {α : Type} : List (Option α) → Option (List α)
  | [] => some []
  | none :: _ => none
  | some a :: r => (seqOpt r).map (a :: ·)
noncomputable def nrm (objs : List O) : Nat → V → Option V
  | 0, _ => none
  | n + 1, v => match v with
    | .none => some .none
    | .bool b => some (.int (if b then 1 else 0))
    | .int i => some (.int i)
    | .str x => some (.str x)
    | .tup l => (seqOpt (l.map (nrm objs n))).map .tup
    | .lst l => (seqOpt (l.map (nrm objs n))).map .lst
    | .ref i => match lstAt objs i with
      | some l => (seqOpt (l.map (nrm objs n))).map .lst
      | none => none
    | .inst _ _ => none
    | .glob _ => none
    | .fzo _ => none
    | .dct _ => none
mutual
noncomputable def veq : V → V → Option Bool
  | .none, .none => some true
  | .none, .str _ => some false
  | .str _, .none => some false
  | .int i, .int j => some (i == j)
  | .str x, .str y => some (x == y)
  | .tup l, .tup m => veqs l m
  | .lst l, .lst m => veqs l m
  | _, _ => none
noncomputable def veqs : List V → List V → Option Bool
  | [], [] => some true
  | [], _ :: _ => some false
  | _ :: _, [] => some false
  | a :: l, b :: m => match veq a b, veqs l m with
    | some p, some q => some (p && q)
    | _, _ => none
end

theorem seqOpt_get {α : Type} : ∀ {l : List (Option α)} {r : List α}, seqOpt l = some r → r.length = l.length ∧ ∀ (i : Nat) (a : α), r[i]? = some a → l[i]? = some (some a)
  | [], _, h => by cases h; exact ⟨rfl, fun i a e => by simp at e⟩
  | none :: _, _, h => by cases h
  | some a :: l, _, h => by
    simp only [seqOpt, Option.map_eq_some_iff] at h
    obtain ⟨r, hr, rfl⟩ := h
    obtain ⟨h1, h2⟩ := seqOpt_get hr
    refine ⟨by simp [h1], fun i b e => ?_⟩
    cases i with
    | zero => simpa using e
    | succ n => simp at e ⊢; exact h2 n b e

set_option tactic.hygienic true in
theorem veqs_len : ∀ {l m : List V} {b : Bool}, veqs l m = some b → l.length ≠ m.length → b = false
  | [], [], _, _, h => absurd rfl h
  | [], _ :: _, _, h, _ => by simp [veqs] at h; exact h
  | _ :: _, [], _, h, _ => by simp [veqs] at h; exact h
  | a :: l, b :: m, _, h, hn => by
    simp only [veqs] at h
    split at h
    · rename_i p q hp hq
      cases h
      rw [veqs_len hq (by simpa using hn)]
      exact Bool.and_false _
    · cases h

set_option tactic.hygienic true in
theorem veqs_each : ∀ {l m : List V} {b : Bool}, veqs l m = some b → ∀ (j : Nat) x y, l[j]? = some x → m[j]? = some y → ∃ p, veq x y = some p
  | [], _, _, _, j, x, y, hx, _ => by simp at hx
  | _ :: _, [], _, _, j, x, y, _, hy => by simp at hy
  | a :: l, b :: m, r, h, j, x, y, hx, hy => by
    simp only [veqs] at h
    split at h
    · rename_i p q hp hq
      cases j with
      | zero => simp at hx hy; subst hx hy; exact ⟨p, hp⟩
      | succ n => simp at hx hy; exact veqs_each hq n x y hx hy
    · cases h
set_option tactic.hygienic true in
/-- the list of item answers -/
theorem veqs_items : ∀ {l m : List V} {b : Bool}, veqs l m = some b → l.length = m.length → ∃ e : Nat → Bool, (∀ (j : Nat) x y, l[j]? = some x → m[j]? = some y → veq x y = some (e j)) ∧ (List.range l.length).all e = b
  | [], [], _, h, _ => by simp only [veqs] at h; cases h; exact ⟨fun _ => true, fun j x y e => by simp at e, rfl⟩
  | [], _ :: _, _, _, h => by simp at h
  | _ :: _, [], _, _, h => by simp at h
  | a :: l, b :: m, r, h, hn => by
    simp only [veqs] at h
    split at h
    · rename_i p q hp hq
      cases h
      obtain ⟨e, h1, h2⟩ := veqs_items hq (by simpa using hn)
      refine ⟨fun j => match j with | 0 => p | n + 1 => e n, fun j x y ex ey => ?_, ?_⟩
      · cases j with
        | zero => simp at ex ey; subst ex ey; exact hp
        | succ n => simp at ex ey; exact h1 n x y ex ey
      · rw [List.length_cons, List.range_succ_eq_map, List.all_cons, List.all_map]
        show (p && (List.range l.length).all e) = (p && q)
        rw [h2]
    · cases h

section
variable {κ : Kap} {Φ : Ctx} {g : G} {σ : St} {s : Shared}

theorem nrm_seq {n : Nat} {l l' : List V} (h : seqOpt (l.map (nrm σ.objs n)) = some l') {xs : List Value} (r : VRs g l xs) :
    xs.length = l'.length ∧ ∀ (j : Nat) x u, xs[j]? = some x → l'[j]? = some u → ∃ v, VR g v x ∧ nrm σ.objs n v = some u := by
  obtain ⟨h1, h2⟩ := seqOpt_get h
  refine ⟨by rw [r.length, h1, List.length_map], fun j x u hx hu => ?_⟩
  obtain ⟨v, e, rv⟩ := r.get' hx
  have := h2 j u hu
  rw [List.getElem?_map, e] at this
  exact ⟨v, rv, by simpa using this⟩

set_option tactic.hygienic true in
theorem nrm_view (R : Rel κ Φ g σ s) {n : Nat} {v u : V} {x : Value} (h : VR g v x) (e : nrm σ.objs (n + 1) v = some u) :
    (u = .none ∧ x = .none) ∨ (∃ b : Bool, u = .int (if b then 1 else 0) ∧ x = .bool b) ∨ (∃ i t, u = .int i ∧ x = .int i t) ∨ (∃ z t, u = .str z ∧ x = .str z t) ∨
    (∃ a xs k l l', u = .lst l' ∧ x = .ref a ∧ s.heap.get? a = some (listO xs k) ∧ VRs g l xs ∧ seqOpt (l.map (nrm σ.objs n)) = some l') ∨
    (∃ a xs k l l', u = .tup l' ∧ x = .ref a ∧ s.heap.get? a = some (tupO xs k) ∧ VRs g l xs ∧ seqOpt (l.map (nrm σ.objs n)) = some l') := by
  cases v with
  | none => simp only [nrm] at e; cases e; exact .inl ⟨rfl, by simpa only [VR] using h⟩
  | bool b => simp only [nrm] at e; cases e; exact .inr (.inl ⟨b, rfl, by simpa only [VR] using h⟩)
  | int i => simp only [nrm] at e; cases e; simp only [VR] at h; obtain ⟨t, rfl⟩ := h; exact .inr (.inr (.inl ⟨i, t, rfl, rfl⟩))
  | str z => simp only [nrm] at e; cases e; simp only [VR] at h; obtain ⟨t, rfl⟩ := h; exact .inr (.inr (.inr (.inl ⟨z, t, rfl, rfl⟩)))
  | tup l =>
    simp only [nrm, Option.map_eq_some_iff] at e
    obtain ⟨l', hl, rfl⟩ := e
    obtain ⟨a, xs, k, rfl, h1, h2⟩ := R.tup_at h
    exact .inr (.inr (.inr (.inr (.inr ⟨a, xs, k, l, l', rfl, rfl, h1, h2, hl⟩))))
  | lst l =>
    simp only [nrm, Option.map_eq_some_iff] at e
    obtain ⟨l', hl, rfl⟩ := e
    obtain ⟨a, xs, k, rfl, h1, h2, _⟩ := R.lst_at h
    exact .inr (.inr (.inr (.inr (.inl ⟨a, xs, k, l, l', rfl, rfl, h1, h2, hl⟩))))
  | ref i =>
    simp only [nrm] at e
    split at e
    · rename_i l hi
      simp only [Option.map_eq_some_iff] at e
      obtain ⟨l', hl, rfl⟩ := e
      obtain ⟨a, xs, k, rfl, _, h1, h2⟩ := R.ref_at h hi
      exact .inr (.inr (.inr (.inr (.inl ⟨a, xs, k, l, l', rfl, rfl, h1, h2, hl⟩))))
    · cases e
  | inst c i => simp only [nrm] at e; cases e
  | glob v => simp only [nrm] at e; cases e
  | fzo o => simp only [nrm] at e; cases e
  | dct o => simp only [nrm] at e; cases e

theorem nrm_fun (R : Rel κ Φ g σ s) : ∀ (n : Nat) {v v' u u' : V} {x : Value}, VR g v x → VR g v' x → nrm σ.objs n v = some u → nrm σ.objs n v' = some u' → u = u'
  | 0, _, _, _, _, _, _, _, h, _ => by cases h
  | n + 1, v, v', u, u', x, h, h', e, e' => by
    have items : ∀ {l m l' m' : List V} {xs : List Value}, VRs g l xs → VRs g m xs → seqOpt (l.map (nrm σ.objs n)) = some l' → seqOpt (m.map (nrm σ.objs n)) = some m' → l' = m' := by
      intro l m l' m' xs rl rm hl hm
      obtain ⟨e1, i1⟩ := nrm_seq hl rl
      obtain ⟨e2, i2⟩ := nrm_seq hm rm
      apply List.ext_getElem?
      intro j
      by_cases hj : j < xs.length
      · obtain ⟨v1, r1, w1⟩ := i1 j _ _ (List.getElem?_eq_getElem hj) (List.getElem?_eq_getElem (by rw [← e1]; exact hj))
        obtain ⟨v2, r2, w2⟩ := i2 j _ _ (List.getElem?_eq_getElem hj) (List.getElem?_eq_getElem (by rw [← e2]; exact hj))
        rw [List.getElem?_eq_getElem (by rw [← e1]; exact hj), List.getElem?_eq_getElem (by rw [← e2]; exact hj), nrm_fun R n r1 r2 w1 w2]
      · rw [List.getElem?_eq_none (by rw [← e1]; omega), List.getElem?_eq_none (by rw [← e2]; omega)]
    rcases nrm_view R h e with ⟨rfl, rfl⟩ | ⟨b, rfl, rfl⟩ | ⟨i, t, rfl, rfl⟩ | ⟨z, t, rfl, rfl⟩ | ⟨a, xs, k, l, l', rfl, rfl, h1, h2, h3⟩ | ⟨a, xs, k, l, l', rfl, rfl, h1, h2, h3⟩ <;>
    rcases nrm_view R h' e' with ⟨rfl, q⟩ | ⟨b', rfl, q⟩ | ⟨i', t', rfl, q⟩ | ⟨z', t', rfl, q⟩ | ⟨a', xs', k', m, m', rfl, q, g1, g2, g3⟩ | ⟨a', xs', k', m, m', rfl, q, g1, g2, g3⟩ <;>
    first
      | (cases q; done)
      | (cases q; rfl)
      | (cases q
         rw [h1] at g1
         cases g1
         rw [items h2 g2 h3 g3])
      | (cases q
         rw [h1] at g1
         exact absurd (congrArg (fun o => (Option.map Obj.cls o)) g1) (by simp))

set_option tactic.hygienic true in
mutual
theorem veq_self : ∀ (u : V) {r : Bool}, veq u u = some r → r = true
  | .none, _, h => by simp only [veq] at h; cases h; rfl
  | .bool _, _, h => by simp only [veq] at h; cases h
  | .int i, _, h => by simp only [veq] at h; cases h; simp
  | .str z, _, h => by simp only [veq] at h; cases h; simp
  | .tup l, _, h => by simp only [veq] at h; exact veqs_self l h
  | .lst l, _, h => by simp only [veq] at h; exact veqs_self l h
  | .ref _, _, h => by simp only [veq] at h; cases h
  | .inst _ _, _, h => by simp only [veq] at h; cases h
  | .glob _, _, h => by simp only [veq] at h; cases h
  | .fzo _, _, h => by simp only [veq] at h; cases h
  | .dct _, _, h => by simp only [veq] at h; cases h
theorem veqs_self : ∀ (l : List V) {r : Bool}, veqs l l = some r → r = true
  | [], _, h => by simp only [veqs] at h; cases h; rfl
  | a :: l, _, h => by
    simp only [veqs] at h
    split at h
    · rename_i p q hp hq
      cases h
      rw [veq_self a hp, veqs_self l hq]; rfl
    · cases h
end

theorem lists_rc (n : Nat) (A : Around) (hu : A.units + (n + 1) < cLine) (IH : ∀ {a b a' b' : V} {x y : Value} {r : Bool}, VR g a x → VR g b y → nrm σ.objs n a = some a' → nrm σ.objs n b = some b' → veq a' b' = some r → EqAt A.in1 s x y r)
    {p q : Addr} {xs ys : List Value} {k k' : Nat} {l l' m m' : List V} {r : Bool} (h1 : s.heap.get? p = some (listO xs k)) (h2 : VRs g l xs) (h3 : seqOpt (l.map (nrm σ.objs n)) = some l') (g1 : s.heap.get? q = some (listO ys k')) (g2 : VRs g m ys) (g3 : seqOpt (m.map (nrm σ.objs n)) = some m')
    (hr : veqs l' m' = some r) : RcAt A s (.ref p) (.ref q) r ∧ RcNeAt A s (.ref p) (.ref q) (!r) := by
  obtain ⟨e1, i1⟩ := nrm_seq h3 h2
  obtain ⟨e2, i2⟩ := nrm_seq g3 g2
  by_cases hlen : xs.length = ys.length
  · obtain ⟨e, f1, f2⟩ := veqs_items hr (by rw [← e1, ← e2, hlen])
    have each : ∀ j (j1 : j < xs.toArray.size) (j2 : j < ys.toArray.size), EqAt A.in1 s xs.toArray[j] ys.toArray[j] (e j) := fun j j1 j2 => by
      simp at j1 j2
      obtain ⟨v1, r1, w1⟩ := i1 j _ _ (List.getElem?_eq_getElem j1) (List.getElem?_eq_getElem (by rw [← e1]; exact j1))
      obtain ⟨v2, r2, w2⟩ := i2 j _ _ (List.getElem?_eq_getElem j2) (List.getElem?_eq_getElem (by rw [← e2]; exact j2))
      simpa using IH r1 r2 w1 w2 (f1 j _ _ (List.getElem?_eq_getElem (by rw [← e1]; exact j1)) (List.getElem?_eq_getElem (by rw [← e2]; exact j2)))
    have c1 := RcAt.lists (A := A) (e := e) (isList_of h1) (isList_of g1) (by simpa using hlen) (by omega) each
    have c2 := RcNeAt.lists (A := A) (e := e) (isList_of h1) (isList_of g1) (by simpa using hlen) (by omega) each
    rw [show xs.toArray.size = l'.length by simp [e1], f2] at c1 c2
    exact ⟨c1, c2⟩
  · have : r = false := veqs_len hr (by rw [← e1, ← e2]; exact hlen)
    subst this
    exact ⟨RcAt.lists_lengths (isList_of h1) (isList_of g1) (by simpa using hlen) (by omega), RcNeAt.lists_lengths (isList_of h1) (isList_of g1) (by simpa using hlen) (by omega)⟩
theorem tups_rc (n : Nat) (A : Around) (hu : A.units + (n + 1) < cLine) (IH : ∀ {a b a' b' : V} {x y : Value} {r : Bool}, VR g a x → VR g b y → nrm σ.objs n a = some a' → nrm σ.objs n b = some b' → veq a' b' = some r → EqAt A.in1 s x y r)
    {p q : Addr} {xs ys : List Value} {k k' : Nat} {l l' m m' : List V} {r : Bool} (h1 : s.heap.get? p = some (tupO xs k)) (h2 : VRs g l xs) (h3 : seqOpt (l.map (nrm σ.objs n)) = some l') (g1 : s.heap.get? q = some (tupO ys k')) (g2 : VRs g m ys) (g3 : seqOpt (m.map (nrm σ.objs n)) = some m')
    (hr : veqs l' m' = some r) : RcAt A s (.ref p) (.ref q) r ∧ RcNeAt A s (.ref p) (.ref q) (!r) := by
  obtain ⟨e1, i1⟩ := nrm_seq h3 h2
  obtain ⟨e2, i2⟩ := nrm_seq g3 g2
  have each : ∀ j (j1 : j < xs.toArray.size) (j2 : j < ys.toArray.size), EqAt A.in1 s xs.toArray[j] ys.toArray[j] ((fun j => (veq (l'.getD j .none) (m'.getD j .none)).getD false) j) := fun j j1 j2 => by
    simp at j1 j2
    obtain ⟨v1, r1, w1⟩ := i1 j _ _ (List.getElem?_eq_getElem j1) (List.getElem?_eq_getElem (by rw [← e1]; exact j1))
    obtain ⟨v2, r2, w2⟩ := i2 j _ _ (List.getElem?_eq_getElem j2) (List.getElem?_eq_getElem (by rw [← e2]; exact j2))
    obtain ⟨b, hb'⟩ := veqs_each hr j _ _ (List.getElem?_eq_getElem (by rw [← e1]; exact j1)) (List.getElem?_eq_getElem (by rw [← e2]; exact j2))
    have := IH r1 r2 w1 w2 hb'
    simp only [List.getD_eq_getElem?_getD, List.getElem?_eq_getElem (show j < l'.length by rw [← e1]; exact j1), List.getElem?_eq_getElem (show j < m'.length by rw [← e2]; exact j2), Option.getD_some, hb']
    simpa using this
  have c1 := RcAt.tuples (A := A) (isTuple_of h1) (isTuple_of g1) (by omega) each
  have c2 := RcNeAt.tuples (A := A) (isTuple_of h1) (isTuple_of g1) (by omega) each
  have val : ((List.range (min xs.toArray.size ys.toArray.size)).all (fun j => (veq (l'.getD j .none) (m'.getD j .none)).getD false) && xs.toArray.size == ys.toArray.size) = r := by
    by_cases hlen : xs.length = ys.length
    · obtain ⟨e, f1, f2⟩ := veqs_items hr (by rw [← e1, ← e2, hlen])
      rw [← f2, show min xs.toArray.size ys.toArray.size = l'.length by simp [← e1, hlen], show (xs.toArray.size == ys.toArray.size) = true by simp [hlen], Bool.and_true]
      apply Bool.eq_iff_iff.mpr
      simp only [List.all_eq_true, List.mem_range]
      refine forall_congr' fun j => forall_congr' fun hj => ?_
      have := f1 j _ _ (List.getElem?_eq_getElem hj) (List.getElem?_eq_getElem (show j < m'.length by rw [← e2, ← hlen, e1]; exact hj))
      simp only [List.getD_eq_getElem?_getD, List.getElem?_eq_getElem hj, List.getElem?_eq_getElem (show j < m'.length by rw [← e2, ← hlen, e1]; exact hj), Option.getD_some, this]
    · rw [veqs_len hr (by rw [← e1, ← e2]; exact hlen), show (xs.toArray.size == ys.toArray.size) = false by simpa using hlen, Bool.and_false]
  rw [val] at c1 c2
  exact ⟨c1, c2⟩
theorem eqAt_of (R : Rel κ Φ g σ s) : ∀ (n : Nat) (A : Around), A.units + n < cLine → ∀ {a b a' b' : V} {x y : Value} {r : Bool}, VR g a x → VR g b y → nrm σ.objs n a = some a' → nrm σ.objs n b = some b' → veq a' b' = some r → EqAt A s x y r
  | 0, _, _, _, _, _, _, _, _, _, _, _, h, _, _ => by cases h
  | n + 1, A, hu, a, b, a', b', x, y, r, ha, hb, na, nb, hr => by
    have hu' : (A.in1).units + n < cLine := by show A.units + 1 + n < cLine; omega
    rcases nrm_view R ha na with ⟨rfl, rfl⟩ | ⟨b, rfl, rfl⟩ | ⟨i, t, rfl, rfl⟩ | ⟨z, t, rfl, rfl⟩ | ⟨p, xs, k, l, l', rfl, rfl, h1, h2, h3⟩ | ⟨p, xs, k, l, l', rfl, rfl, h1, h2, h3⟩ <;>
    rcases nrm_view R hb nb with ⟨rfl, rfl⟩ | ⟨b', rfl, rfl⟩ | ⟨i', t', rfl, rfl⟩ | ⟨z', t', rfl, rfl⟩ | ⟨q, ys, k', m, m', rfl, rfl, g1, g2, g3⟩ | ⟨q, ys, k', m, m', rfl, rfl, g1, g2, g3⟩ <;>
    simp only [veq] at hr <;> try (cases hr; done)
    · cases hr; exact EqAt.same _
    · cases hr; exact EqAt.none_str _ _
    · cases hr
      have := EqAt.bool_bool (A := A) (s := s) b b'
      cases b <;> cases b' <;> exact this
    · cases hr
      have := EqAt.bool_int (A := A) (s := s) b i' t'
      cases b <;> exact this
    · cases hr
      have := EqAt.int_bool (A := A) (s := s) i t b'
      cases b' <;> exact this
    · cases hr; exact EqAt.int_int _ _ _ _
    · cases hr; exact EqAt.str_none _ _
    · cases hr; exact EqAt.str_str _ _ _ _
    · by_cases hpq : p = q
      · subst hpq
        have e := nrm_fun R (n + 1) ha hb na nb
        injection e with e
        subst e
        rw [veqs_self _ hr]
        exact EqAt.same _
      · exact EqAt.of_refs hpq (lists_rc n A hu (eqAt_of R n A.in1 hu') h1 h2 h3 g1 g2 g3 hr).1
    · by_cases hpq : p = q
      · subst hpq
        have e := nrm_fun R (n + 1) ha hb na nb
        injection e with e
        subst e
        rw [veqs_self _ hr]
        exact EqAt.same _
      · exact EqAt.of_refs hpq (tups_rc n A hu (eqAt_of R n A.in1 hu') h1 h2 h3 g1 g2 g3 hr).1

theorem rc_of (R : Rel κ Φ g σ s) (n : Nat) (A : Around) (hu : A.units + (n + 1) < cLine) {a b a' b' : V} {x y : Value} {r : Bool} (ha : VR g a x) (hb : VR g b y) (na : nrm σ.objs (n + 1) a = some a') (nb : nrm σ.objs (n + 1) b = some b')
    (hr : veq a' b' = some r) : RcAt A s x y r ∧ RcNeAt A s x y (!r) := by
  have hu' : (A.in1).units + n < cLine := by show A.units + 1 + n < cLine; omega
  rcases nrm_view R ha na with ⟨rfl, rfl⟩ | ⟨b, rfl, rfl⟩ | ⟨i, t, rfl, rfl⟩ | ⟨z, t, rfl, rfl⟩ | ⟨p, xs, k, l, l', rfl, rfl, h1, h2, h3⟩ | ⟨p, xs, k, l, l', rfl, rfl, h1, h2, h3⟩ <;>
  rcases nrm_view R hb nb with ⟨rfl, rfl⟩ | ⟨b', rfl, rfl⟩ | ⟨i', t', rfl, rfl⟩ | ⟨z', t', rfl, rfl⟩ | ⟨q, ys, k', m, m', rfl, rfl, g1, g2, g3⟩ | ⟨q, ys, k', m, m', rfl, rfl, g1, g2, g3⟩ <;>
  simp only [veq] at hr <;> try (cases hr; done)
  · cases hr; exact ⟨RcAt.none_none, RcNeAt.none_none⟩
  · cases hr; exact ⟨RcAt.none_str _ _, RcNeAt.none_str _ _⟩
  · cases hr
    have h1 := RcAt.bool_bool (A := A) (s := s) b b'
    have h2 := RcNeAt.bool_bool (A := A) (s := s) b b'
    cases b <;> cases b' <;> exact ⟨h1, h2⟩
  · cases hr; exact ⟨RcAt.bool_int _ _ _, RcNeAt.bool_int _ _ _⟩
  · cases hr; exact ⟨RcAt.int_bool _ _ _, RcNeAt.int_bool _ _ _⟩
  · cases hr; exact ⟨RcAt.int_int _ _ _ _, RcNeAt.int_int _ _ _ _⟩
  · cases hr; exact ⟨RcAt.str_none _ _, RcNeAt.str_none _ _⟩
  · cases hr; exact ⟨RcAt.str_str _ _ _ _, RcNeAt.str_str _ _ _ _⟩
  · exact lists_rc n A hu (eqAt_of R n A.in1 hu') h1 h2 h3 g1 g2 g3 hr
  · exact tups_rc n A hu (eqAt_of R n A.in1 hu') h1 h2 h3 g1 g2 g3 hr
end

end Mine

open PySem PySem.W PyProof.Rows PySem.Calls
set_option Elab.async false
set_option maxRecDepth 100000
set_option linter.unusedVariables false

namespace Mine
open PySem.SeqAt

section
variable {κ : Kap} {Φ : Ctx} {g : G} {σ : St} {s : Shared}

/-- a library rule that lays one new object: the object frozen -/
theorem new_frozen (R : Rel κ Φ g σ s) {a : Addr} {o : Obj} {h' : Heap} {tk : Nat} (ha : a = s.heap.objs.size) (R' : Rel κ Φ g σ { s with heap := h', toks := tk }) (ho : h'.get? a = some o) :
    Rel κ Φ ⟨(a, o) :: g.fz, g.tr⟩ σ { s with heap := h', toks := tk } ∧ g.le ⟨(a, o) :: g.fz, g.tr⟩ := R'.freeze ho (by rw [ha]; exact R.fresh)
theorem new_tracked (R : Rel κ Φ g σ s) {a : Addr} {ob : Obj} {o : O} {h' : Heap} {tk : Nat} (ha : a = s.heap.objs.size) (R' : Rel κ Φ g σ { s with heap := h', toks := tk }) (ho : h'.get? a = some ob) (hr : OR Φ.w.params g o ob) :
    Rel κ Φ ⟨g.fz, g.tr ++ [a]⟩ { σ with objs := σ.objs ++ [o] } { s with heap := h', toks := tk } ∧ g.le ⟨g.fz, g.tr ++ [a]⟩ := R'.track ho (by rw [ha]; exact R.fresh) hr

theorem PE.here {Q : V → St → Prop} {x : Value} {v : V} {s' : Shared} {σ' : St} (R : Rel κ Φ g σ' s') (h : VR g v x) (q : Q v σ') : PE κ Φ g Q x s' := ⟨g, v, σ', .refl g, R, h, q⟩

/-- a frozen list of related values is made -/
theorem mk_lst (ok : Ctx.Ok κ Φ) (R : Rel κ Φ g σ s) {l : List V} {xs : List Value} (hr : VRs g l xs) {Q : V → St → Prop} (hsz : l.length ≤ sizeLine) (h : Q (.lst l) σ) :
    wpAny (model κ.P.prog Φ.w) Φ.A (newList xs) (PE κ Φ g Q) NoE s := by
  obtain ⟨m, news, F, N, back⟩ := R.ledger ok.above
  refine newList_N F N (fun h' F' N' => ?_) (by rw [hr.length]; exact hsz)
  have R' := back h' s.toks F' (ntail N')
  obtain ⟨R2, le⟩ := new_frozen R rfl R' (N'.get (.head _))
  refine ⟨_, .lst l, σ, le, R2, ?_, h⟩
  simp only [VR]
  exact ⟨_, xs, 0, rfl, .head _, VRs.mono le l hr⟩
theorem mk_tup (ok : Ctx.Ok κ Φ) (R : Rel κ Φ g σ s) {l : List V} {xs : List Value} (hr : VRs g l xs) {Q : V → St → Prop} (hsz : l.length ≤ sizeLine) (h : Q (.tup l) σ) :
    wpAny (model κ.P.prog Φ.w) Φ.A (newTuple xs) (PE κ Φ g Q) NoE s := by
  obtain ⟨m, news, F, N, back⟩ := R.ledger ok.above
  refine newTuple_N F N (fun h' F' N' => ?_) (by rw [hr.length]; exact hsz)
  have R' := back h' s.toks F' (ntail N')
  obtain ⟨R2, le⟩ := new_frozen R rfl R' (N'.get (.head _))
  refine ⟨_, .tup l, σ, le, R2, ?_, h⟩
  simp only [VR]
  exact ⟨_, xs, 0, rfl, .head _, VRs.mono le l hr⟩
theorem mk_ref (ok : Ctx.Ok κ Φ) (R : Rel κ Φ g σ s) {l : List V} {xs : List Value} (hr : VRs g l xs) {Q : V → St → Prop} (hsz : l.length ≤ sizeLine) (h : Q (.ref σ.objs.length) { σ with objs := σ.objs ++ [.list l] }) :
    wpAny (model κ.P.prog Φ.w) Φ.A (newList xs) (PE κ Φ g Q) NoE s := by
  obtain ⟨m, news, F, N, back⟩ := R.ledger ok.above
  refine newList_N F N (fun h' F' N' => ?_) (by rw [hr.length]; exact hsz)
  have R' := back h' s.toks F' (ntail N')
  obtain ⟨R2, le⟩ := new_tracked (o := .list l) R rfl R' (N'.get (.head _)) ⟨xs, 0, rfl, hr⟩
  refine ⟨_, .ref σ.objs.length, _, le, R2, ?_, h⟩
  simp only [VR]
  exact ⟨_, rfl, by rw [← R.tr.1]; simp⟩
end

/-! ## Operators -/

noncomputable def eqA (a b : V) : W Bool := fun Q σ => match a, b with
  | .int i, .int j => Q (i == j) σ
  | .str x, .str y => Q (x == y) σ
  | a, b => match nrm σ.objs 8 a, nrm σ.objs 8 b with
    | some a', some b' => (match veq a' b' with
      | some r => Q r σ
      | none => False)
    | _, _ => False
noncomputable def isN : V → Bool
  | .none => true
  | .glob v => v == .none
  | _ => false
noncomputable def isA (a b : V) : W Bool := fun Q σ => match b with
  | .none => Q (isN a) σ
  | .glob (.type t) => (match a with
    | .glob (.type u) => Q (u == t) σ
    | _ => False)
  | b => match a with
    | .none => Q (isN b) σ
    | _ => False
noncomputable def memA (objs : List O) (a' : V) : List V → Option Bool
  | [] => some false
  | y :: ys => match nrm objs 8 y with
    | some y' => (match veq y' a', memA objs a' ys with
      | some p, some q => some (p || q)
      | _, _ => none)
    | none => none
noncomputable def inA (a b : V) : W Bool := fun Q σ => match seqOf σ.objs b with
  | some l => (match nrm σ.objs 8 a with
    | some a' => (match memA σ.objs a' l with
      | some r => Q r σ
      | none => False)
    | none => False)
  | none => False
noncomputable def cmpA (op : CmpOp) (a b : V) : W Bool := fun Q σ => match op with
  | .Eq => eqA a b Q σ
  | .NotEq => eqA a b (fun r => Q (!r)) σ
  | .Is => isA a b Q σ
  | .IsNot => isA a b (fun r => Q (!r)) σ
  | .In => inA a b Q σ
  | .NotIn => inA a b (fun r => Q (!r)) σ
  | .Lt => (match a, b with | .int i, .int j => Q (decide (i < j)) σ | _, _ => False)
  | .LtE => (match a, b with | .int i, .int j => Q (decide (i ≤ j)) σ | _, _ => False)
  | .Gt => (match a, b with | .int i, .int j => Q (decide (j < i)) σ | _, _ => False)
  | .GtE => (match a, b with | .int i, .int j => Q (decide (j ≤ i)) σ | _, _ => False)
noncomputable def truthA (a : V) : W Bool := fun Q σ => match a with
  | .none => Q false σ
  | .bool b => Q b σ
  | .int i => Q (i != 0) σ
  | .str x => x.length ≤ sizeLine ∧ Q (x.length != 0) σ
  | a => match seqOf σ.objs a with
    | some l => l.length ≤ sizeLine ∧ Q (l.length != 0) σ
    | none => False
noncomputable def binA (op : Operator) (a b : V) : W V := fun Q σ => match op, a, b with
  | .Add, .int x, .int y => Q (.int (x + y)) σ
  | .Sub, .int x, .int y => Q (.int (x - y)) σ
  | .FloorDiv, .int x, .int y => (y ≠ 0 ∧ y.natAbs < 1000) ∧ Q (.int (x.fdiv y)) σ
  | .Mod, .int x, .int y => y ≠ 0 ∧ Q (.int (x.fmod y)) σ
  | .Mult, .int x, .int y => IntMulOk x y ∧ Q (.int (x * y)) σ
  | .Add, .str x, .str y => x.length + y.length ≤ sizeLine ∧ Q (.str (x ++ y)) σ
  | .Add, a, b => (match seqOf σ.objs a, seqOf σ.objs b with
    | some l, some m => l.length + m.length ≤ sizeLine ∧ Q (.lst (l ++ m)) σ
    | _, _ => False)
  | _, _, _ => False
section
variable {κ : Kap} {Φ : Ctx} {g : G} {σ : St} {s : Shared}


noncomputable def boolV (f : W Bool) : W V := fun Q => f fun b => Q (.bool b)

set_option tactic.hygienic true in
theorem eq_sound (ok : Ctx.Ok κ Φ) (R : Rel κ Φ g σ s) {a b : V} {x y : Value} (ha : VR g a x) (hb : VR g b y) {Q : Bool → St → Prop} (h : eqA a b Q σ) :
    wpAny (model κ.P.prog Φ.w) Φ.A (compareOp .Eq x y) (PE κ Φ g fun v σ' => ∃ r, v = .bool r ∧ Q r σ') NoE s ∧ wpAny (model κ.P.prog Φ.w) Φ.A (compareOp .NotEq x y) (PE κ Φ g fun v σ' => ∃ r, v = .bool (!r) ∧ Q r σ') NoE s := by
  have fin : ∀ r, Q r σ → PE κ Φ g (fun v σ' => ∃ r, v = .bool r ∧ Q r σ') (.bool r) s := fun r q => .here R (v := .bool r) (by simp only [VR]) ⟨r, rfl, q⟩
  have fin' : ∀ r, Q r σ → PE κ Φ g (fun v σ' => ∃ r, v = .bool (!r) ∧ Q r σ') (.bool (!r)) s := fun r q => .here R (v := .bool (!r)) (by simp only [VR]) ⟨r, rfl, q⟩
  unfold eqA at h
  split at h
  · simp only [VR] at ha hb
    obtain ⟨t, rfl⟩ := ha
    obtain ⟨u, rfl⟩ := hb
    exact ⟨PyProof.Rows.eq_int (fin _ h), PyProof.Rows.ne_int (fin' _ h)⟩
  · simp only [VR] at ha hb
    obtain ⟨t, rfl⟩ := ha
    obtain ⟨u, rfl⟩ := hb
    exact ⟨PyProof.Rows.eq_str (fin _ h), PyProof.Rows.ne_str (fin' _ h)⟩
  · split at h
    · rename_i a' b' na nb
      split at h
      · rename_i r hr
        obtain ⟨c1, c2⟩ := rc_of R 7 Φ.A (by have := ok.units; omega) ha hb na nb hr
        exact ⟨c1 κ.P.prog Φ.w _ _ (fin _ h), c2 κ.P.prog Φ.w _ _ (fin' _ h)⟩
      · exact h.elim
    · exact h.elim

theorem isN_spec {a : V} {x : Value} (ha : VR g a x) : (x == .none) = isN a := by
  cases a <;> simp only [VR] at ha
  · subst ha; rfl
  · subst ha; rfl
  · obtain ⟨_, rfl⟩ := ha; rfl
  · obtain ⟨_, rfl⟩ := ha; rfl
  · obtain ⟨_, _, _, rfl, _⟩ := ha; rfl
  · obtain ⟨_, _, _, rfl, _⟩ := ha; rfl
  · obtain ⟨_, rfl, _⟩ := ha; rfl
  · obtain ⟨_, _, _, rfl, _⟩ := ha; rfl
  · subst ha; rfl
  · obtain ⟨_, rfl, _⟩ := ha; rfl
  · obtain ⟨_, rfl, _⟩ := ha; rfl
theorem isSame_none_left (v : Value) : isSame .none v = pure (v == .none) := by cases v <;> rfl

set_option tactic.hygienic true in
theorem is_sound (R : Rel κ Φ g σ s) {a b : V} {x y : Value} (ha : VR g a x) (hb : VR g b y) {Q : Bool → St → Prop} (h : isA a b Q σ) : ∃ r, isSame x y = pure r ∧ Q r σ := by
  unfold isA at h
  split at h
  · simp only [VR] at hb
    subst hb
    exact ⟨_, isSame_none x, by rw [isN_spec ha]; exact h⟩
  · split at h
    · simp only [VR] at ha hb
      subst ha hb
      rename_i t _ u
      exact ⟨_, rfl, by rw [show ((Value.type u) == Value.type t) = (u == t) from by rw [Bool.eq_iff_iff]; simp]; exact h⟩
    · exact h.elim
  · split at h
    · simp only [VR] at ha
      subst ha
      exact ⟨_, isSame_none_left y, by rw [isN_spec hb]; exact h⟩
    · exact h.elim

set_option tactic.hygienic true in
theorem mem_sound (ok : Ctx.Ok κ Φ) (R : Rel κ Φ g σ s) {a a' : V} {x : Value} (ha : VR g a x) (na : nrm σ.objs 8 a = some a') :
    ∃ e : Value → Bool, ∀ {l : List V} {xs : List Value} {r : Bool}, VRs g l xs → memA σ.objs a' l = some r → (∀ y ∈ xs, EqAt Φ.A.in1 s y x (e y)) ∧ xs.any e = r := by
  refine ⟨fun y => @decide (∃ v u, VR g v y ∧ nrm σ.objs 8 v = some u ∧ veq u a' = some true) (Classical.propDecidable _), ?_⟩
  intro l
  induction l with
  | nil =>
    intro xs r h hr
    simp only [VRs] at h
    subst h
    simp only [memA] at hr
    cases hr
    exact ⟨fun y hy => (by cases hy), rfl⟩
  | cons v l ih =>
    intro xs r h hr
    simp only [VRs] at h
    obtain ⟨y, ys, rfl, rv, rs⟩ := h
    simp only [memA] at hr
    split at hr
    · rename_i v' nv
      split at hr
      · rename_i p q hp hq
        cases hr
        obtain ⟨h1, h2⟩ := ih rs hq
        have e : @decide (∃ v u, VR g v y ∧ nrm σ.objs 8 v = some u ∧ veq u a' = some true) (Classical.propDecidable _) = p := by
          cases p with
          | true => exact @decide_eq_true _ (Classical.propDecidable _) ⟨v, v', rv, nv, hp⟩
          | false =>
            refine @decide_eq_false _ (Classical.propDecidable _) fun ⟨w, u, rw', nu, hu⟩ => ?_
            have := nrm_fun R 8 rv rw' nv nu
            subst this
            rw [hp] at hu; cases hu
        refine ⟨fun z hz => ?_, ?_⟩
        · rcases List.mem_cons.mp hz with rfl | hz
          · show EqAt Φ.A.in1 s z x (@decide (∃ v u, VR g v z ∧ nrm σ.objs 8 v = some u ∧ veq u a' = some true) (Classical.propDecidable _))
            rw [e]
            exact eqAt_of R 8 _ (by show Φ.A.units + 1 + 8 < cLine; have := ok.units; omega) rv ha nv na hp
          · exact h1 z hz
        · rw [List.any_cons, h2]
          show (@decide (∃ v u, VR g v y ∧ nrm σ.objs 8 v = some u ∧ veq u a' = some true) (Classical.propDecidable _) || q) = (p || q)
          rw [e]
      · cases hr
    · cases hr

set_option tactic.hygienic true in
theorem cmp_sound (ok : Ctx.Ok κ Φ) (R : Rel κ Φ g σ s) {op : CmpOp} {a b : V} {x y : Value} (ha : VR g a x) (hb : VR g b y) {Q : Bool → St → Prop} (h : cmpA op a b Q σ) :
    wpAny (model κ.P.prog Φ.w) Φ.A (compareOp op x y) (PE κ Φ g fun v σ' => ∃ r, v = .bool r ∧ Q r σ') NoE s := by
  have fin : ∀ r, Q r σ → PE κ Φ g (fun v σ' => ∃ r, v = .bool r ∧ Q r σ') (.bool r) s := fun r q => .here R (v := .bool r) (by simp only [VR]) ⟨r, rfl, q⟩
  have ins : ∀ {Q' : Bool → St → Prop}, inA a b Q' σ → ∃ l ad xs n r, y = .ref ad ∧ s.heap.get? ad = some (listO xs n) ∧ Q' r σ ∧ ∃ e : Value → Bool, (∀ z ∈ xs.toArray, EqAt Φ.A.in1 s z x (e z)) ∧ xs.toArray.any e = r ∧ seqOf σ.objs b = some l := by
    intro Q' hi
    unfold inA at hi
    split at hi
    · rename_i l hl
      split at hi
      · rename_i a' na
        split at hi
        · rename_i r hr
          obtain ⟨ad, xs, n, rfl, h1, h2⟩ := R.seq_at hb hl
          obtain ⟨e, he⟩ := mem_sound ok R ha na
          obtain ⟨e1, e2⟩ := he h2 hr
          exact ⟨l, ad, xs, n, r, rfl, h1, hi, e, fun z hz => e1 z (by simpa using hz), by simpa using e2, hl⟩
        · exact hi.elim
      · exact hi.elim
    · exact hi.elim
  cases op <;> simp only [cmpA] at h
  · exact (eq_sound ok R ha hb h).1
  · refine wpAny_mono (eq_sound ok R ha hb h).2 (fun v s' p => ?_) fun _ _ e => e
    obtain ⟨g', v', σ', le, R', rv, r, e, q⟩ := p
    exact ⟨g', v', σ', le, R', rv, _, e, q⟩
  · split at h
    · simp only [VR] at ha hb
      obtain ⟨_, rfl⟩ := ha
      obtain ⟨_, rfl⟩ := hb
      exact PyProof.Rows.lt_int (fin _ h)
    · exact h.elim
  · split at h
    · simp only [VR] at ha hb
      obtain ⟨_, rfl⟩ := ha
      obtain ⟨_, rfl⟩ := hb
      exact PyProof.Rows.le_int (fin _ h)
    · exact h.elim
  · split at h
    · simp only [VR] at ha hb
      obtain ⟨_, rfl⟩ := ha
      obtain ⟨_, rfl⟩ := hb
      exact PyProof.Rows.gt_int (fin _ h)
    · exact h.elim
  · split at h
    · simp only [VR] at ha hb
      obtain ⟨_, rfl⟩ := ha
      obtain ⟨_, rfl⟩ := hb
      exact PyProof.Rows.ge_int (fin _ h)
    · exact h.elim
  · obtain ⟨r, e, q⟩ := is_sound R ha hb h
    show wpAny _ _ (do return Value.bool (← isSame x y)) _ _ s
    rw [e]; exact wpAny_pure (fin _ q)
  · obtain ⟨r, e, q⟩ := is_sound R ha hb h
    show wpAny _ _ (do return Value.bool (!(← isSame x y))) _ _ s
    rw [e]; exact wpAny_pure (fin _ q)
  · obtain ⟨l, ad, xs, n, r, rfl, h1, q, e, e1, e2, _⟩ := ins h
    exact in_listAt e (isList_of h1) e1 (by rw [e2]; exact fin _ q)
  · obtain ⟨l, ad, xs, n, r, rfl, h1, q, e, e1, e2, _⟩ := ins h
    exact notIn_listAt e (isList_of h1) e1 (by rw [e2]; exact fin _ q)

set_option tactic.hygienic true in
theorem truth_sound (R : Rel κ Φ g σ s) {a : V} {x : Value} (ha : VR g a x) {Q : Bool → St → Prop} (h : truthA a Q σ) :
    wpAny (model κ.P.prog Φ.w) Φ.A (truthy x) (PB κ Φ g Q) NoE s := by
  have fin : ∀ {tk : Nat} r, Q r σ → PB κ Φ g Q r { s with toks := tk } := fun r q => ⟨g, σ, .refl g, R.tok _, q⟩
  have lists : ∀ {l : List V}, seqOf σ.objs a = some l → l.length ≤ sizeLine ∧ Q (l.length != 0) σ → wpAny (model κ.P.prog Φ.w) Φ.A (truthy x) (PB κ Φ g Q) NoE s := by
    intro l hl ⟨hz, q⟩
    obtain ⟨ad, xs, n, rfl, h1, h2⟩ := R.seq_at ha hl
    refine wpAny_truthy_list (isList_of h1) ?_ ?_
    · have := h2.length
      rw [sizeLine_eq] at hz
      simp only [List.size_toArray]
      omega
    · have e : (!xs.toArray.isEmpty) = (l.length != 0) := by
        rw [← h2.length]
        cases xs <;> rfl
      rw [e]; exact fin _ q
  unfold truthA at h
  split at h
  · simp only [VR] at ha; subst ha; exact truthy_none (fin (tk := s.toks) _ h)
  · simp only [VR] at ha; subst ha; exact wpAny_truthy_bool (fin (tk := s.toks) _ h)
  · simp only [VR] at ha; obtain ⟨_, rfl⟩ := ha; exact PyProof.Rows.truthy_int (fin (tk := s.toks) _ h)
  · simp only [VR] at ha
    obtain ⟨_, rfl⟩ := ha
    obtain ⟨hz, q⟩ := h
    rename_i z _
    refine PySem.P.truthy_str (by rw [sizeLine_eq] at hz; omega) ?_
    have e : ((z.length : Int) != 0) = (z.length != 0) := by rw [Bool.eq_iff_iff]; simp
    rw [e]; exact fin _ q
  · split at h
    · rename_i l hl; exact lists hl h
    · exact h.elim

set_option tactic.hygienic true in
theorem bin_sound (ok : Ctx.Ok κ Φ) (R : Rel κ Φ g σ s) {op : Operator} {a b : V} {x y : Value} (ha : VR g a x) (hb : VR g b y) {Q : V → St → Prop} (h : binA op a b Q σ) :
    wpAny (model κ.P.prog Φ.w) Φ.A (binaryOp op x y) (PE κ Φ g Q) NoE s := by
  have fin : ∀ {tk t : Nat} i, Q (.int i) σ → PE κ Φ g Q (.int i t) { s with toks := tk } := fun i q => .here (R.tok _) (v := .int i) (by simp only [VR]; exact ⟨_, rfl⟩) q
  unfold binA at h
  split at h
  · simp only [VR] at ha hb; obtain ⟨_, rfl⟩ := ha; obtain ⟨_, rfl⟩ := hb
    exact PyProof.Rows.add_int (fin _ h)
  · simp only [VR] at ha hb; obtain ⟨_, rfl⟩ := ha; obtain ⟨_, rfl⟩ := hb
    exact PyProof.Rows.sub_int (fin _ h)
  · simp only [VR] at ha hb; obtain ⟨_, rfl⟩ := ha; obtain ⟨_, rfl⟩ := hb
    exact PyProof.Rows.floordiv_int h.1.1 (fin _ h.2) (.inl (PyProof.noPylong_small (by have := h.1.2; omega)))
  · simp only [VR] at ha hb; obtain ⟨_, rfl⟩ := ha; obtain ⟨_, rfl⟩ := hb
    exact PyProof.Rows.mod_int h.1 (fin _ h.2)
  · simp only [VR] at ha hb; obtain ⟨_, rfl⟩ := ha; obtain ⟨_, rfl⟩ := hb
    exact PyProof.Rows.mul_int (fin _ h.2) h.1
  · simp only [VR] at ha hb; obtain ⟨_, rfl⟩ := ha; obtain ⟨_, rfl⟩ := hb
    exact PyProof.Rows.add_str (fun t' tk => .here (R.tok _) (v := .str _) (by simp only [VR]; exact ⟨_, rfl⟩) h.2) h.1
  · split at h
    · rename_i l m hl hm
      obtain ⟨a1, xs, n, rfl, h1, h2⟩ := R.seq_at ha hl
      obtain ⟨a2, ys, n', rfl, g1, g2⟩ := R.seq_at hb hm
      obtain ⟨mm, news, F, N, back⟩ := R.ledger ok.above
      refine add_lists F N (isList_of h1) (isList_of g1) (fun h' F' N' => ?_) (by rw [h2.length, g2.length]; exact h.1)
      have R' := back h' s.toks F' (ntail N')
      obtain ⟨R2, le⟩ := new_frozen R rfl R' (N'.get (.head _))
      refine ⟨_, .lst (l ++ m), σ, le, R2, ?_, h.2⟩
      simp only [VR]
      exact ⟨_, xs ++ ys, 0, rfl, .head _, VRs.mono le _ (h2.append g2)⟩
    · exact h.elim
  · exact h.elim

end
end Mine

open PySem PySem.W PyProof.Rows PySem.Calls
set_option Elab.async false
set_option maxRecDepth 100000
set_option linter.unusedVariables false

namespace Mine

section
variable {κ : Kap}

/-! ## Expressions -/
theorem r_none {k : Nat} {pos : Pos} : SE κ (.Constant .none k pos) (ret .none) := fun Φ ok g σ s Q R h => wpAny_Constant_none (.here R (v := .none) (by simp only [VR]) h)
theorem r_bool {b : Bool} {k : Nat} {pos : Pos} : SE κ (.Constant (.bool b) k pos) (ret (.bool b)) := fun Φ ok g σ s Q R h => wpAny_Constant_bool (.here R (v := .bool b) (by simp only [VR]) h)
theorem r_int {i : Int} {k : Nat} {pos : Pos} : SE κ (.Constant (.int i) k pos) (ret (.int i)) := fun Φ ok g σ s Q R h =>
  wpAny_Constant_int (.here (R.tok _) (v := .int i) (by simp only [VR]; exact ⟨_, rfl⟩) h)
theorem r_str {x : Str} {k : Nat} {pos : Pos} : SE κ (.Constant (.str x) k pos) (ret (.str x)) := fun Φ ok g σ s Q R h =>
  wpAny_Constant_str (.here (R.tok _) (v := .str x) (by simp only [VR]; exact ⟨_, rfl⟩) h)

theorem r_BinOp {l r : Expr} {op : Operator} {pos : Pos} {f h : W V} (hl : SE κ l f) (hr : SE κ r h) : SE κ (.BinOp l op r pos) (bnd f fun a => bnd h fun b => binA op a b) := fun Φ ok g σ s Q R q => by
  refine wpAny_BinOp (wpAny_mono (hl Φ ok g σ s _ R q) (fun x s₁ p => ?_) fun _ _ e => e)
  obtain ⟨g₁, a, σ₁, le₁, R₁, ra, q₁⟩ := p
  refine wpAny_mono (hr Φ ok g₁ σ₁ s₁ _ R₁ q₁) (fun y s₂ p => ?_) fun _ _ e => e
  obtain ⟨g₂, b, σ₂, le₂, R₂, rb, q₂⟩ := p
  exact wPE (le₁.trans le₂) (bin_sound ok R₂ (VR.mono le₂ a ra) rb q₂)
theorem r_Compare {l r : Expr} {op : CmpOp} {pos : Pos} {f h : W V} (hl : SE κ l f) (hr : SE κ r h) (hm : behindInMarks op r = false := by rfl) :
    SE κ (.Compare l [op] [r] pos) (bnd f fun a => bnd h fun b => boolV (cmpA op a b)) := fun Φ ok g σ s Q R q => by
  refine wpAny_Compare1 (wpAny_mono (hl Φ ok g σ s _ R q) (fun x s₁ p => ?_) fun _ _ e => e) hm
  obtain ⟨g₁, a, σ₁, le₁, R₁, ra, q₁⟩ := p
  refine wpAny_mono (hr Φ ok g₁ σ₁ s₁ _ R₁ q₁) (fun y s₂ p => ?_) fun _ _ e => e
  obtain ⟨g₂, b, σ₂, le₂, R₂, rb, q₂⟩ := p
  refine wpAny_mono (cmp_sound ok R₂ (VR.mono le₂ a ra) rb q₂) (fun z s₃ p => ?_) fun _ _ e => e
  obtain ⟨g₃, c, σ₃, le₃, R₃, rc, r, rfl, q₃⟩ := p
  exact ⟨g₃, _, σ₃, (le₁.trans le₂).trans le₃, R₃, rc, q₃⟩
theorem t_Compare {l r : Expr} {op : CmpOp} {pos : Pos} {f h : W V} (hl : SE κ l f) (hr : SE κ r h) (hm : behindInMarks op r = false := by rfl) :
    ST κ (.Compare l [op] [r] pos) (bnd f fun a => bnd h fun b => cmpA op a b) := fun Φ ok g σ s Q R q => by
  refine wpAny_isTrue_Compare1 (wpAny_mono (hl Φ ok g σ s _ R q) (fun x s₁ p => ?_) fun _ _ e => e) hm
  obtain ⟨g₁, a, σ₁, le₁, R₁, ra, q₁⟩ := p
  refine wpAny_mono (hr Φ ok g₁ σ₁ s₁ _ R₁ q₁) (fun y s₂ p => ?_) fun _ _ e => e
  obtain ⟨g₂, b, σ₂, le₂, R₂, rb, q₂⟩ := p
  refine wpAny_mono (cmp_sound ok R₂ (VR.mono le₂ a ra) rb q₂) (fun z s₃ p => ?_) fun _ _ e => e
  obtain ⟨g₃, c, σ₃, le₃, R₃, rc, r, rfl, q₃⟩ := p
  simp only [VR] at rc
  subst rc
  exact wpAny_truthy_bool ⟨g₃, σ₃, (le₁.trans le₂).trans le₃, R₃, q₃⟩
theorem r_IfExp {t b o : Expr} {pos : Pos} {ft : W Bool} {fb fo : W V} (ht : ST κ t ft) (hb : SE κ b fb) (ho : SE κ o fo) : SE κ (.IfExp t b o pos) (bnd ft fun c => if c then fb else fo) := fun Φ ok g σ s Q R q => by
  refine wpAny_IfExp (wpAny_mono (ht Φ ok g σ s _ R q) (fun c s₁ p => ?_) fun _ _ e => e)
  obtain ⟨g₁, σ₁, le₁, R₁, q₁⟩ := p
  cases c with
  | true => exact wPE le₁ (hb Φ ok g₁ σ₁ s₁ _ R₁ q₁)
  | false => exact wPE le₁ (ho Φ ok g₁ σ₁ s₁ _ R₁ q₁)

/-! ## Tests -/
theorem t_plain {e : Expr} {f : W V} (hx : SE κ e f) (he : ∀ env whole, isTrue e env whole = (do let v ← whole; standAt e.pos; holding [v] (truthy v)) := by intro _ _; rfl) : ST κ e (bnd f truthA) := fun Φ ok g σ s Q R q => by
  refine isTrue_plain (wpAny_mono (hx Φ ok g σ s _ R q) (fun x s₁ p => ?_) fun _ _ e => e) (he _ _)
  obtain ⟨g₁, a, σ₁, le₁, R₁, ra, q₁⟩ := p
  exact wPB le₁ (truth_sound R₁ ra q₁)
theorem t_Not {x : Expr} {pos : Pos} {f : W Bool} (hx : ST κ x f) : ST κ (.UnaryOp .Not x pos) (bnd f fun b => ret (!b)) := fun Φ ok g σ s Q R q =>
  isTrue_not (wpAny_mono (hx Φ ok g σ s _ R q) (fun c s₁ p => p) fun _ _ e => e)
theorem t_and1 {x : Expr} {pos : Pos} {f : W Bool} (hx : ST κ x f) : ST κ (.BoolOp .And [x] pos) f := fun Φ ok g σ s Q R q => by
  refine isTrue_and (wpAny_mono (hx Φ ok g σ s _ R q) (fun c s₁ p => ?_) fun _ _ e => e)
  cases c with
  | true => exact isTrue_and_nil p
  | false => exact p
theorem t_and {x y : Expr} {rest : List Expr} {pos : Pos} {f h : W Bool} (hx : ST κ x f) (hy : ST κ (.BoolOp .And (y :: rest) pos) h) : ST κ (.BoolOp .And (x :: y :: rest) pos) (bnd f fun b => if b then h else ret false) := fun Φ ok g σ s Q R q => by
  refine isTrue_and (wpAny_mono (hx Φ ok g σ s _ R q) (fun c s₁ p => ?_) fun _ _ e => e)
  obtain ⟨g₁, σ₁, le₁, R₁, q₁⟩ := p
  cases c with
  | true => exact wPB le₁ (hy Φ ok g₁ σ₁ s₁ _ R₁ q₁)
  | false => exact ⟨g₁, σ₁, le₁, R₁, q₁⟩
theorem t_or1 {x : Expr} {pos : Pos} {f : W Bool} (hx : ST κ x f) : ST κ (.BoolOp .Or [x] pos) f := fun Φ ok g σ s Q R q => by
  refine isTrue_or (wpAny_mono (hx Φ ok g σ s _ R q) (fun c s₁ p => ?_) fun _ _ e => e)
  cases c with
  | true => exact p
  | false => exact isTrue_or_nil p
theorem t_or {x y : Expr} {rest : List Expr} {pos : Pos} {f h : W Bool} (hx : ST κ x f) (hy : ST κ (.BoolOp .Or (y :: rest) pos) h) : ST κ (.BoolOp .Or (x :: y :: rest) pos) (bnd f fun b => if b then ret true else h) := fun Φ ok g σ s Q R q => by
  refine isTrue_or (wpAny_mono (hx Φ ok g σ s _ R q) (fun c s₁ p => ?_) fun _ _ e => e)
  obtain ⟨g₁, σ₁, le₁, R₁, q₁⟩ := p
  cases c with
  | true => exact ⟨g₁, σ₁, le₁, R₁, q₁⟩
  | false => exact wPB le₁ (hy Φ ok g₁ σ₁ s₁ _ R₁ q₁)
/-! ## Lists of expressions, displays -/
theorem star_cons {e : Expr} {rest : List Expr} {env : Env} (he : isStarred e = false) : starEach (e :: rest) env = (false, eval e env) :: starEach rest env := by
  cases e <;> first | rfl | cases he
theorem rs_nil : SEs κ [] (ret []) := fun Φ ok pos g σ s Q R h => spliced_none ⟨g, [], σ, .refl g, R, .nil, h⟩
theorem rs_cons {e : Expr} {rest : List Expr} {f : W V} {h : W (List V)} (he : SE κ e f) (hr : SEs κ rest h) (hs : isStarred e = false := by rfl) : SEs κ (e :: rest) (bnd f fun v => bnd h fun vs => ret (v :: vs)) := fun Φ ok pos g σ s Q R q => by
  refine spliced_more (wpAny_mono (he Φ ok g σ s _ R q) (fun x s₁ p => ?_) fun _ _ e => e) (star_cons hs)
  obtain ⟨g₁, a, σ₁, le₁, R₁, ra, q₁⟩ := p
  refine wpAny_mono (hr Φ ok pos g₁ σ₁ s₁ _ R₁ q₁) (fun xs s₂ p => ?_) fun _ _ e => e
  obtain ⟨g₂, vs, σ₂, le₂, R₂, rv, q₂⟩ := p
  exact ⟨g₂, a :: vs, σ₂, le₁.trans le₂, R₂, .cons (VR.mono le₂ a ra) rv, q₂⟩

noncomputable def lstW (l : List V) : W V := fun Q σ => l.length ≤ sizeLine ∧ Q (.lst l) σ
noncomputable def tupW (l : List V) : W V := fun Q σ => l.length ≤ sizeLine ∧ Q (.tup l) σ
noncomputable def refW (l : List V) : W V := fun Q σ => l.length ≤ sizeLine ∧ Q (.ref σ.objs.length) { σ with objs := σ.objs ++ [.list l] }
theorem r_List {es : List Expr} {pos : Pos} {f : W (List V)} (he : SEs κ es f) : SE κ (.List es pos) (bnd f lstW) := fun Φ ok g σ s Q R q => by
  refine List_ (wpAny_mono (he Φ ok pos g σ s _ R q) (fun x s₁ p => ?_) fun _ _ e => e)
  obtain ⟨g₁, vs, σ₁, le₁, R₁, rv, q₁⟩ := p
  exact wPE le₁ (mk_lst ok R₁ rv q₁.1 q₁.2)
theorem r_ListT {es : List Expr} {pos : Pos} {f : W (List V)} (he : SEs κ es f) : SE κ (.List es pos) (bnd f refW) := fun Φ ok g σ s Q R q => by
  refine List_ (wpAny_mono (he Φ ok pos g σ s _ R q) (fun x s₁ p => ?_) fun _ _ e => e)
  obtain ⟨g₁, vs, σ₁, le₁, R₁, rv, q₁⟩ := p
  exact wPE le₁ (mk_ref ok R₁ rv q₁.1 q₁.2)
theorem r_Tuple {es : List Expr} {k : Nat} {pos : Pos} {f : W (List V)} (he : SEs κ es f) : SE κ (.Tuple es k pos) (bnd f tupW) := fun Φ ok g σ s Q R q => by
  refine Tuple_ (wpAny_mono (he Φ ok pos g σ s _ R q) (fun x s₁ p => ?_) fun _ _ e => e)
  obtain ⟨g₁, vs, σ₁, le₁, R₁, rv, q₁⟩ := p
  exact wPE le₁ (mk_tup ok R₁ rv q₁.1 q₁.2)

/-! ## Statements -/
theorem b_nil : SB κ [] (ret .next) := fun Φ ok g σ s Q R h => wpAny_execs_nil ⟨g, .next, σ, .refl g, R, by simp only [FlR], h⟩
noncomputable def seqF (f h : W Fl) : W Fl := fun Q => f fun fl σ => match fl with
  | .next => h Q σ
  | fl => Q fl σ
theorem b_cons {st : Stmt} {rest : List Stmt} {f h : W Fl} (hs : SS κ st f) (hr : SB κ rest h) : SB κ (st :: rest) (seqF f h) := fun Φ ok g σ s Q R q => by
  refine wpAny_execs_cons (wpAny_mono (hs Φ ok g σ s _ R q) (fun x s₁ p => ?_) fun _ _ e => e)
  obtain ⟨g₁, fl, σ₁, le₁, R₁, rf, q₁⟩ := p
  cases fl with
  | next => simp only [FlR] at rf; subst rf; exact wPF le₁ (hr Φ ok g₁ σ₁ s₁ _ R₁ q₁)
  | brk => simp only [FlR] at rf; subst rf; exact ⟨g₁, .brk, σ₁, le₁, R₁, by simp only [FlR], q₁⟩
  | cont => simp only [FlR] at rf; subst rf; exact ⟨g₁, .cont, σ₁, le₁, R₁, by simp only [FlR], q₁⟩
  | ret v => simp only [FlR] at rf; obtain ⟨x, rfl, rv⟩ := rf; exact ⟨g₁, .ret v, σ₁, le₁, R₁, by simp only [FlR]; exact ⟨x, rfl, rv⟩, q₁⟩
theorem s_Return {e : Expr} {pos : Pos} {f : W V} (he : SE κ e f) : SS κ (.Return (some e) pos) (bnd f fun v => ret (.ret v)) := fun Φ ok g σ s Q R q => by
  refine wpAny_Return_some (wpAny_mono (he Φ ok g σ s _ R q) (fun x s₁ p => ?_) fun _ _ e => e)
  obtain ⟨g₁, a, σ₁, le₁, R₁, ra, q₁⟩ := p
  exact ⟨g₁, .ret a, σ₁, le₁, R₁, by simp only [FlR]; exact ⟨x, rfl, ra⟩, q₁⟩
theorem s_If {t : Expr} {b o : List Stmt} {pos : Pos} {ft : W Bool} {fb fo : W Fl} (ht : ST κ t ft) (hb : SB κ b fb) (ho : SB κ o fo) : SS κ (.If t b o pos) (bnd ft fun c => if c then fb else fo) := fun Φ ok g σ s Q R q => by
  refine wpAny_If (wpAny_mono (ht Φ ok g σ s _ R q) (fun c s₁ p => ?_) fun _ _ e => e)
  obtain ⟨g₁, σ₁, le₁, R₁, q₁⟩ := p
  cases c with
  | true => exact wPF le₁ (hb Φ ok g₁ σ₁ s₁ _ R₁ q₁)
  | false => exact wPF le₁ (ho Φ ok g₁ σ₁ s₁ _ R₁ q₁)
theorem s_Expr {e : Expr} {pos : Pos} {f : W V} (he : SE κ e f) (hs : ∀ env, swapsWith e none pos.line env = pure false := by intro _; rfl) : SS κ (.Expr e pos) (bnd f fun _ => ret .next) := fun Φ ok g σ s Q R q => by
  refine wpAny_Expr_any (wpAny_mono (he Φ ok g σ s _ R q) (fun x s₁ p => ?_) fun _ _ e => e) (by simp [interactive, ok.kind]) (hs _)
  obtain ⟨g₁, a, σ₁, le₁, R₁, ra, q₁⟩ := p
  exact ⟨g₁, .next, σ₁, le₁, R₁, by simp only [FlR], q₁⟩
theorem a_Name {x : Str} {k : Nat} {pos : Pos} (hx : stl κ x k = true) : SA κ (.Name x pos) (fun v => setv k v) := fun Φ ok g σ s Q v x R rv q => wpAny_assign_Name (storev ok R hx rv q)
theorem s_Assign {x : Str} {k : Nat} {e : Expr} {p pos : Pos} {f : W V} (he : SE κ e f) (hx : stl κ x k = true) (hs : ∀ env, swapsWith e (some (.Name x p)) pos.line env = pure false := by intro _; rfl) :
    SS κ (.Assign [.Name x p] e pos) (bnd f fun v => bnd (setv k v) fun _ => ret .next) := fun Φ ok g σ s Q R q => by
  refine wpAny_Assign_Name (wpAny_mono (he Φ ok g σ s _ R q) (fun x s₁ p => ?_) fun _ _ e => e) (hs _)
  obtain ⟨g₁, a, σ₁, le₁, R₁, ra, q₁⟩ := p
  refine wpAny_mono (storev ok R₁ hx ra q₁) (fun _ s₂ p => ?_) fun _ _ e => e
  obtain ⟨g₂, σ₂, le₂, R₂, q₂⟩ := p
  exact ⟨g₂, .next, σ₂, le₁.trans le₂, R₂, by simp only [FlR], q₂⟩
end
end Mine

open PySem PySem.W PyProof.Rows PySem.Calls
set_option Elab.async false
set_option maxRecDepth 100000
set_option linter.unusedVariables false

namespace Mine

/-! ## Calls of the text's own defs -/

noncomputable def CallPost (κ : Kap) (Φ : Ctx) (g : G) (σ : St) (Q : V → List O → Prop) (r : Result) (s' : Shared) : Prop := match r with
  | .ok (.ret x) => ∃ g' v objs', g.le g' ∧ Rel κ Φ g' { σ with objs := objs' } s' ∧ VR g' v x ∧ Q v objs'
  | _ => False

noncomputable abbrev Spec := List V → List V → List O → (V → List O → Prop) → Prop

/-- the call of a def by so many plain arguments and these keywords keeps its word -/
noncomputable def FnOK (P : Prg) (D : Nat) (f : Addr) (n : Nat) (kws : List Str) (spec : Spec) : Prop :=
  ∀ (κ : Kap) (Φ : Ctx) (A : Around), κ.P = P → D < κ.D → Ctx.Ok κ Φ → A.handled = none → A.depth ≤ Φ.A.depth + 1 → A.units ≤ Φ.A.units + 10 → A.frames = Φ.A.frames →
    ∀ g σ s vs xs kvs kxs Q, Rel κ Φ g σ s → VRs g vs xs → VRs g kvs kxs → vs.length = n → kvs.length = kws.length → spec vs kvs σ.objs Q →
      codeAny (model P.prog Φ.w) A (.call (.ref f) ⟨xs, kws.zip kxs⟩) (CallPost κ Φ g σ Q) s

noncomputable def initLoc (vars ps : List Str) (fv : List V) : List (Option V) := vars.map fun x => (ps.zip fv).lookup x

set_option tactic.hygienic true in
theorem slot_get : ∀ {vars : List Str} {x : Str} {k : Nat}, slot vars x = some k → vars[k]? = some x
  | [], _, _, h => by cases h
  | y :: ys, x, k, h => by
    simp only [slot] at h
    split at h
    · rename_i e; cases h; simp [beq_iff_eq.mp e]
    · cases q : slot ys x with
      | none => rw [q] at h; cases h
      | some j => rw [q] at h; simp at h; subst h; simpa using slot_get q
theorem lget_map : ∀ {vars : List Str} {f : Str → Option V} {k : Nat} {x : Str}, vars[k]? = some x → lget (vars.map f) k = f x
  | [], _, _, _, h => by simp at h
  | y :: ys, f, 0, x, h => by simp at h; subst h; rfl
  | y :: ys, f, k + 1, x, h => by simp at h; exact lget_map (vars := ys) h

theorem bindL_of {kindOf : Str → Option NameKind} {x : Str} {val : Value} (hk : kindOf x = some .local) : ∀ {binds : List (Str × Value)} {m : Str → Option Value}, (binds.map (·.1)).Nodup → (x, val) ∈ binds → bindL kindOf binds m x = some val
  | (n, v) :: r, m, nd, hm => by
    rw [List.map_cons, List.nodup_cons] at nd
    unfold bindL
    have keep : ∀ (r : List (Str × Value)) (m : Str → Option Value), x ∉ r.map (·.1) → bindL kindOf r m x = m x := fun r => by
      induction r with
      | nil => intro m _; rfl
      | cons p r ih =>
        intro m hx
        obtain ⟨n, v⟩ := p
        simp only [List.map_cons, List.mem_cons, not_or] at hx
        unfold bindL
        rw [ih _ hx.2]
        split
        · exact if_neg hx.1
        · rfl
    rcases List.mem_cons.mp hm with e | hm
    · cases e
      rw [keep _ _ nd.1, if_pos hk]; simp
    · exact bindL_of hk nd.2 hm
theorem bindC_of {kindOf : Str → Option NameKind} {x : Str} {val : Value} (hk : kindOf x ≠ some .local) : ∀ {binds : List (Str × Value)} {m : Str → Option Value}, (binds.map (·.1)).Nodup → (x, val) ∈ binds → bindC kindOf binds m x = some val
  | (n, v) :: r, m, nd, hm => by
    rw [List.map_cons, List.nodup_cons] at nd
    unfold bindC
    have keep : ∀ (r : List (Str × Value)) (m : Str → Option Value), x ∉ r.map (·.1) → bindC kindOf r m x = m x := fun r => by
      induction r with
      | nil => intro m _; rfl
      | cons p r ih =>
        intro m hx
        obtain ⟨n, v⟩ := p
        simp only [List.map_cons, List.mem_cons, not_or] at hx
        unfold bindC
        rw [ih _ hx.2]
        split
        · rfl
        · exact if_neg hx.1
    rcases List.mem_cons.mp hm with e | hm
    · cases e
      rw [keep _ _ nd.1, if_neg hk]; simp
    · exact bindC_of hk nd.2 hm

set_option tactic.hygienic true in
theorem lookup_mem {α : Type} : ∀ {l : List (Str × α)} {x : Str} {v : α}, l.lookup x = some v → (x, v) ∈ l
  | (k, v) :: l, a, b, h => by
    rw [List.lookup_cons] at h
    split at h
    · rename_i e; cases h; rw [beq_iff_eq.mp e]; exact .head _
    · exact .tail _ (lookup_mem h)
set_option tactic.hygienic true in
theorem zip_rel {g : G} : ∀ {ps : List Str} {vs : List V} {xs : List Value} {x : Str} {v : V}, VRs g vs xs → (ps.zip vs).lookup x = some v → ∃ val, (x, val) ∈ ps.zip xs ∧ VR g v val
  | [], _, _, _, _, _, h => by simp at h
  | _ :: _, [], _, _, _, _, h => by simp at h
  | p :: ps, u :: vs, xs, x, v, r, h => by
    simp only [VRs] at r
    obtain ⟨y, ys, rfl, a, b⟩ := r
    rw [List.zip_cons_cons, List.lookup_cons] at h
    split at h
    · rename_i e; cases h; rw [beq_iff_eq.mp e]; exact ⟨y, .head _, a⟩
    · obtain ⟨val, h1, h2⟩ := zip_rel b h
      exact ⟨val, .tail _ h1, h2⟩

/-- what a nested frame may write of its caller: the caller's own table, and the outer ones -/
noncomputable def Ctx.hid (Φ : Ctx) : List Addr := Φ.env.locals :: Φ.cw.filter fun a => (Φ.outs.lookup a).isSome
noncomputable def Ctx.own (Φ : Ctx) : List Addr := Φ.cw.filter fun a => (Φ.outs.lookup a).isNone

/-- into a nested frame: the caller's relation gives the callee's -/
structure Enters (κ : Kap) (Φ : Ctx) (g : G) (s : Shared) (Φ' : Ctx) (ex : List Addr) : Prop where
  exOk : ∀ b ∈ ex, ¬ Known Φ g b
  w : Φ'.w = Φ.w
  h₀ : Φ'.h₀ = hideAll s.heap (ex ++ (Φ.hid ++ g.tr))
  os : Φ'.os = Φ.os
  pins : Φ'.pins = []
  forb : Φ'.forb = Φ.own ++ (Φ.pins.map (·.1) ++ Φ.forb)
  cw : ∀ a ∈ Φ.hid, a ∈ Φ'.cw
  outs : ∃ oL, s.heap.get? Φ.env.locals = some oL ∧ Φ'.outs = (Φ.env.locals, oL) :: Φ.outs

section
variable {κ κ' : Kap} {Φ Φ' : Ctx} {g g' : G} {σ σ' : St} {s s' : Shared} {ex : List Addr}

theorem tr_not (R : Rel κ Φ g σ s) {b : Addr} (hb : b ∈ Φ.env.locals :: Φ.cw) : b ∉ g.tr := fun h =>
  (List.nodup_append.mp (show ((Φ.env.locals :: Φ.cw) ++ g.tr).Nodup from R.nodup)).2.2 b hb b h rfl
theorem tr_mut {b : Addr} (hb : b ∈ g.tr) : b ∈ Φ.muts g := .tail _ (List.mem_append_right _ hb)
theorem lc_mut {b : Addr} (hb : b ∈ Φ.env.locals :: Φ.cw) : b ∈ Φ.muts g := by
  rcases List.mem_cons.mp hb with rfl | h
  · exact .head _
  · exact .tail _ (List.mem_append_left _ h)
theorem hid_lc {b : Addr} (hb : b ∈ Φ.hid) : b ∈ Φ.env.locals :: Φ.cw := by
  rcases List.mem_cons.mp hb with rfl | h
  · exact .head _
  · exact .tail _ (List.mem_filter.mp h).1
theorem loc_cw (R : Rel κ Φ g σ s) : Φ.env.locals ∉ Φ.cw := fun h => (List.nodup_cons.mp (show (Φ.env.locals :: (Φ.cw ++ g.tr)).Nodup from R.nodup)).1 (List.mem_append_left _ h)
theorem own_hid (R : Rel κ Φ g σ s) {b : Addr} (hb : b ∈ Φ.own) : b ∉ Φ.hid := fun h => by
  obtain ⟨h1, h2⟩ := List.mem_filter.mp hb
  rcases List.mem_cons.mp h with rfl | h
  · exact loc_cw R h1
  · have := (List.mem_filter.mp h).2
    rw [Option.isNone_iff_eq_none] at h2
    rw [h2] at this; cases this
theorem lc_split {b : Addr} (hb : b ∈ Φ.env.locals :: Φ.cw) : b ∈ Φ.hid ∨ b ∈ Φ.own := by
  rcases List.mem_cons.mp hb with rfl | h
  · exact .inl (.head _)
  · cases q : Φ.outs.lookup b with
    | some o => exact .inl (.tail _ (List.mem_filter.mpr ⟨h, by rw [q]; rfl⟩))
    | none => exact .inr (List.mem_filter.mpr ⟨h, by rw [q]; rfl⟩)
theorem h0_hid (R : Rel κ Φ g σ s) {b : Addr} (hb : (Φ.h₀.get? b).isSome = true) : b ∉ Φ.hid := fun h => by
  rw [(R.muts b (lc_mut (hid_lc h))).1] at hb; cases hb
theorem pin_hid (R : Rel κ Φ g σ s) {p : Addr × Obj} (hp : p ∈ Φ.pins) : p.1 ∉ Φ.hid := fun h => (R.muts _ (lc_mut (hid_lc h))).2.2 p hp rfl
theorem fz_hid (R : Rel κ Φ g σ s) {p : Addr × Obj} (hp : p ∈ g.fz) : p.1 ∉ Φ.hid := fun h => (R.muts _ (lc_mut (hid_lc h))).2.1 p hp rfl
theorem tr_hid (R : Rel κ Φ g σ s) {b : Addr} (hb : b ∈ Φ.hid) : b ∉ g.tr := tr_not R (hid_lc hb)
theorem hid_nodup (R : Rel κ Φ g σ s) : (Φ.hid ++ g.tr).Nodup := by
  have nd0 := List.nodup_append.mp (show ((Φ.env.locals :: Φ.cw) ++ g.tr).Nodup from R.nodup)
  refine List.nodup_append.mpr ⟨?_, nd0.2.1, fun a ha b hb e => tr_hid R ha (e ▸ hb)⟩
  have nd1 := List.nodup_cons.mp nd0.1
  exact List.nodup_cons.mpr ⟨fun h => nd1.1 (List.mem_filter.mp h).1, nd1.2.filter _⟩
/-- a cell of a name is no outer table -/
theorem cell_hid (R : Rel κ Φ g σ s) {c : Addr} {v : Option Value} (hc : c ∈ Φ.cw ∨ (Φ.h₀.get? c).isSome = true) (hi : s.heap.IsCell c v) : c ∉ Φ.hid := fun h => by
  rcases hc with hc | hc
  · obtain ⟨u, oc, hoc, hd⟩ := R.cells c hc
    obtain ⟨o, ho, hdo⟩ := hi
    rw [hoc] at ho; cases ho
    rcases List.mem_cons.mp h with rfl | h
    · exact loc_cw R hc
    · obtain ⟨o, q⟩ := Option.isSome_iff_exists.mp (List.mem_filter.mp h).2
      unfold OutOK at hd
      rw [q] at hd
      obtain ⟨_, es, ep, e⟩ := hd
      rw [hdo] at e; cases e
  · exact h0_hid R hc h

theorem Enters.notex (E : Enters κ Φ g s Φ' ex) {b : Addr} (k : Known Φ g b) (hb : b ∉ g.tr) (hh : b ∉ Φ.hid) : b ∉ ex ++ (Φ.hid ++ g.tr) := fun h => by
  rcases List.mem_append.mp h with h | h
  · exact E.exOk b h k
  · rcases List.mem_append.mp h with h | h
    · exact hh h
    · exact hb h
theorem out_cons {L a : Addr} {oL : Obj} (h : Φ'.outs = (L, oL) :: Φ.outs) (hne : a ≠ L) : Φ'.outs.lookup a = Φ.outs.lookup a := by
  rw [h, List.lookup_cons]
  have : (a == L) = false := beq_eq_false_iff_ne.mpr hne
  rw [this]
theorem out_self {L : Addr} {oL : Obj} (h : Φ'.outs = (L, oL) :: Φ.outs) : Φ'.outs.lookup L = some oL := by
  rw [h, List.lookup_cons]; simp
set_option tactic.hygienic true in
theorem Enters.back (E : Enters κ Φ g s Φ' ex) (R : Rel κ Φ g σ s) (le : g.le g') (R' : Rel κ' Φ' g' σ' s') : Rel κ Φ g' { σ with objs := σ'.objs } s' := by
  have keep : ∀ b o, Known Φ g b → s.heap.get? b = some o → b ∉ g.tr → b ∉ Φ.hid → s'.heap.get? b = some o := fun b o k e hb hh => R'.keep b o (by rw [E.h₀]; exact hideAll_get _ e (E.notex k hb hh))
  have h0no : ∀ b o, Φ.h₀.get? b = some o → b ∉ g.tr := fun b o e hb => by rw [(R.muts b (tr_mut hb)).1] at e; cases e
  have inH : ∀ b o, Known Φ g b → s.heap.get? b = some o → b ∉ g.tr → b ∉ Φ.hid → (Φ'.h₀.get? b).isSome = true := fun b o k e hb hh => by rw [E.h₀, hideAll_get _ e (E.notex k hb hh)]; rfl
  obtain ⟨m, ⟨oL, es, ep, hoL, rL⟩, lr⟩ := R.ns
  obtain ⟨oL', hoL', hout⟩ := E.outs
  rw [hoL] at hoL'; cases hoL'
  have hfC : ∀ c ∈ Φ.own, c ∈ Φ'.forb := fun c hc => by rw [E.forb]; exact List.mem_append_left _ hc
  have hfP : ∀ p ∈ Φ.pins, p.1 ∈ Φ'.forb := fun p hp => by rw [E.forb]; exact List.mem_append_right _ (List.mem_append_left _ (List.mem_map_of_mem hp))
  have hfF : ∀ a ∈ Φ.forb, a ∈ Φ'.forb := fun a ha => by rw [E.forb]; exact List.mem_append_right _ (List.mem_append_right _ ha)
  have trNo : ∀ a ∈ g'.tr, ∀ b, (Φ'.h₀.get? b).isSome = true → b ≠ a := fun a ha b hb e => by rw [e, (R'.muts a (tr_mut ha)).1] at hb; cases hb
  have hids : ∀ a ∈ Φ.hid, a ∈ Φ'.env.locals :: Φ'.cw := fun a ha => .tail _ (E.cw a ha)
  refine ⟨⟨m, ?_, fun x k v hs hl => ?_⟩, fun c hc => ?_, fun b o e => keep b o (.inr (.inr (.inr (by rw [e]; rfl)))) (R.keep b o e) (h0no b o e) (h0_hid R (by rw [e]; rfl)), R'.fz, fun p hp => keep _ _ (.inr (.inr (.inl ⟨p, hp, rfl⟩))) (R.pins p hp) (fun h => (R.muts _ (tr_mut h)).2.2 p hp rfl) (pin_hid R hp), ?_, fun a ha => ?_, ?_,
    fun p hp => ⟨(R.pinsOk p hp).1, fun q hq => (R'.forb _ (hfP p hp)).2 q hq⟩, R.cellsOk, R'.gens, R'.os.trans E.os, fun a ha => ⟨(R.forb a ha).1, (R'.forb a (hfF a ha)).2⟩⟩
  · obtain ⟨v, oc, hoc, hd⟩ := R'.cells _ (E.cw _ (.head _))
    unfold OutOK at hd
    rw [out_self hout] at hd
    obtain ⟨⟨sl, rfl⟩, _⟩ := hd
    exact ⟨_, es, ep, hoc, rL⟩
  · have := lr x k v hs hl
    split at this
    · obtain ⟨val, h1, h2⟩ := this; exact ⟨val, h1, VR.mono le v h2⟩
    · rename_i hc
      obtain ⟨c, val, h1, ⟨oc, hoc, hd⟩, h3⟩ := this
      have kc : Known Φ g c := by
        rcases R.cellsOk x c hc h1 with h | h
        · exact .inl (.tail _ (List.mem_append_left _ h))
        · exact .inr (.inr (.inr h))
      refine ⟨c, val, h1, ⟨oc, keep _ _ kc hoc ?_ (cell_hid R (R.cellsOk x c hc h1) ⟨oc, hoc, hd⟩), hd⟩, VR.mono le v h3⟩
      rcases R.cellsOk x c hc h1 with h | h
      · exact tr_not R (.tail _ h)
      · obtain ⟨o, ho⟩ := Option.isSome_iff_exists.mp h; exact h0no c o ho
    · trivial
  · rcases lc_split (show c ∈ Φ.env.locals :: Φ.cw from .tail _ hc) with hh | hh
    · obtain ⟨v, oc, hoc, hd⟩ := R'.cells c (E.cw c hh)
      refine ⟨v, oc, hoc, ?_⟩
      unfold OutOK at hd ⊢
      rw [out_cons hout fun e => loc_cw R (e ▸ hc)] at hd
      exact hd
    · obtain ⟨v, oc, hoc, hd⟩ := R.cells c hc
      exact ⟨v, oc, keep _ _ (.inl (.tail _ (List.mem_append_left _ hc))) hoc (tr_not R (.tail _ hc)) (own_hid R hh), hd⟩
  · have := R'.tr; rw [E.w] at this; exact this
  · have hmem : a ∈ Φ.env.locals :: Φ.cw ∨ a ∈ g'.tr := by
      rcases List.mem_cons.mp ha with rfl | ha
      · exact .inl (.head _)
      · rcases List.mem_append.mp ha with ha | ha
        · exact .inl (.tail _ ha)
        · exact .inr ha
    rcases hmem with h | h
    · refine ⟨(R.muts a (lc_mut h)).1, fun p hp => ?_, (R.muts a (lc_mut h)).2.2⟩
      rcases lc_split h with hh | hh
      · exact (R'.muts a (lc_mut (hids a hh))).2.1 p hp
      · exact (R'.forb a (hfC a hh)).2 p hp
    · refine ⟨?_, (R'.muts a (tr_mut h)).2.1, fun p hp => trNo a h _ (inH _ _ (.inr (.inr (.inl ⟨p, hp, rfl⟩))) (R.pins p hp) (fun q => (R.muts _ (tr_mut q)).2.2 p hp rfl) (pin_hid R hp))⟩
      cases q : Φ.h₀.get? a with
      | none => rfl
      | some o => exact absurd rfl (trNo a h a (inH a o (.inr (.inr (.inr (by rw [q]; rfl)))) (R.keep a o q) (h0no a o q) (h0_hid R (by rw [q]; rfl))))
  · show ((Φ.env.locals :: Φ.cw) ++ g'.tr).Nodup
    refine List.nodup_append.mpr ⟨(List.nodup_append.mp (show ((Φ.env.locals :: Φ.cw) ++ g.tr).Nodup from R.nodup)).1, (List.nodup_append.mp (show ((Φ'.env.locals :: Φ'.cw) ++ g'.tr).Nodup from R'.nodup)).2.1, fun a ha b hb e => ?_⟩
    rcases lc_split ha with hh | hh
    · exact tr_not R' (hids a hh) (e ▸ hb)
    · have ka : Known Φ g a := .inl (lc_mut ha)
      obtain ⟨o, ho⟩ := R.known ka
      exact trNo b hb a (inH a o ka ho (tr_not R ha) (own_hid R hh)) e
theorem Enters.known (E : Enters κ Φ g s Φ' ex) (R : Rel κ Φ g σ s) {b : Addr} (k : Known Φ g' b) : b ∈ g'.tr ∨ (∃ p ∈ g'.fz, p.1 = b) ∨ (Φ'.h₀.get? b).isSome = true ∨ b ∈ Φ'.cw := by
  have inH : ∀ b, Known Φ g b → b ∉ g.tr → b ∉ Φ.hid → (Φ'.h₀.get? b).isSome = true := fun b k hb hh => by
    obtain ⟨o, e⟩ := R.known k
    rw [E.h₀, hideAll_get _ e (E.notex k hb hh)]; rfl
  have lc : b ∈ Φ.env.locals :: Φ.cw → (Φ'.h₀.get? b).isSome = true ∨ b ∈ Φ'.cw := fun h => by
    rcases lc_split h with hh | hh
    · exact .inr (E.cw b hh)
    · exact .inl (inH b (.inl (lc_mut h)) (tr_not R h) (own_hid R hh))
  rcases k with k | k | ⟨p, hp, rfl⟩ | k
  · rcases List.mem_cons.mp k with rfl | k
    · exact .inr (.inr (lc (.head _)))
    · rcases List.mem_append.mp k with k | k
      · exact .inr (.inr (lc (.tail _ k)))
      · exact .inl k
  · exact .inr (.inl k)
  · exact .inr (.inr (.inl (inH _ (.inr (.inr (.inl ⟨p, hp, rfl⟩))) (fun q => (R.muts _ (tr_mut q)).2.2 p hp rfl) (pin_hid R hp))))
  · exact .inr (.inr (.inl (inH _ (.inr (.inr (.inr k))) (fun q => by rw [(R.muts b (tr_mut q)).1] at k; cases k) (h0_hid R k))))
end


noncomputable def retQ (Q : V → List O → Prop) (fl : Fl) (σ : St) : Prop := match fl with
  | .ret v => Q v σ.objs
  | _ => Q .none σ.objs

/-- static facts of a def of the text -/
structure FnIs (P : Prg) (f : Addr) (fd : FuncData) (body : List Stmt) (vars ps : List Str) : Prop where
  at_ : ∀ q, ∃ oc od osl, (P.K q).lookup f = some ⟨oc, od, .func fd, osl⟩
  code : ∀ q, codeIn (P.K q) fd.code fd.qualname = true
  body_ : fd.body = .stmts body
  clo : fd.closure = []
  glo : fd.globals = mainGlobals
  bui : fd.builtins = builtinsNs
  co : fd.scope.isCoroutine = false
  gen : fd.scope.isGenerator = false
  kind : fd.scope.kind = .function
  psOk : ∀ x ∈ ps, fd.scope.names.lookup x = some .local ∨ fd.scope.names.lookup x = some .cell
  psNd : ps.Nodup
  cellNd : ((cellsFrom 0 fd.scope.names []).map (·.1)).Nodup

set_option tactic.hygienic true in
theorem cellsFrom_mem : ∀ (names : List (Str × NameKind)) (n : Nat) (acc : List (Str × Addr)) (x : Str), ((x, NameKind.cell) ∈ names ∨ x ∈ acc.map (·.1)) → x ∈ (cellsFrom n names acc).map (·.1)
  | [], _, _, _, h => h.elim (fun h => nomatch h) id
  | (y, k) :: r, n, acc, x, h => by
    unfold cellsFrom
    split
    · rename_i hk
      refine cellsFrom_mem r _ _ x ?_
      rcases h with h | h
      · rcases List.mem_cons.mp h with e | h
        · cases e; exact .inr (.head _)
        · exact .inl h
      · exact .inr (.tail _ h)
    · rename_i hk
      refine cellsFrom_mem r _ _ x ?_
      rcases h with h | h
      · rcases List.mem_cons.mp h with e | h
        · cases e; exact absurd rfl hk
        · exact .inl h
      · exact .inr h
set_option tactic.hygienic true in
theorem lookup_isSome_of_mem {α : Type} : ∀ {l : List (Str × α)} {x : Str}, x ∈ l.map (·.1) → (l.lookup x).isSome = true
  | (k, v) :: l, x, h => by
    rw [List.lookup_cons]
    split
    · rfl
    · rename_i e
      rcases List.mem_cons.mp h with q | q
      · rw [q] at e; simp at e
      · exact lookup_isSome_of_mem q

set_option tactic.hygienic true in
theorem lookup_memA {α : Type} : ∀ {l : List (Addr × α)} {x : Addr} {v : α}, l.lookup x = some v → (x, v) ∈ l
  | [], _, _, h => by cases h
  | (k, u) :: l, x, v, h => by
    rw [List.lookup_cons] at h
    split at h
    · rename_i e
      rw [beq_iff_eq] at e
      cases h; rw [e]; exact .head _
    · exact .tail _ (lookup_memA h)
set_option tactic.hygienic true in
theorem lookup_none_not {α : Type} : ∀ {l : List (Addr × α)} {p : Addr × α}, l.lookup p.1 = none → p ∉ l
  | [], _, _ => by simp
  | q :: l, p, h => by
    rw [List.lookup_cons] at h
    split at h
    · cases h
    · rename_i e
      intro hm
      rcases List.mem_cons.mp hm with rfl | hm
      · simp at e
      · exact lookup_none_not h hm

theorem zip_nodup {α : Type} : ∀ {ps : List Str} {fx : List α}, ps.Nodup → ((ps.zip fx).map (·.1)).Nodup
  | [], _, _ => by simp
  | _ :: _, [], _ => by simp
  | p :: ps, x :: fx, h => by
    rw [List.nodup_cons] at h
    rw [List.zip_cons_cons, List.map_cons, List.nodup_cons]
    refine ⟨fun q => h.1 ?_, zip_nodup h.2⟩
    obtain ⟨y, hy, e⟩ := List.mem_map.mp q
    rw [← (show y.1 = p from e)]; exact (List.of_mem_zip hy).1

/-! ## A call, its parameters bound in any way -/
theorem fn_enter {P : Prg} {D : Nat} {f : Addr} {fd : FuncData} {body : List Stmt} {vars ps : List Str} (I : FnIs P f fd body vars ps) {κ : Kap} {Φ : Ctx} {A : Around} (hP : κ.P = P) (hD : D < κ.D) (ok : Ctx.Ok κ Φ) (hA : A.handled = none)
    (hdep : A.depth ≤ Φ.A.depth + 1) (hun : A.units ≤ Φ.A.units + 10) (hfr : A.frames = Φ.A.frames) {g : G} {σ : St} {s : Shared} (R : Rel κ Φ g σ s) {args : Args} {RR : Result → Shared → Prop}
    (hbind : wpAny (model P.prog Φ.w) A.in1 (bindArgs fd args) (fun binds s₂ => ∃ g₂ objs₂ fx full, g.le g₂ ∧ Rel κ Φ g₂ { σ with objs := objs₂ } s₂ ∧ binds = ps.zip fx ∧ VRs g₂ full fx ∧
      ∀ (Φ' : Ctx) s₃, Ctx.Ok ⟨P, fd.scope.names, vars, D, true⟩ Φ' → Φ'.w = Φ.w → Φ'.A = A.deeper Φ'.env → Φ'.env.func = some f → Φ'.env.frame = some Φ'.env.locals → Rel ⟨P, fd.scope.names, vars, D, true⟩ Φ' g₂ ⟨initLoc vars ps full, objs₂⟩ s₃ →
        (∀ g₁ σ₁ s₁, g₂.le g₁ → Rel ⟨P, fd.scope.names, vars, D, true⟩ Φ' g₁ σ₁ s₁ → Rel κ Φ g₁ { σ with objs := σ₁.objs } s₁) → (∀ g₁ b, Known Φ g₁ b → Known Φ' g₁ b) →
        wpAny (model P.prog Φ.w) Φ'.A (execs body Φ'.env) (fun fl s₁ => RR (.ok (.ret (match fl with | .ret v => v | _ => .none))) s₁)
          (fun e s₁ => wpAny (model P.prog Φ.w) Φ'.A (leaving Φ'.env e) (fun _ s₂ => RR (.error e) s₂) (fun e' s₂ => RR (.error e') s₂) s₁) s₃) (fun e s' => RR (.error e) s') s) :
    codeAny (model P.prog Φ.w) A (.call (.ref f) args) RR s := by
  subst hP
  have X : (κ.P.K Φ.w.params).In s.heap := fun a o e => R.keep a o (ok.KIn a o e)
  obtain ⟨oc, od, osl, hlook⟩ := I.at_ Φ.w.params
  refine codeAny_call_function (by have := ok.depth; omega) (X _ _ hlook) rfl I.co I.gen I.body_ (codeRec_of X (I.code _)) (wpAny_mono hbind (fun binds s₂ hb => ?_) fun _ _ e => e)
  obtain ⟨g₂, objs₂, fx, full, le₂, R₂, rfl, rfull, hgo⟩ := hb
  have hpsz : ∀ y ∈ ps.zip fx, y.1 ∈ ps := fun y hy => (List.of_mem_zip hy).1
  have hznd : ((ps.zip fx).map (·.1)).Nodup := zip_nodup I.psNd
  have hLN := ok.nolim.keeps R₂.keep
  rw [I.clo]
  have cellLook : ∀ m x, fd.scope.names.lookup x = some .cell → ((cellsFrom m fd.scope.names []).lookup x).isSome = true := fun m x hx =>
    lookup_isSome_of_mem (cellsFrom_mem _ _ _ x (.inl (lookup_mem hx)))
  refine wpAny_newFunctionEnv_cells I.kind (fun y hy => ?_) fun env he s₁ ic => ?_
  · rcases I.psOk _ (hpsz y hy) with h | h
    · exact .inl h
    · exact .inr ⟨h, cellLook _ _ h⟩
  subst he
  obtain ⟨h₁, tk, rfl, hkeep⟩ := ic.done
  refine ⟨hLN.keeps hkeep, codeAny_func ?_⟩
  let L := s₂.heap.objs.size
  let cells := cellsFrom (L + 1) fd.scope.names []
  let env : Env := newEnv fd.scope L fd.globals cells (fd.qualname ++ ".<locals>.") (some f) fd.code none fd.builtins
  obtain ⟨oL, esL, epL, hoL, hdL⟩ : ∃ oL es ep, s₂.heap.get? Φ.env.locals = some oL ∧ oL.data = .dict es ep := by
    obtain ⟨m, ⟨o, es, ep, ho, hd, _⟩, _⟩ := R₂.ns; exact ⟨o, es, ep, ho, hd⟩
  let Φ' : Ctx := { w := Φ.w, h₀ := hideAll s₂.heap (Φ.hid ++ g₂.tr), A := A.deeper env, env := env, cw := cells.map (·.2) ++ Φ.hid, pins := [], os := Φ.os, forb := Φ.own ++ (Φ.pins.map (·.1) ++ Φ.forb), outs := (Φ.env.locals, oL) :: Φ.outs }
  have EN : Enters κ Φ g₂ s₂ Φ' [] := ⟨fun _ h => (by cases h), rfl, rfl, rfl, rfl, rfl, fun a ha => List.mem_append_right _ ha, oL, hoL, rfl⟩
  have nd : (cells.map (·.1)).Nodup := cellsFrom_names fd.scope.names 0 (L + 1) [] [] rfl ▸ I.cellNd
  have lk : ∀ {x c}, (x, c) ∈ cells → cells.lookup x = some c := fun h => lookup_of_mem_nodup nd h
  have h0no : ∀ b o, Φ.h₀.get? b = some o → b ∉ g₂.tr := fun b o e hb => by rw [(R₂.muts b (tr_mut hb)).1] at e; cases e
  have notHT : ∀ {b}, b ∉ Φ.hid → b ∉ g₂.tr → b ∉ Φ.hid ++ g₂.tr := fun {b} h1 h2 h => (List.mem_append.mp h).elim h1 h2
  have keep0 : KeepsH Φ.h₀ Φ'.h₀ := fun b o e => hideAll_get _ (R₂.keep b o e) (notHT (h0_hid R₂ (by rw [e]; rfl)) (h0no b o e))
  have ltSize : ∀ {b}, Known Φ g₂ b → b < L := fun hb => by obtain ⟨o, ho⟩ := R₂.known hb; exact Heap.lt_size ho
  have newNone : ∀ b, L ≤ b → Φ'.h₀.get? b = none := fun b hb => by
    cases q : Φ'.h₀.get? b with
    | none => rfl
    | some o =>
      have h9 : b < s₂.heap.objs.size := Heap.lt_size (of_hideAll _ q)
      have h8 : s₂.heap.objs.size ≤ b := hb
      exact absurd h9 (Nat.not_lt.mpr h8)
  have aboveC : ∀ c ∈ cells.map (·.2), L < c := fun c hc => by
    obtain ⟨p, hp, rfl⟩ := List.mem_map.mp hc
    exact ic.above p.1 p.2 hp
  have outNone : ∀ c, L < c → Φ'.outs.lookup c = none := fun c hc => by
    cases q : Φ'.outs.lookup c with
    | none => rfl
    | some o =>
      have hlt : c < L := by
        rcases List.mem_cons.mp (lookup_memA (show List.lookup c ((Φ.env.locals, oL) :: Φ.outs) = some o from q)) with e | e
        · injection e with e1 e2
          rw [e1]; exact ltSize (.inl (.head _))
        · exact ltSize (.inl (lc_mut (.tail _ (ok.outsIn _ e))))
      exact absurd hc (Nat.lt_asymm hlt)
  have ok' : Ctx.Ok ⟨κ.P, fd.scope.names, vars, D, true⟩ Φ' := by
    refine ⟨fun x => rfl, I.kind, I.glo, I.bui, hA, fun a o e => keep0 a o (ok.KIn a o e), ok.nolim.keeps keep0, ?_, ?_, fun _ x hx => ?_, ?_, fun x y c hx hy => ?_, ?_, ?_, ?_⟩
    · obtain ⟨mg, mb, h1, h2, h3⟩ := ok.globs
      exact ⟨mg, mb, h1.keeps keep0, h2.keeps keep0, h3⟩
    · show A.depth + 1 + 2 * D < recursionLimit
      have := ok.depth; omega
    · obtain ⟨c, hc⟩ := Option.isSome_iff_exists.mp (cellLook (L + 1) x hx)
      have hcm : c ∈ cells.map (·.2) := List.mem_map.mpr ⟨(x, c), lookup_mem hc, rfl⟩
      exact ⟨c, hc, List.mem_append_left _ hcm, outNone c (aboveC c hcm)⟩
    · show (hideAll s₂.heap (Φ.hid ++ g₂.tr)).objs.size ≤ L
      rw [hideAll_size]; exact Nat.le_refl _
    · exact name_of_addr ic.apart (lookup_mem hx) (lookup_mem hy)
    · show A.units + 3 + 20 * D + 100 < cLine
      have := ok.units; omega
    · obtain ⟨l, hl, hfo, _⟩ := ok.frames
      refine ⟨env :: l, Around.frames_deeper (hfr.trans hl), fun e he => ?_, fun _ => ⟨rfl, l, rfl⟩⟩
      rcases List.mem_cons.mp he with rfl | he
      · exact ⟨by show fd.scope.kind ≠ _; rw [I.kind]; decide, L, rfl, .inl rfl⟩
      · obtain ⟨k, Lf, hf, hL⟩ := hfo e he
        refine ⟨k, Lf, hf, .inr ?_⟩
        rcases hL with rfl | ⟨h1, h2⟩
        · exact ⟨List.mem_append_right _ (.head _), by rw [out_self (Φ := Φ) (Φ' := Φ') rfl]; rfl⟩
        · refine ⟨List.mem_append_right _ (.tail _ (List.mem_filter.mpr ⟨h1, h2⟩)), ?_⟩
          rw [out_cons (Φ := Φ) (Φ' := Φ') rfl fun e => loc_cw R₂ (e ▸ h1)]; exact h2
    · intro p hp
      rcases List.mem_cons.mp hp with rfl | hp
      · exact List.mem_append_right _ (.head _)
      · have h1 := ok.outsIn p hp
        refine List.mem_append_right _ (.tail _ (List.mem_filter.mpr ⟨h1, ?_⟩))
        cases q : Φ.outs.lookup p.1 with
        | some o => rfl
        | none => exact absurd hp (lookup_none_not q)
  have R' : Rel ⟨κ.P, fd.scope.names, vars, D, true⟩ Φ' g₂ ⟨initLoc vars ps full, objs₂⟩ { s₂ with heap := h₁, toks := tk } := by
    refine ⟨⟨_, ic.toInCall.ns, fun x k v hsl hl => ?_⟩, fun c hc => ?_, fun b o e => hkeep b o (of_hideAll _ e), fun p hp => hkeep _ _ (R₂.fz p hp), fun p hp => (by cases hp), ⟨R₂.tr.1, fun i a o e1 e2 => ?_⟩, fun a ha => ?_, ?_, fun p hp => (by cases hp), fun x c hk hc => .inl (List.mem_append_left _ (List.mem_map.mpr ⟨(x, c), lookup_mem hc, rfl⟩)), R₂.gens, R₂.os, fun a ha => ?_⟩
    · have hl' : lget (vars.map fun x => (ps.zip full).lookup x) k = some v := hl
      rw [lget_map (slot_get hsl)] at hl'
      obtain ⟨val, hm, hr⟩ := zip_rel rfull hl'
      rcases I.psOk x (hpsz _ hm) with hkd | hkd
      · have hkd' : Φ'.env.kindOf x = some .local := hkd
        simp only [hkd']
        exact ⟨val, bindL_of hkd hznd hm, hr⟩
      · have hkd' : Φ'.env.kindOf x = some .cell := hkd
        simp only [hkd']
        obtain ⟨c, hc⟩ := Option.isSome_iff_exists.mp (cellLook (L + 1) x hkd)
        have := ic.cell x c hc
        rw [bindC_of (by rw [show (newEnv fd.scope s₂.heap.objs.size fd.globals (cellsFrom (s₂.heap.objs.size + 1) fd.scope.names []) (fd.qualname ++ Str.ofString ".<locals>.") (some f) fd.code none fd.builtins).kindOf x = some .cell from hkd]; decide) hznd hm] at this
        exact ⟨c, val, hc, this, hr⟩
    · rcases List.mem_append.mp hc with hc | hc
      · have habove := aboveC c hc
        obtain ⟨p, hp, rfl⟩ := List.mem_map.mp hc
        obtain ⟨oc, hoc, hd⟩ := ic.cell p.1 p.2 (lk hp)
        exact ⟨_, oc, hoc, by unfold OutOK; rw [outNone _ habove]; exact hd⟩
      · rcases List.mem_cons.mp hc with rfl | hc
        · exact ⟨none, oL, hkeep _ _ hoL, by unfold OutOK; rw [out_self (Φ := Φ) (Φ' := Φ') rfl]; exact ⟨⟨oL.slots, rfl⟩, esL, epL, hdL⟩⟩
        · obtain ⟨h1, h2⟩ := List.mem_filter.mp hc
          obtain ⟨v, oc, hoc, hd⟩ := R₂.cells c h1
          refine ⟨v, oc, hkeep _ _ hoc, ?_⟩
          unfold OutOK at hd ⊢
          rw [out_cons (Φ := Φ) (Φ' := Φ') rfl fun e => loc_cw R₂ (e ▸ h1)]; exact hd
    · obtain ⟨ob, h1, h2⟩ := R₂.tr.2 i a o e1 e2
      exact ⟨ob, hkeep _ _ h1, h2⟩
    · have cases3 : (L ≤ a) ∨ a ∈ g₂.tr ∨ a ∈ Φ.hid := by
        rcases List.mem_cons.mp ha with rfl | ha
        · exact .inl (Nat.le_refl _)
        · rcases List.mem_append.mp ha with ha | ha
          · rcases List.mem_append.mp ha with ha | ha
            · exact .inl (Nat.le_of_lt (aboveC a ha))
            · exact .inr (.inr ha)
          · exact .inr (.inl ha)
      rcases cases3 with h | h | h
      · exact ⟨newNone a h, fun p hp e => Nat.lt_irrefl _ (Nat.lt_of_lt_of_le (ltSize (.inr (.inl ⟨p, hp, e⟩))) h), fun p hp => (by cases hp)⟩
      · exact ⟨hideAll_none _ (List.mem_append_right _ h), (R₂.muts a (tr_mut h)).2.1, fun p hp => (by cases hp)⟩
      · exact ⟨hideAll_none _ (List.mem_append_left _ h), (R₂.muts a (lc_mut (hid_lc h))).2.1, fun p hp => (by cases hp)⟩
    · show (L :: ((cells.map (·.2) ++ Φ.hid) ++ g₂.tr)).Nodup
      rw [List.append_assoc]
      have trLt : ∀ a ∈ Φ.hid ++ g₂.tr, a < L := fun a ha => by
        rcases List.mem_append.mp ha with ha | ha
        · exact ltSize (.inl (lc_mut (hid_lc ha)))
        · exact ltSize (.inl (tr_mut ha))
      have hidnd : (Φ.hid ++ g₂.tr).Nodup := hid_nodup R₂
      rw [List.nodup_cons]
      refine ⟨fun h => ?_, List.nodup_append.mpr ⟨?_, hidnd, fun a ha b hb e => ?_⟩⟩
      · rcases List.mem_append.mp h with h | h
        · exact absurd (aboveC L h) (Nat.lt_irrefl _)
        · exact absurd (trLt L h) (Nat.lt_irrefl _)
      · exact List.pairwise_map.mpr ic.apart
      · exact Nat.lt_irrefl _ (Nat.lt_trans (Nat.lt_trans (aboveC a ha) (e ▸ trLt b hb : a < L)) (Nat.lt_of_le_of_ne (Nat.le_refl _) (fun _ => Nat.lt_irrefl _ (Nat.lt_trans (aboveC a ha) (e ▸ trLt b hb : a < L)))))
    · have hkn : Known Φ g₂ a ∧ a ∉ g₂.tr ∧ a ∉ Φ.hid ∧ ∀ p ∈ g₂.fz, p.1 ≠ a := by
        rcases List.mem_append.mp ha with ha | ha
        · have hlc : a ∈ Φ.env.locals :: Φ.cw := .tail _ (List.mem_filter.mp ha).1
          exact ⟨.inl (lc_mut hlc), tr_not R₂ hlc, own_hid R₂ ha, (R₂.muts _ (lc_mut hlc)).2.1⟩
        · rcases List.mem_append.mp ha with ha | ha
          · obtain ⟨p, hp, rfl⟩ := List.mem_map.mp ha
            exact ⟨.inr (.inr (.inl ⟨p, hp, rfl⟩)), fun q => (R₂.muts _ (tr_mut q)).2.2 p hp rfl, pin_hid R₂ hp, (R₂.pinsOk p hp).2⟩
          · obtain ⟨o, ho⟩ := Option.isSome_iff_exists.mp (R₂.forb a ha).1
            exact ⟨.inr (.inr (.inr (R₂.forb a ha).1)), h0no a o ho, h0_hid R₂ (R₂.forb a ha).1, (R₂.forb a ha).2⟩
      obtain ⟨o, ho⟩ := R₂.known hkn.1
      exact ⟨by show ((hideAll s₂.heap (Φ.hid ++ g₂.tr)).get? a).isSome = true; rw [hideAll_get _ ho (notHT hkn.2.2.1 hkn.2.1)]; rfl, hkn.2.2.2⟩
  refine hgo Φ' _ ok' rfl rfl rfl rfl R' (fun g₁ σ₁ s₁ le R₁ => EN.back (σ := ⟨σ.loc, objs₂⟩) R₂ le R₁) fun g₁ b k => ?_
  rcases EN.known R₂ k with z | z | z | z
  · exact .inl (tr_mut z)
  · exact .inr (.inl z)
  · exact .inr (.inr (.inr z))
  · exact .inl (lc_mut (.tail _ z))
theorem post_of {κ κ' : Kap} {Φ Φ' : Ctx} {g g₂ : G} {σ : St} {Q : V → List O → Prop} (le₂ : g.le g₂) (back : ∀ g₁ σ₁ s₁, g₂.le g₁ → Rel κ' Φ' g₁ σ₁ s₁ → Rel κ Φ g₁ { σ with objs := σ₁.objs } s₁) {fl : Flow} {s' : Shared} (p : PF κ' Φ' g₂ (retQ Q) fl s') :
    CallPost κ Φ g σ Q (.ok (.ret (match fl with | .ret v => v | _ => .none))) s' := by
  obtain ⟨g₁, fl', σ₁, le, R₁, rf, q⟩ := p
  have RB := back g₁ σ₁ s' le R₁
  cases fl' with
  | ret v => simp only [FlR] at rf; obtain ⟨x, rfl, rv'⟩ := rf; exact ⟨g₁, v, σ₁.objs, le₂.trans le, RB, rv', q⟩
  | next => simp only [FlR] at rf; subst rf; exact ⟨g₁, .none, σ₁.objs, le₂.trans le, RB, by simp only [VR], q⟩
  | brk => simp only [FlR] at rf; subst rf; exact ⟨g₁, .none, σ₁.objs, le₂.trans le, RB, by simp only [VR], q⟩
  | cont => simp only [FlR] at rf; subst rf; exact ⟨g₁, .none, σ₁.objs, le₂.trans le, RB, by simp only [VR], q⟩
theorem fn_ok {P : Prg} {D : Nat} {f : Addr} {fd : FuncData} {body : List Stmt} {vars ps : List Str} {n : Nat} {kws : List Str} {full : List V → List V → List V} {fb : W Fl} {spec : Spec} (I : FnIs P f fd body vars ps)
    (hb : SB ⟨P, fd.scope.names, vars, D, true⟩ body fb)
    (hbind : ∀ (q : Params) (s : Shared) (xs kxs : List Value), (P.K q).In s.heap → xs.length = n → kxs.length = kws.length → ∃ fx, BindsTo s fd ⟨xs, kws.zip kxs⟩ (ps.zip fx) ∧ ∀ g vs kvs, VRs g vs xs → VRs g kvs kxs → VRs g (full vs kvs) fx)
    (hspec : ∀ vs kvs objs Q, vs.length = n → kvs.length = kws.length → spec vs kvs objs Q → fb (retQ Q) ⟨initLoc vars ps (full vs kvs), objs⟩) :
    FnOK P D f n kws spec := by
  intro κ Φ A hP hD ok hA hdep hun hfr g σ s vs xs kvs kxs Q R rv rk hn hk hs
  subst hP
  have X : (κ.P.K Φ.w.params).In s.heap := fun a o e => R.keep a o (ok.KIn a o e)
  obtain ⟨fx, hB, hfull⟩ := hbind Φ.w.params s xs kxs X (rv.length.trans hn) (rk.length.trans hk)
  refine fn_enter I rfl hD ok hA hdep hun hfr R (hB _ _ _ _ ⟨g, σ.objs, fx, full vs kvs, .refl g, R, rfl, hfull g vs kvs rv rk, fun Φ' s₃ ok' hw hA' _ _ R' back' _ => ?_⟩)
  have := hb Φ' ok' _ _ _ (retQ Q) R' (hspec vs kvs σ.objs Q hn hk hs)
  rw [hw] at this
  exact wpAny_mono this (fun fl s' p => by have := post_of (.refl g) back' p; cases fl <;> exact this) fun _ _ e => e.elim
end Mine

open PySem PySem.W PyProof.Rows PySem.Calls
set_option Elab.async false
set_option maxRecDepth 100000
set_option linter.unusedVariables false

namespace Mine

/-! ## Call expressions -/

noncomputable def SK (κ : Kap) (ks : List Keyword) (f : W (List V)) : Prop :=
  ∀ Φ, Ctx.Ok κ Φ → ∀ pos g σ s Q, Rel κ Φ g σ s → f Q σ → wpAny (model κ.P.prog Φ.w) Φ.A (evalAll ((backToKw pos (keywordEach ks Φ.env)).map (·.2))) (PEs κ Φ g Q) NoE s

noncomputable def CalOK (κ : Kap) (fv : Value) (kws : List Str) (f : List V → List V → W V) : Prop :=
  ∀ Φ, Ctx.Ok κ Φ → ∀ g σ s vs xs kvs kxs Q, Rel κ Φ g σ s → VRs g vs xs → VRs g kvs kxs → f vs kvs Q σ → wpAny (model κ.P.prog Φ.w) Φ.A (call fv xs (kws.zip kxs)) (PE κ Φ g Q) NoE s

noncomputable def Keep (κ : Kap) (fv : Value) : Prop := (∀ a, fv ≠ .ref a) ∨ ∀ q, keepIn (κ.P.K q) fv = true

section
variable {κ : Kap}

theorem rk_nil : SK κ [] (ret []) := fun Φ ok pos g σ s Q R h => wpAny_pure ⟨g, [], σ, .refl g, R, .nil, h⟩
theorem rk_cons {n : Option Str} {e : Expr} {p : Pos} {rest : List Keyword} {f : W V} {h : W (List V)} (he : SE κ e f) (hr : SK κ rest h) : SK κ (⟨n, e, p⟩ :: rest) (bnd f fun v => bnd h fun vs => ret (v :: vs)) := fun Φ ok pos g σ s Q R q => by
  show wpAny _ _ (do
    let v ← (do let v ← eval e Φ.env; standAt pos; pure v)
    return v :: (← holding [v] (evalAll ((backToKw pos (keywordEach rest Φ.env)).map (·.2))))) _ _ s
  refine wpAny_bind (wpAny_bind (wpAny_mono (he Φ ok g σ s _ R q) (fun x s₁ p => wpAny_bind (wpAny_standAt (wpAny_pure ?_))) fun _ _ e => e))
  obtain ⟨g₁, a, σ₁, le₁, R₁, ra, q₁⟩ := p
  refine wpAny_bind (wpAny_holding (wpAny_mono (hr Φ ok pos g₁ σ₁ s₁ _ R₁ q₁) (fun xs s₂ p => wpAny_pure ?_) fun _ _ e => e))
  obtain ⟨g₂, vs, σ₂, le₂, R₂, rv, q₂⟩ := p
  exact ⟨g₂, a :: vs, σ₂, le₁.trans le₂, R₂, .cons (VR.mono le₂ a ra) rv, q₂⟩

noncomputable def knames (ks : List Keyword) : List Str := ks.filterMap (·.arg)
theorem kw_names {pos : Pos} {env : Env} : ∀ (ks : List Keyword), (backToKw pos (keywordEach ks env)).filterMap (·.1) = knames ks
  | [] => rfl
  | ⟨n, e, p⟩ :: r => by
    show List.filterMap (·.1) ((n, _) :: backToKw pos (keywordEach r env)) = _
    cases n with
    | none => simpa [knames] using kw_names r
    | some n => simpa [knames] using kw_names r
theorem kw_some {pos : Pos} {env : Env} : ∀ (ks : List Keyword), ks.all (·.arg.isSome) = true → (backToKw pos (keywordEach ks env)).all (·.1.isSome) = true ∧ (backToKw pos (keywordEach ks env)).any (·.1.isNone) = false
  | [], _ => ⟨rfl, rfl⟩
  | ⟨n, e, p⟩ :: r, h => by
    simp only [List.all_cons, Bool.and_eq_true] at h
    obtain ⟨h1, h2⟩ := kw_some (pos := pos) (env := env) r h.2
    constructor
    · show List.all ((n, _) :: backToKw pos (keywordEach r env)) _ = true
      simp only [List.all_cons, Bool.and_eq_true]; exact ⟨h.1, h1⟩
    · show List.any ((n, _) :: backToKw pos (keywordEach r env)) _ = false
      simp only [List.any_cons, Bool.or_eq_false_iff]
      exact ⟨by cases n <;> simp_all, h2⟩
noncomputable def plainArgs (args : List Expr) : Bool := args.all fun e => !isStarred e
theorem star_plain {env : Env} {pos : Pos} : ∀ (args : List Expr), plainArgs args = true → (backTo pos (starEach args env)).any (·.1) = false
  | [], _ => rfl
  | e :: r, h => by
    simp only [plainArgs, List.all_cons, Bool.and_eq_true, Bool.not_eq_true'] at h
    rw [star_cons h.1]
    show ((false || (backTo pos (starEach r env)).any (·.1))) = false
    rw [star_plain r h.2]; rfl

theorem args_sound {Φ : Ctx} (ok : Ctx.Ok κ Φ) {args : List Expr} {ks : List Keyword} {fa fk : W (List V)} (ha : SEs κ args fa) (hk : SK κ ks fk) (hp : plainArgs args = true) (hks : ks.all (·.arg.isSome) = true) {pos : Pos} {f : Value}
    {g : G} {σ : St} {s : Shared} {Q : List V → List V → St → Prop} (R : Rel κ Φ g σ s) (h : fa (fun vs => fk fun kvs => Q vs kvs) σ) :
    wpAny (model κ.P.prog Φ.w) Φ.A (evalArgs f true (backTo pos (starEach args Φ.env)) (backToKw pos (keywordEach ks Φ.env)))
      (fun a s' => ∃ g' vs xs kvs kxs σ', a = ⟨xs, (knames ks).zip kxs⟩ ∧ g.le g' ∧ Rel κ Φ g' σ' s' ∧ VRs g' vs xs ∧ VRs g' kvs kxs ∧ Q vs kvs σ') NoE s := by
  have main : wpAny (model κ.P.prog Φ.w) Φ.A (spliced (backTo pos (starEach args Φ.env))) (fun xs s₁ => wpAny (model κ.P.prog Φ.w) Φ.A (evalAll ((backToKw pos (keywordEach ks Φ.env)).map (·.2)))
      (fun kxs s' => ∃ g' vs kvs σ', g.le g' ∧ Rel κ Φ g' σ' s' ∧ VRs g' vs xs ∧ VRs g' kvs kxs ∧ Q vs kvs σ') NoE s₁) NoE s := by
    refine wpAny_mono (ha Φ ok pos g σ s _ R h) (fun xs s₁ p => ?_) fun _ _ e => e
    obtain ⟨g₁, vs, σ₁, le₁, R₁, rv, q₁⟩ := p
    refine wpAny_mono (hk Φ ok pos g₁ σ₁ s₁ _ R₁ q₁) (fun kxs s₂ p => ?_) fun _ _ e => e
    obtain ⟨g₂, kvs, σ₂, le₂, R₂, rk, q₂⟩ := p
    exact ⟨g₂, vs, kvs, σ₂, le₁.trans le₂, R₂, VRs.mono le₂ vs rv, rk, q₂⟩
  cases args with
  | nil =>
    refine evalArgs_kw_nil (kw_some ks hks).1 ?_
    have m2 : wpAny (model κ.P.prog Φ.w) Φ.A (evalAll ((backToKw pos (keywordEach ks Φ.env)).map (·.2))) (fun kxs s' => ∃ g' vs kvs σ', g.le g' ∧ Rel κ Φ g' σ' s' ∧ VRs g' vs [] ∧ VRs g' kvs kxs ∧ Q vs kvs σ') NoE s := fun Γ p hΓ => (main Γ p hΓ) Γ p hΓ
    refine wpAny_mono m2 (fun kxs s₂ p => ?_) fun _ _ e => e
    obtain ⟨g', vs, kvs, σ', le, R', rv, rk, q⟩ := p
    exact ⟨g', vs, [], kvs, kxs, σ', by rw [kw_names], le, R', rv, rk, q⟩
  | cons e r =>
    simp only [plainArgs, List.all_cons, Bool.and_eq_true, Bool.not_eq_true'] at hp
    rw [star_cons hp.1] at main ⊢
    refine evalArgs_kw (kw_some ks hks).1 (wpAny_mono main (fun xs s₁ p => wpAny_mono p (fun kxs s₂ p => ?_) fun _ _ e => e) fun _ _ e => e)
    obtain ⟨g', vs, kvs, σ', le, R', rv, rk, q⟩ := p
    exact ⟨g', vs, xs, kvs, kxs, σ', by rw [kw_names], le, R', rv, rk, q⟩

set_option tactic.hygienic true in
theorem keep_looks {Φ : Ctx} (ok : Ctx.Ok κ Φ) {fv : Value} (hf : Keep κ fv) (M : Model) (h : Heap) (hk : KeepsH Φ.h₀ h) : ∃ k, (k = Keeper.frame ∨ k = Keeper.machine ∨ k = Keeper.boundFrame) ∧ Looks M h (keeperOf fv) k := by
  rcases hf with hf | hf
  · refine ⟨.machine, .inr (.inl rfl), ?_⟩
    unfold keeperOf
    split
    · rename_i a; exact absurd rfl (hf a)
    · exact Looks.now
  · exact keeps_K (hf Φ.w.params) h fun a o e => hk a o (ok.KIn a o e)

theorem callWith_sound {Φ : Ctx} (ok : Ctx.Ok κ Φ) {args : List Expr} {ks : List Keyword} {fa fk : W (List V)} {fv : Value} {f : List V → List V → W V} (ha : SEs κ args fa) (hk : SK κ ks fk) (hf : CalOK κ fv (knames ks) f) (hkeep : Keep κ fv)
    (hp : plainArgs args = true) (hks : ks.all (·.arg.isSome) = true) {pos : Pos} {g : G} {σ : St} {s : Shared} {Q : V → St → Prop} {ws : List V} {ys : List Value} (R : Rel κ Φ g σ s) (rw : VRs g ws ys)
    (h : fa (fun vs => fk fun kvs => f (ws ++ vs) kvs Q) σ) :
    wpAny (model κ.P.prog Φ.w) Φ.A (callWith pos fv ys (backTo pos (starEach args Φ.env)) (backToKw pos (keywordEach ks Φ.env))) (PE κ Φ g Q) NoE s := by
  refine callWith_of (P := fun h => KeepsH Φ.h₀ h) (by rw [star_plain args hp, (kw_some ks hks).2]; rfl) (fun h hh => keep_looks ok hkeep _ h hh) ?_
  refine wpAny_mono (args_sound ok ha hk hp hks R h) (fun a s₁ p => ?_) fun _ _ e => e
  obtain ⟨g', vs, xs, kvs, kxs, σ', rfl, le, R', rv, rk, q⟩ := p
  exact ⟨R'.keep, wPE le (hf Φ ok g' σ' s₁ _ _ _ _ Q R' ((VRs.mono le ws rw).append rv) rk q)⟩

/-- a call of a global name -/
theorem r_Call {x : Str} {p pos : Pos} {args : List Expr} {ks : List Keyword} {fa fk : W (List V)} {fv : Value} {f : List V → List V → W V} (hx : gbl κ x fv = true) (ha : SEs κ args fa) (hk : SK κ ks fk) (hf : CalOK κ fv (knames ks) f) (hkeep : Keep κ fv)
    (hp : plainArgs args = true := by rfl) (hks : ks.all (·.arg.isSome) = true := by rfl) : SE κ (.Call (.Name x p) args ks pos) (bnd fa fun vs => bnd fk fun kvs => f vs kvs) := fun Φ ok g σ s Q R q => by
  refine wpAny_Call_Name_kw (wpAny_mono (r_Glob (pos := p) hx Φ ok g σ s (fun v σ' => v = .glob fv ∧ σ' = σ) R ⟨rfl, rfl⟩) (fun y s₁ h => ?_) fun _ _ e => e)
  obtain ⟨g₁, a, σ₁, le₁, R₁, ra, rfl, rfl⟩ := h
  simp only [VR] at ra
  subst ra
  exact wPE le₁ (callWith_sound ok ha hk hf hkeep hp hks R₁ .nil q)

/-- a def's word as a callee's -/
noncomputable def fnW (n m : Nat) (spec : Spec) (vs kvs : List V) : W V := fun Q σ => vs.length = n ∧ kvs.length = m ∧ spec vs kvs σ.objs fun v objs' => Q v { σ with objs := objs' }
theorem cal_fn {f : Addr} {D n : Nat} {kws : List Str} {spec : Spec} (hf : FnOK κ.P D f n kws spec) (hD : D < κ.D) : CalOK κ (.ref f) kws (fnW n kws.length spec) := fun Φ ok g σ s vs xs kvs kxs Q R rv rk q => by
  obtain ⟨h1, h2, h3⟩ := q
  refine wpAny_call (codeAny_mono (hf κ Φ Φ.A rfl hD ok ok.handled (Nat.le_succ _) (Nat.le_add_right _ _) rfl g σ s vs xs kvs kxs _ R rv rk h1 h2 h3) fun r s' p => ?_)
  cases r with
  | error e => exact p.elim
  | ok fl =>
    cases fl with
    | ret x => obtain ⟨g', v, objs', le, R', rv', q'⟩ := p; exact ⟨g', v, _, le, R', rv', q'⟩
    | next => exact p.elim
    | brk => exact p.elim
    | cont => exact p.elim
end
end Mine

open PySem PySem.W PyProof.Rows PySem.Calls
set_option Elab.async false
set_option maxRecDepth 100000
set_option linter.unusedVariables false

namespace Mine

/-! ## Method calls -/

noncomputable def MethOK (κ : Kap) (name : Str) (fv : Value) (gd : V → St → Prop) : Prop :=
  ∀ Φ, Ctx.Ok κ Φ → ∀ g σ s v x (pl : Sem Bool) (Q : Value × List Value → Shared → Prop), Rel κ Φ g σ s → VR g v x → gd v σ → Q (fv, [x]) s → wpAny (model κ.P.prog Φ.w) Φ.A (getMethod x name pl) Q NoE s

noncomputable def gdW {α : Type} (p : St → Prop) (f : W α) : W α := fun Q σ => p σ ∧ f Q σ

section
variable {κ : Kap}

theorem r_Meth {o : Expr} {name : Str} {apos pos : Pos} {args : List Expr} {ks : List Keyword} {fo : W V} {fa fk : W (List V)} {fv : Value} {gd : V → St → Prop} {f : List V → List V → W V}
    (ho : SE κ o fo) (hm : MethOK κ name fv gd) (ha : SEs κ args fa) (hk : SK κ ks fk) (hf : CalOK κ fv (knames ks) f) (hkeep : Keep κ fv)
    (hbase : ∀ env whole, attributeBase o name env whole = whole := by intro _ _; rfl) (hline : (apos.endLine == pos.line) = true := by rfl)
    (hp : plainArgs args = true := by rfl) (hks : ks.all (·.arg.isSome) = true := by rfl) (hn : decide (args.length + ks.length + (if ks.isEmpty then 0 else 1) < 30) = true := by rfl) :
    SE κ (.Call (.Attribute o name apos) args ks pos) (bnd fo fun v => gdW (gd v) (bnd fa fun vs => bnd fk fun kvs => f (v :: vs) kvs)) := fun Φ ok g σ s Q R q => by
  rw [arm_eval_Call, hbase]
  refine wpAny_bind (wpAny_mono (ho Φ ok g σ s _ R q) (fun x s₁ p => ?_) fun _ _ e => e)
  obtain ⟨g₁, v, σ₁, le₁, R₁, rv, hg, q₁⟩ := p
  refine wpAny_bind (wpAny_standAt ?_)
  have hform : methodCallForm (args.length + ks.length) (backTo pos (starEach args Φ.env)) (backToKw pos (keywordEach ks Φ.env)) = true := by
    unfold methodCallForm
    have h1 : (backTo pos (starEach args Φ.env)).all (!·.1) = true := by
      have := star_plain (env := Φ.env) (pos := pos) args hp
      rw [List.any_eq_false] at this
      rw [List.all_eq_true]
      intro z hz
      have := this z hz
      simpa using this
    have h2 : (backToKw pos (keywordEach ks Φ.env)).isEmpty = ks.isEmpty := by
      cases ks with
      | nil => rfl
      | cons k r => obtain ⟨a, b, c⟩ := k; rfl
    rw [h1, (kw_some ks hks).1, h2]
    simpa using of_decide_eq_true hn
  have hpos : methodCallPos true o Φ.env apos pos = pure pos := by unfold methodCallPos; simp [hline]
  unfold methodCall
  rw [hform]
  refine wpAny_bind (wpAny_holding (hm Φ ok g₁ σ₁ s₁ v x _ _ R₁ rv hg ?_))
  refine wpAny_bind (wpAny_of_eq hpos ?_)
  exact wPE le₁ (callWith_sound ok ha hk hf hkeep hp hks R₁ (.one rv) q₁)

/-! ### the methods of built-in types -/
noncomputable def isStr (v : V) (_ : St) : Prop := match v with
  | .str _ => True
  | _ => False
noncomputable def isLst (v : V) (σ : St) : Prop := (seqOf σ.objs v).isSome = true

theorem meth_str {name : Str} {id : String} (sl : Slot "str" name id) (ty : typeOf (.builtin id) = pure (.type "method_descriptor")) : MethOK κ name (.builtin id) isStr := fun Φ ok g σ s v x pl Q R rv hg q => by
  unfold isStr at hg
  split at hg
  · simp only [VR] at rv
    obtain ⟨t, rfl⟩ := rv
    exact getMethod_builtin (typeIs_str _ _ _) F.plainAttrs_str sl ty (fun a e => by cases e) q
  · exact hg.elim
theorem meth_lst {name : Str} {id : String} (sl : Slot "list" name id) (ty : typeOf (.builtin id) = pure (.type "method_descriptor")) : MethOK κ name (.builtin id) isLst := fun Φ ok g σ s v x pl Q R rv hg q => by
  obtain ⟨l, hl⟩ := Option.isSome_iff_exists.mp hg
  obtain ⟨a, xs, n, rfl, h1, h2⟩ := R.seq_at rv hl
  exact getMethod_builtin ⟨_, h1, rfl⟩ F.plainAttrs_list sl ty (fun b e => by cases e; exact ⟨_, h1, rfl⟩) q

theorem keep_builtin {id : String} : Keep κ (.builtin id) := .inl fun _ e => by cases e
theorem keep_type {t : String} : Keep κ (.type t) := .inl fun _ e => by cases e

noncomputable def strFn (f : Str → Str) (vs kvs : List V) : W V := fun Q σ => match vs with
  | [.str x] => x.length ≤ 5592405 ∧ Q (.str (f x)) σ
  | _ => False
theorem cal_lower : CalOK κ (.builtin "str.lower") [] (strFn Txt.lower) := fun Φ ok g σ s vs xs kvs kxs Q R rv rk q => by
  unfold strFn at q
  split at q
  · simp only [VRs, VR] at rv
    obtain ⟨_, _, rfl, ⟨t, rfl⟩, rfl⟩ := rv
    exact SCL.lower q.1 fun _ => .here (R.tok _) (v := .str _) (by simp only [VR]; exact ⟨_, rfl⟩) q.2
  · exact q.elim
theorem mapSeq_listO (f : Array Value → Array Value) (xs ys : List Value) (n : Nat) (h : f xs.toArray = ys.toArray) : ∃ n', (listO xs n).mapSeq f = listO ys n' := by
  refine ⟨if (f xs.toArray).size == xs.toArray.size then n else n + 1, ?_⟩
  show (⟨.type "list", none, .seq (f xs.toArray) (if (f xs.toArray).size == xs.toArray.size then n else n + 1), #[]⟩ : Obj) = ⟨.type "list", none, .seq ys.toArray _, #[]⟩
  rw [h]

/-! ### list.append -/
noncomputable def appendA (vs kvs : List V) : W V := fun Q σ => match vs with
  | [.ref i, v] => (match lstAt σ.objs i with
    | some l => l.length ≤ sizeLine ∧ Q .none { σ with objs := σ.objs.set i (.list (l ++ [v])) }
    | none => False)
  | _ => False
set_option tactic.hygienic true in
theorem cal_append : CalOK κ (.builtin "list.append") [] appendA := fun Φ ok g σ s vs xs kvs kxs Q R rv rk q => by
  unfold appendA at q
  split at q
  · rename_i i v
    split at q
    · rename_i l hl
      simp only [VRs] at rv
      obtain ⟨x, _, rfl, ri, y, _, rfl, ry, rfl⟩ := rv
      obtain ⟨a, xs, n, rfl, hi, h1, h2⟩ := R.ref_at ri hl
      refine wpAny_call_entry slot_list_append (isList_of h1).typeIs entry_list_append ?_ (args_list_append _ _)
      show wpAny _ _ (updateSeq a (·.push y) >>= fun _ => PySem.ret .none) _ _ s
      obtain ⟨n', e⟩ := mapSeq_listO (·.push y) xs (xs ++ [y]) n (by simp)
      refine wpAny_bind (wpAny_updateSeq h1 rfl (wpAny_pure ⟨.none, rfl, ?_⟩) (hz := by have := h2.length; have := q.1; simp; omega) (_hz' := by have := h2.length; have := q.1; simp; omega))
      have h3 := Heap.get?_update_self (h := s.heap) (Obj.mapSeq (·.push y)) h1 (by rw [e]; rfl)
      rw [e] at h3
      have R' := R.turn (o := .list (l ++ [v])) (tk := s.toks) hi h3 ⟨xs ++ [y], _, rfl, h2.append (.one ry)⟩ fun b o hb e => (Heap.get?_update_other _ _ (Ne.symm hb)).trans e
      exact ⟨g, .none, _, .refl g, R', by simp only [VR], q.2⟩
    · exact q.elim
  · exact q.elim
end
end Mine

open PySem PySem.W PyProof.Rows PySem.Calls
set_option Elab.async false
set_option maxRecDepth 100000
set_option linter.unusedVariables false

namespace Mine

/-! ## Instances of the text's class -/

section
variable {κ : Kap} {Φ : Ctx} {g : G} {σ : St} {s : Shared}

set_option tactic.hygienic true in
/-- the ledger with one tracked object at its head -/
theorem Rel.ledger2 (R : Rel κ Φ g σ s) (above : Φ.h₀.objs.size ≤ Φ.env.locals) {i : Nat} {a : Addr} {ob : Obj} (hi : g.tr[i]? = some a) (ha : s.heap.get? a = some ob) :
    ∃ m rest, Fr Φ.h₀ Φ.env.locals s.heap m ∧ News Φ.h₀ Φ.env.locals s.heap ((a, ob) :: rest) ∧ (∀ p ∈ rest, p.1 ≠ a) ∧
      ∀ h' tk ob' o', Fr Φ.h₀ Φ.env.locals h' m → News Φ.h₀ Φ.env.locals h' ((a, ob') :: rest) → OR Φ.w.params g o' ob' → Rel κ Φ g { σ with objs := σ.objs.set i o' } { s with heap := h', toks := tk } := by
  obtain ⟨m, hm, lr⟩ := R.ns
  have hmem : a ∈ Φ.muts g := tr_mut (List.mem_of_getElem? hi)
  have hMa := R.muts a hmem
  have nd := R.nodup
  have hneA : ∀ b, b ∈ Φ.env.locals :: Φ.cw → b ≠ a := fun b hb e => tr_not R hb (e ▸ List.mem_of_getElem? hi)
  let as : List Addr := Φ.cw ++ (g.fz.map (·.1) ++ (Φ.pins.map (·.1) ++ g.tr))
  let rest : List (Addr × Obj) := as.filterMap fun b => match s.heap.get? b with
    | some o => if (Φ.h₀.get? b).isNone && b != Φ.env.locals && b != a then some (b, o) else none
    | none => none
  have hin : ∀ b o, b ∈ as → b ≠ Φ.env.locals → b ≠ a → s.heap.get? b = some o → (b, o) ∈ rest ∨ Φ.h₀.get? b = some o := fun b o hb hne hna ho => by
    cases q : Φ.h₀.get? b with
    | some o' => exact .inr (by rw [R.keep b o' q] at ho; exact ho)
    | none => exact .inl (List.mem_filterMap.mpr ⟨b, hb, by simp [ho, q, hne, hna]⟩)
  have hN : ∀ p ∈ rest, (s.heap.get? p.1 = some p.2 ∧ p.1 ≠ Φ.env.locals ∧ Φ.h₀.get? p.1 = none) ∧ p.1 ≠ a := fun p hp => by
    obtain ⟨b, hb, e⟩ := List.mem_filterMap.mp hp
    split at e
    · rename_i o ho
      split at e
      · rename_i c
        cases e
        simp only [Bool.and_eq_true, Option.isNone_iff_eq_none, bne_iff_ne] at c
        exact ⟨⟨ho, c.1.2, c.1.1⟩, c.2⟩
      · cases e
    · cases e
  refine ⟨m, rest, ⟨hm, R.keep, above⟩, fun p hp => ?_, fun p hp => (hN p hp).2, fun h' tk ob' o' F N ho' => ?_⟩
  · rcases List.mem_cons.mp hp with rfl | hp
    · exact ⟨ha, fun e => hneA _ (.head _) e.symm, hMa.1⟩
    · exact (hN p hp).1
  have hk : ∀ b o, b ≠ Φ.env.locals → b ≠ a → Known Φ g b → s.heap.get? b = some o → h'.get? b = some o := fun b o hb hba k ho => by
    have hb' : b ∈ as ∨ Φ.h₀.get? b = some o := by
      rcases k with k | ⟨p, hp, rfl⟩ | ⟨p, hp, rfl⟩ | k
      · rcases List.mem_cons.mp k with k | k
        · exact absurd k hb
        · rcases List.mem_append.mp k with k | k
          · exact .inl (List.mem_append_left _ k)
          · exact .inl (List.mem_append_right _ (List.mem_append_right _ (List.mem_append_right _ k)))
      · exact .inl (List.mem_append_right _ (List.mem_append_left _ (List.mem_map_of_mem hp)))
      · exact .inl (List.mem_append_right _ (List.mem_append_right _ (List.mem_append_left _ (List.mem_map_of_mem hp))))
      · obtain ⟨o'', ho''⟩ := Option.isSome_iff_exists.mp k
        have := R.keep b o'' ho''
        rw [ho] at this; cases this
        exact .inr ho''
    rcases hb' with hb' | hb'
    · rcases hin b o hb' hb hba ho with q | q
      · exact (N _ (.tail _ q)).1
      · exact F.keep b o q
    · exact F.keep b o hb'
  have nd1 := List.nodup_cons.mp (show (Φ.env.locals :: (Φ.cw ++ g.tr)).Nodup from R.nodup)
  have hL := R.muts Φ.env.locals (.head _)
  have hil : i < g.tr.length := (List.getElem?_eq_some_iff.mp hi).1
  refine ⟨⟨m, F.ns, fun x k v hs hl => ?_⟩, fun c hc => ?_, F.keep, fun p hp => hk _ _ (hL.2.1 p hp) (hMa.2.1 p hp) (.inr (.inl ⟨p, hp, rfl⟩)) (R.fz p hp), fun p hp => hk _ _ (hL.2.2 p hp) (hMa.2.2 p hp) (.inr (.inr (.inl ⟨p, hp, rfl⟩))) (R.pins p hp),
    ⟨by simp [R.tr.1], fun j b o e1 e2 => ?_⟩, R.muts, R.nodup, R.pinsOk, R.cellsOk, R.gens, R.os, R.forb⟩
  · have := lr x k v hs hl
    split at this
    · exact this
    · rename_i hc
      obtain ⟨c, val, h1, ⟨oc, hoc, hd⟩, h3⟩ := this
      refine ⟨c, val, h1, ⟨oc, ?_, hd⟩, h3⟩
      rcases R.cellsOk x c hc h1 with h | h
      · exact hk _ _ (fun e => nd1.1 (e ▸ List.mem_append_left _ h)) (hneA c (.tail _ h)) (.inl (.tail _ (List.mem_append_left _ h))) hoc
      · exact hk _ _ (fun e => by rw [e, hL.1] at h; cases h) (fun e => by rw [e, hMa.1] at h; cases h) (.inr (.inr (.inr h))) hoc
    · trivial
  · obtain ⟨v, oc, hoc, hd⟩ := R.cells c hc
    exact ⟨v, oc, hk _ _ (fun e => nd1.1 (e ▸ List.mem_append_left _ hc)) (hneA c (.tail _ hc)) (.inl (.tail _ (List.mem_append_left _ hc))) hoc, hd⟩
  · by_cases hj : j = i
    · subst hj
      rw [hi] at e1; cases e1
      rw [List.getElem?_set_self (by rw [← R.tr.1]; exact hil)] at e2
      cases e2
      exact ⟨ob', (N _ (.head _)).1, ho'⟩
    · rw [List.getElem?_set_ne (Ne.symm hj)] at e2
      obtain ⟨ob2, h2, h3⟩ := R.tr.2 j b o e1 e2
      have hm := List.mem_of_getElem? e1
      refine ⟨ob2, hk _ _ (fun e => nd1.1 (e ▸ List.mem_append_right _ hm)) (fun q => hj ?_) (.inl (tr_mut hm)) h2, h3⟩
      subst q
      exact (List.getElem?_inj (List.getElem?_eq_some_iff.mp e1).1 (List.nodup_append.mp (show ((Φ.env.locals :: Φ.cw) ++ g.tr).Nodup from nd)).2.1).mp (e1.trans hi.symm)

/-- an instance in the heap -/
theorem Rel.inst_at (R : Rel κ Φ g σ s) {c i : Nat} {x : Value} (h : VR g (.inst c i) x) {l : List (Str × V)} (hl : σ.objs[i]? = some (.attrs l)) :
    ∃ a dx sl es n, x = .ref a ∧ g.tr[i]? = some dx ∧ s.heap.get? dx = some (dictOf es n) ∧ AR Φ.w.params g l es ∧ InstAt s.heap a (instO c dx sl) c (some (dictOf es n)) ∧ n = l.length := by
  simp only [VR] at h
  obtain ⟨a, dx, sl, e, hi, hf⟩ := h
  obtain ⟨ob, h1, h2⟩ := R.tr.2 i dx _ hi hl
  obtain ⟨es, n, rfl, hn, ha⟩ := h2
  exact ⟨a, dx, sl, es, n, e, hi, h1, ha, ⟨R.fz _ hf, rfl, rfl, h1⟩, hn⟩

set_option tactic.hygienic true in
theorem AR.find {P : Params} {l : List (Str × V)} {es : List DictEntry} (h : AR P g l es) (x : Str) :
    (∀ v, l.lookup x = some v → ∃ val, getL x es = some (some val) ∧ VR g v val) ∧ (l.lookup x = none → getL x es = some none) := by
  have key : ∀ (l : List (Str × V)) (es : List DictEntry), AR P g l es → (∀ v, l.lookup x = some v → ∃ e, es.find? (·.key.isStr x) = some e ∧ VR g v e.val) ∧ (l.lookup x = none → es.find? (·.key.isStr x) = none ∧ es.any (·.refKey) = false) := by
    intro l
    induction l with
    | nil =>
      intro es h
      have : es = [] := List.eq_nil_of_length_eq_zero h.1
      subst this
      exact ⟨fun v e => (by cases e), fun _ => ⟨rfl, rfl⟩⟩
    | cons p l ih =>
      intro es h
      obtain ⟨k, u⟩ := p
      cases es with
      | nil => have := h.1; simp at this
      | cons e es =>
        obtain ⟨⟨t, hk⟩, _, hv⟩ := h.2 0 k u e rfl rfl
        have hr : AR P g l es := ⟨by have := h.1; simpa using this, fun i k v e a b => h.2 (i + 1) k v e (by simpa using a) (by simpa using b)⟩
        obtain ⟨i1, i2⟩ := ih es hr
        have hks : e.key.isStr x = (k == x) := by rw [hk]; rfl
        rw [List.lookup_cons]
        constructor
        · intro v hv'
          split at hv'
          · rename_i q
            cases hv'
            refine ⟨e, ?_, hv⟩
            rw [List.find?_cons, hks, beq_iff_eq.mp q]; simp
          · rename_i q
            obtain ⟨e', h1, h2⟩ := i1 v hv'
            refine ⟨e', ?_, h2⟩
            rw [List.find?_cons, hks]
            have : (k == x) = false := by
              cases z : k == x with
              | false => rfl
              | true => rw [beq_iff_eq.mp z] at q; simp at q
            rw [this]; exact h1
        · intro hn
          split at hn
          · cases hn
          · rename_i q
            obtain ⟨h1, h2⟩ := i2 hn
            have : (k == x) = false := by
              cases z : k == x with
              | false => rfl
              | true => rw [beq_iff_eq.mp z] at q; simp at q
            refine ⟨by rw [List.find?_cons, hks, this]; exact h1, ?_⟩
            rw [List.any_cons, h2]
            show (DictEntry.refKey e || false) = false
            unfold DictEntry.refKey; rw [hk]; rfl
  obtain ⟨k1, k2⟩ := key l es h
  constructor
  · intro v hv
    obtain ⟨e, h1, h2⟩ := k1 v hv
    exact ⟨e.val, by unfold getL; rw [h1], h2⟩
  · intro hn
    obtain ⟨h1, h2⟩ := k2 hn
    unfold getL; rw [h1, h2]; rfl
end

noncomputable def handed : V → Bool
  | .glob v => handedIn v
  | _ => true
theorem handed_of {g : G} {v : V} {x : Value} (h : VR g v x) (hh : handed v = true) : handedIn x = true := by
  cases v <;> simp only [VR] at h
  · subst h; rfl
  · subst h; rfl
  · obtain ⟨_, rfl⟩ := h; rfl
  · obtain ⟨_, rfl⟩ := h; rfl
  · obtain ⟨_, _, _, rfl, _⟩ := h; rfl
  · obtain ⟨_, _, _, rfl, _⟩ := h; rfl
  · obtain ⟨_, rfl, _⟩ := h; rfl
  · obtain ⟨_, _, _, rfl, _⟩ := h; rfl
  · subst h; exact hh
  · obtain ⟨_, rfl, _⟩ := h; rfl
  · obtain ⟨_, rfl, _⟩ := h; rfl

noncomputable def attrA (C : Nat) (x : Str) (v : V) : W V := fun Q σ => match v with
  | .inst c i => c = C ∧ (match attrAt σ.objs i x with
    | some u => handed u = true ∧ Q u σ
    | none => False)
  | _ => False
set_option tactic.hygienic true in
theorem attrAt_some {objs : List O} {i : Nat} {x : Str} {u : V} (h : attrAt objs i x = some u) : ∃ l, objs[i]? = some (.attrs l) ∧ l.lookup x = some u := by
  unfold attrAt at h
  split at h
  · rename_i l e; exact ⟨l, e, h⟩
  · cases h

/-- static facts of an attribute that the instance holds -/
structure AttrIs (P : Prg) (C : Nat) (x : Str) : Prop where
  plain : ∀ q, plainGet (P.K q) C x = true
  hasD : ∀ q, hasDictIn (P.K q) C = true
  none_ : ∀ q, findIn (P.K q) (.ref C) x = some none

section
variable {κ : Kap}

set_option tactic.hygienic true in
theorem r_Attr {o : Expr} {x : Str} {pos : Pos} {C : Nat} {f : W V} (ho : SE κ o f) (A : AttrIs κ.P C x) (hbase : ∀ env whole, attributeBase o x env whole = whole := by intro _ _; rfl) :
    SE κ (.Attribute o x pos) (bnd f fun v => attrA C x v) := fun Φ ok g σ s Q R q => by
  rw [arm_eval_Attribute, hbase]
  refine wpAny_bind (wpAny_mono (ho Φ ok g σ s _ R q) (fun y s₁ p => ?_) fun _ _ e => e)
  obtain ⟨g₁, v, σ₁, le₁, R₁, rv, q₁⟩ := p
  have q₁ : attrA C x v Q σ₁ := q₁
  unfold attrA at q₁
  split at q₁
  · rename_i c i
    obtain ⟨rfl, q₁⟩ := q₁
    split at q₁
    · rename_i u hu
      obtain ⟨l, hl, hlu⟩ := attrAt_some hu
      obtain ⟨a, dx, sl, es, n, rfl, hi, hd, ha, I, _⟩ := R₁.inst_at rv hl
      obtain ⟨val, h1, h2⟩ := (ha.find x).1 u hlu
      obtain ⟨m, news, F, N, back⟩ := R₁.ledger ok.above
      refine wpAny_bind (wpAny_standAt (wpAny_bind (wpAny_holding (get_own F ok.KIn I (A.plain _) (A.hasD _) (A.none_ _) rfl h1 (handed_of h2 q₁.1) ?_))))
      refine wpAny_bind (wpAny_letTemporaryGo (wpAny_pure ?_))
      exact ⟨g₁, u, σ₁, le₁, R₁.tok _, h2, q₁.2⟩
    · exact q₁.elim
  · exact q₁.elim

/-- static facts of a method of the class -/
structure MethIs (P : Prg) (C : Nat) (x : Str) (f : Addr) : Prop where
  plain : ∀ q, plainGet (P.K q) C x = true
  find : ∀ q, findIn (P.K q) (.ref C) x = some (some (.ref f))
  fn : ∀ q, isFn (P.K q) (.ref f) = true

noncomputable def isInst (C : Nat) (x : Str) (v : V) (σ : St) : Prop := match v with
  | .inst c i => c = C ∧ ∃ l, σ.objs[i]? = some (.attrs l) ∧ l.lookup x = none
  | _ => False
theorem meth_inst {C : Nat} {x : Str} {f : Addr} (M : MethIs κ.P C x f) : MethOK κ x (.ref f) (isInst C x) := fun Φ ok g σ s v y pl Q R rv hg q => by
  unfold isInst at hg
  split at hg
  · obtain ⟨rfl, l, hl, hn⟩ := hg
    obtain ⟨a, dx, sl, es, n, rfl, hi, hd, ha, I, _⟩ := R.inst_at rv hl
    obtain ⟨m, news, F, N, back⟩ := R.ledger ok.above
    exact method_inst F ok.KIn I (M.plain _) (M.find _) (M.fn _) ((ha.find x).2 hn) q
  · exact hg.elim
end
end Mine

open PySem PySem.W PyProof.Rows PySem.Calls
set_option Elab.async false
set_option maxRecDepth 100000
set_option linter.unusedVariables false

namespace Mine

section
variable {κ : Kap}

noncomputable def PEo (κ : Kap) (Φ : Ctx) (g : G) (σ : St) (Q : V → List O → Prop) (x : Value) (s' : Shared) : Prop := ∃ g' v objs', g.le g' ∧ Rel κ Φ g' { σ with objs := objs' } s' ∧ VR g' v x ∧ Q v objs'

theorem fn_call {f : Addr} {D n : Nat} {kws : List Str} {spec : Spec} (hf : FnOK κ.P D f n kws spec) (hD : D < κ.D) {Φ : Ctx} (ok : Ctx.Ok κ Φ) {A : Around} (hA : A.handled = none) (hd : A.depth ≤ Φ.A.depth + 1) (hu : A.units ≤ Φ.A.units + 10) (hfr : A.frames = Φ.A.frames)
    {g : G} {σ : St} {s : Shared} {vs kvs : List V} {xs kxs : List Value} {Q : V → List O → Prop} (R : Rel κ Φ g σ s) (rv : VRs g vs xs) (rk : VRs g kvs kxs) (h1 : vs.length = n) (h2 : kvs.length = kws.length) (h3 : spec vs kvs σ.objs Q) :
    wpAny (model κ.P.prog Φ.w) A (call (.ref f) xs (kws.zip kxs)) (PEo κ Φ g σ Q) NoE s := by
  refine wpAny_call (codeAny_mono (hf κ Φ A rfl hD ok hA hd hu hfr g σ s vs xs kvs kxs _ R rv rk h1 h2 h3) fun r s' p => ?_)
  cases r with
  | error e => exact p.elim
  | ok fl =>
    cases fl with
    | ret x => exact p
    | next => exact p.elim
    | brk => exact p.elim
    | cont => exact p.elim

/-! ### self.x = v -/
structure SetIs (P : Prg) (C : Nat) (x : Str) : Prop where
  set_ : ∀ q, findIn (P.K q) (.ref C) "__setattr__" = some (some (.builtin "object.__setattr__"))
  over : ∀ q, plainOver (P.K q) C = true
  taker : ∀ q, takerIn (P.K q) C x = some none
  hasD : ∀ q, hasDictIn (P.K q) C = true
/-- the first attribute of a new instance -/
noncomputable def setAttrA (C : Nat) (x : Str) (v o : V) : W Unit := fun Q σ => match o with
  | .inst c i => c = C ∧ σ.objs[i]? = some (.attrs []) ∧ Q () { σ with objs := σ.objs.set i (.attrs [(x, v)]) }
  | _ => False
set_option tactic.hygienic true in
theorem setattr_sound {Φ : Ctx} (ok : Ctx.Ok κ Φ) {C : Nat} {x : Str} (S : SetIs κ.P C x) {g : G} {σ : St} {s : Shared} {v o : V} {y z : Value} {Q : Unit → St → Prop} (R : Rel κ Φ g σ s) (rv : VR g v y) (ro : VR g o z) (q : setAttrA C x v o Q σ) :
    wpAny (model κ.P.prog Φ.w) Φ.A (setAttr z x y) (PU κ Φ g Q) NoE s := by
  unfold setAttrA at q
  split at q
  · obtain ⟨rfl, hl, q⟩ := q
    rename_i c i
    obtain ⟨a, dx, sl, es, n, rfl, hi, hd, ha, I, hn⟩ := R.inst_at ro hl
    have hes : es = [] := List.eq_nil_of_length_eq_zero ha.1
    subst hes
    obtain ⟨m, rest, F, N, hne, back⟩ := R.ledger2 ok.above hi hd
    refine set_dict F ok.KIn N I rfl (S.set_ _) (S.over _) (S.taker _) (S.hasD _) (n' := n + 1) rfl rfl (.head hne) (by simp [putL]) fun h' F' N' => ?_
    have R' := back h' (s.toks + 2) _ (.attrs [(x, v)]) F' N' ⟨_, _, rfl, by rw [hn]; rfl, rfl, fun i' k u e e1 e2 => ?_⟩
    · exact ⟨g, _, .refl g, R', q⟩
    · cases i' with
      | zero =>
        simp [putL] at e1 e2
        obtain ⟨rfl, rfl⟩ := e1
        subst e2
        exact ⟨⟨_, rfl⟩, rfl, rv⟩
      | succ j => simp at e1
  · exact q.elim
theorem s_AssignT {t e : Expr} {pos : Pos} {f : W V} {fa : V → W Unit} (he : SE κ e f) (ht : SA κ t fa) (hs : ∀ env, swapsWith e (some t) pos.line env = pure false := by intro _; rfl)
    (hw : ∀ env, swappedStores [t] e env = pure none := by intro _; rfl) (hst : isStarred t = false := by rfl) : SS κ (.Assign [t] e pos) (bnd f fun v => bnd (fa v) fun _ => ret .next) := fun Φ ok g σ s Q R q => by
  refine wpAny_Assign_stores (wpAny_mono (he Φ ok g σ s _ R q) (fun y s₁ p => ?_) fun _ _ e => e) (hs _) (hw _)
  obtain ⟨g₁, a, σ₁, le₁, R₁, ra, q₁⟩ := p
  have e : (assignEach [t] Φ.env).map (·.2) = [assign t Φ.env] := by cases t <;> first | rfl | cases hst
  rw [e]
  refine wpAny_mono (ht Φ ok g₁ σ₁ s₁ _ a y R₁ ra q₁) (fun _ s₂ p => ?_) fun _ _ e => e
  obtain ⟨g₂, σ₂, le₂, R₂, q₂⟩ := p
  exact ⟨g₂, .next, σ₂, le₁.trans le₂, R₂, by simp only [FlR], q₂⟩
theorem a_Attr {o : Expr} {x : Str} {p : Pos} {C : Nat} {h : W V} (ho : SE κ o h) (S : SetIs κ.P C x) : SA κ (.Attribute o x p) (fun v => bnd h fun ov => setAttrA C x v ov) := fun Φ ok g σ s Q v y R rv q => by
  rw [arm_assign_Attribute]
  refine wpAny_bind (wpAny_holding (wpAny_mono (ho Φ ok g σ s _ R q) (fun z s₂ p => ?_) fun _ _ e => e))
  obtain ⟨g₂, b, σ₂, le₂, R₂, rb, q₂⟩ := p
  refine wpAny_bind (wpAny_standAt (wpAny_bind (wpAny_holding (wpAny_mono (setattr_sound ok S R₂ (VR.mono le₂ v rv) rb q₂) (fun _ s₃ p => ?_) fun _ _ e => e))))
  obtain ⟨g₃, σ₃, le₃, R₃, q₃⟩ := p
  exact wpAny_release ⟨g₃, σ₃, le₂.trans le₃, R₃, q₃⟩

/-! ### C(..) -/
structure ClsIs (P : Prg) (C fI : Nat) : Prop where
  makes : ∀ q, makesIn (P.K q) C = true
  init : ∀ q, findIn (P.K q) (.ref C) "__init__" = some (some (.ref fI))
  fn : ∀ q, typeIn (P.K q) (.ref fI) = some (.type "function")
  keep : ∀ q, keepIn (P.K q) (.ref C) = true
noncomputable def newW (C : Nat) (n m : Nat) (spec : Spec) (vs kvs : List V) : W V := fun Q σ => vs.length + 1 = n ∧ kvs.length = m ∧
  spec (.inst C σ.objs.length :: vs) kvs (σ.objs ++ [.attrs []]) fun v objs' => v = .none ∧ Q (.inst C σ.objs.length) { σ with objs := objs' }
/-- a new instance and its table become known -/
theorem class_rel {Φ : Ctx} {g : G} {σ : St} {s : Shared} {h' : Heap} {x dx : Addr} {C : Nat} (R : Rel κ Φ g σ s) (R1 : Rel κ Φ g σ { s with heap := h' }) (hold : ∀ b, Known Φ g b → b ≠ dx ∧ b ≠ x) (hx : h'.get? x = some (instObj C dx)) (hdx : h'.get? dx = some (dictOf [] 0)) (hxd : dx < x) :
    ∃ g', g.le g' ∧ Rel κ Φ g' { σ with objs := σ.objs ++ [.attrs []] } { s with heap := h' } ∧ VR g' (.inst C σ.objs.length) (.ref x) := by
  have T := R1.track (a := dx) (o := .attrs []) hdx (fun k => (hold _ k).1 rfl) ⟨[], 0, rfl, rfl, rfl, fun i k v e a => by simp at a⟩
  have nx : ¬ Known Φ ⟨g.fz, g.tr ++ [dx]⟩ x := by
    rintro (k | k | k | k)
    · have : x ∈ Φ.muts g ∨ x = dx := by
        simp only [Ctx.muts, List.mem_cons, List.mem_append, List.mem_nil_iff, or_false] at k ⊢
        rcases k with h | h | h | h
        · exact .inl (.inl h)
        · exact .inl (.inr (.inl h))
        · exact .inl (.inr (.inr h))
        · exact .inr h
      rcases this with h | h
      · exact (hold x (.inl h)).2 rfl
      · exact absurd h (Nat.ne_of_gt hxd)
    · exact (hold x (.inr (.inl k))).2 rfl
    · exact (hold x (.inr (.inr (.inl k)))).2 rfl
    · exact (hold x (.inr (.inr (.inr k)))).2 rfl
  have Z := T.1.freeze hx nx
  have le := T.2.trans Z.2
  have rx : VR ⟨(x, instObj C dx) :: g.fz, g.tr ++ [dx]⟩ (.inst C σ.objs.length) (.ref x) := by
    simp only [VR]
    exact ⟨x, dx, #[], rfl, by rw [← R.tr.1]; simp, .head _⟩
  exact ⟨_, le, Z.1, rx⟩
theorem cal_class {C fI : Nat} {D n : Nat} {kws : List Str} {spec : Spec} (I : ClsIs κ.P C fI) (hf : FnOK κ.P D fI n kws spec) (hD : D < κ.D) : CalOK κ (.ref C) kws (newW C n kws.length spec) := fun Φ ok g σ s vs xs kvs kxs Q R rv rk q => by
  obtain ⟨h1, h2, h3⟩ := q
  have X : (κ.P.K Φ.w.params).In s.heap := fun a o e => R.keep a o (ok.KIn a o e)
  obtain ⟨m, news, F, N, back, kn⟩ := R.ledgerK ok.above
  refine wpAny_call (make_K F N X (I.makes _) (I.init _) (I.fn _) fun x dx h' F' N' hlt hxd => ?_)
  have R1 : Rel κ Φ g σ { s with heap := h' } := back h' s.toks F' fun p hp => N' p (.tail _ (.tail _ hp))
  have hold : ∀ b, Known Φ g b → b ≠ dx ∧ b ≠ x := by
    intro b kb
    have n1 := N' _ (.tail _ (.head _))
    have n2 := N' _ (.head _)
    rcases kn b kb with e | e | ⟨o, e⟩
    · exact ⟨fun q => n1.2.1 (q ▸ e), fun q => n2.2.1 (q ▸ e)⟩
    · exact ⟨fun q => (by rw [q, n1.2.2] at e; cases e), fun q => (by rw [q, n2.2.2] at e; cases e)⟩
    · have := hlt _ e
      exact ⟨Nat.ne_of_lt this, Nat.ne_of_lt (Nat.lt_trans this hxd)⟩
  obtain ⟨g₁, le, Z1, rx⟩ := class_rel R R1 hold (N' _ (.head _)).1 (N' _ (.tail _ (.head _))).1 hxd
  have hA : (Φ.A.under (.builtin "type.__call__" ⟨.ref C :: xs, kws.zip kxs⟩)).handled = none := ok.handled
  refine codeAny_mono (hf κ Φ _ rfl hD ok hA ?_ ?_ rfl _ _ _ (.inst C σ.objs.length :: vs) (.ref x :: xs) kvs kxs _ Z1 (.cons rx (VRs.mono le vs rv)) (VRs.mono le kvs rk) h1 h2 h3) fun r s' p => ?_
  · have e : Code.weight (.builtin "type.__call__" ⟨.ref C :: xs, kws.zip kxs⟩) = 1 := by rfl
    show Φ.A.depth + Code.weight (.builtin "type.__call__" ⟨.ref C :: xs, kws.zip kxs⟩) ≤ _
    rw [e]; exact Nat.le_refl _
  · have e : Code.cUnits (.builtin "type.__call__" ⟨.ref C :: xs, kws.zip kxs⟩) = 1 := by rfl
    show Φ.A.units + Code.cUnits (.builtin "type.__call__" ⟨.ref C :: xs, kws.zip kxs⟩) ≤ _
    omega
  · cases r with
    | error e => exact p.elim
    | ok fl =>
      cases fl with
      | ret y =>
        obtain ⟨g', v, objs', le', R', rv', rfl, q'⟩ := p
        simp only [VR] at rv'
        exact ⟨rv', g', _, _, le.trans le', R', VR.mono le' _ rx, q'⟩
      | next => exact p.elim
      | brk => exact p.elim
      | cont => exact p.elim
end
end Mine

open PySem PySem.W PyProof.Rows PySem.Calls
set_option Elab.async false
set_option maxRecDepth 100000
set_option linter.unusedVariables false

namespace Mine

/-! ## Subscripts -/

/-- an item at a place, from behind too -/
noncomputable def idxL (l : List V) (k : Int) : Option V := if 0 ≤ k then l[k.toNat]? else if -(l.length : Int) ≤ k then l[(k + l.length).toNat]? else none
noncomputable def subA (v i : V) : W V := fun Q σ => match v, i with
  | .str x, .int k => -(2 ^ 62) ≤ k ∧ k < 2 ^ 62 ∧ (Txt.charAt x k).isSome = true ∧ Q (.str (Txt.item x k)) σ
  | .tup l, .int k => -(2 ^ 62) ≤ k ∧ k < 2 ^ 62 ∧ (match idxL l k with
    | some u => Q u σ
    | none => False)
  | v, .int k => -(2 ^ 62) ≤ k ∧ k < 2 ^ 62 ∧ (match seqOf σ.objs v with
    | some l => (match idxL l k with
      | some u => Q u σ
      | none => False)
    | none => False)
  | _, _ => False

section
variable {κ : Kap}

theorem tail_sound {prog : Program} {w : World} {A : Around} {E : Value → Shared → Prop} {s : Shared} {value slice : Expr} {o i : Value} {T id : String} {ops : List Value} {Q : Value → Shared → Prop} (hT : s.TypeIs o T)
    (hl : typeLookup (.type T) "__getitem__" = pure (some (.builtin id))) (h : wpAny (model prog w) A (getItem o i) Q E s) (hs : subscripted slice false o i = operate ops (getItem o i)) :
    wpAny (model prog w) A (subscriptTail value slice o i) Q E s := by
  unfold subscriptTail
  refine wpAny_bind ?_
  rw [getitemInPython_of_ne hT.not_modules]
  refine wpAny_bind (wpAny_specialOf hT hl ?_)
  have fin : wpAny (model prog w) A (subscripted slice false o i) (fun r s₃ => wpAny (model prog w) A (letTemporaryGo value o r >>= fun _ => pure r) Q E s₃) E s := by
    rw [hs]
    exact wpAny_operating (wpAny_mono h (fun r s₃ h₃ => wpAny_bind (wpAny_letTemporaryGo (wpAny_pure h₃))) fun _ _ x => x)
  first
    | exact wpAny_pure (wpAny_bind fin)
    | exact wpAny_bind (wpAny_pure (wpAny_bind fin))
    | exact wpAny_bind fin

set_option tactic.hygienic true in
theorem idx_list {prog : Program} {w : World} {A : Around} {E : Value → Shared → Prop} {s : Shared} {a : Addr} {xs : List Value} {n : Nat} {g : G} {l : List V} {k : Int} {t : Tok} {u : V} {Q : Value → Shared → Prop}
    (ha : s.heap.get? a = some (listO xs n)) (hr : VRs g l xs) (h1 : -(2 ^ 62) ≤ k) (h2 : k < 2 ^ 62) (hu : idxL l k = some u) (h : ∀ x, VR g u x → Q x s) : wpAny (model prog w) A (getItem (.ref a) (.int k t)) Q E s := by
  unfold idxL at hu
  split at hu
  · rename_i h0
    obtain ⟨x, hx, rx⟩ := hr.get hu
    exact wpAny_getItem_list (isList_of ha) h0 (by first | exact Int.le_trans (Int.le_of_lt h2) (by decide) | exact Int.lt_trans h2 (by decide) | exact Int.lt_of_lt_of_le h2 (by decide) | omega) (by simpa using hx) (h x rx)
  · split at hu
    · rename_i h0 h3
      have hl := hr.length
      obtain ⟨x, hx, rx⟩ := hr.get hu
      exact wpAny_getItem_list_neg (isList_of ha) (by first | exact Int.not_le.mp h0 | omega) (by simp [hl]; omega) (by first | exact Int.le_trans (by decide) h1 | exact Int.lt_of_lt_of_le (by decide) h1 | omega) (by simpa [hl] using hx) (h x rx)
    · cases hu
set_option tactic.hygienic true in
theorem idx_tup {prog : Program} {w : World} {A : Around} {E : Value → Shared → Prop} {s : Shared} {a : Addr} {xs : List Value} {n : Nat} {g : G} {l : List V} {k : Int} {t : Tok} {u : V} {Q : Value → Shared → Prop}
    (ha : s.heap.get? a = some (tupO xs n)) (hr : VRs g l xs) (h1 : -(2 ^ 62) ≤ k) (h2 : k < 2 ^ 62) (hu : idxL l k = some u) (h : ∀ x, VR g u x → Q x s) : wpAny (model prog w) A (getItem (.ref a) (.int k t)) Q E s := by
  have hl := hr.length
  have key : ∃ j, seqIndex? k xs.toArray.size = some j ∧ l[j]? = some u := by
    unfold idxL at hu
    unfold seqIndex?
    split at hu
    · rename_i h0
      have := (List.getElem?_eq_some_iff.mp hu).1
      refine ⟨k.toNat, ?_, hu⟩
      have e1 : ¬ k < 0 := Int.not_lt.mpr h0
      simp only [e1, if_false, List.size_toArray, hl]
      rw [if_pos]
      simp; omega
    · split at hu
      · rename_i h0 h3
        refine ⟨(k + l.length).toNat, ?_, hu⟩
        have e1 : k < 0 := Int.not_le.mp h0
        have := (List.getElem?_eq_some_iff.mp hu).1
        simp only [e1, if_true, List.size_toArray, hl]
        rw [if_pos]
        simp; omega
      · cases hu
  obtain ⟨j, hj, hju⟩ := key
  obtain ⟨x, hx, rx⟩ := hr.get hju
  exact getItem_tuple ⟨_, ha, rfl, n, rfl⟩ (by first | exact Int.le_trans (by decide) h1 | omega) (by first | exact Int.le_trans (Int.le_of_lt h2) (by decide) | exact Int.lt_trans h2 (by decide) | exact Int.lt_of_lt_of_le h2 (by decide) | omega) hj (by simpa using hx) (h x rx)

noncomputable def noSlice : Expr → Bool
  | .Slice .. => false
  | _ => true
theorem sub_plain {slice : Expr} {o i : Value} (h : noSlice slice = true) : subscripted slice false o i = operate [o, i] (getItem o i) := by
  cases slice <;> first | rfl | cases h

set_option tactic.hygienic true in
theorem r_Sub {value slice : Expr} {pos : Pos} {f h : W V} (hv : SE κ value f) (hi : SE κ slice h) (hs : noSlice slice = true := by rfl) : SE κ (.Subscript value slice pos) (bnd f fun v => bnd h fun i => subA v i) := fun Φ ok g σ s Q R q => by
  refine Subscript_ (wpAny_mono (hv Φ ok g σ s _ R q) (fun x s₁ p => ?_) fun _ _ e => e)
  obtain ⟨g₁, a, σ₁, le₁, R₁, ra, q₁⟩ := p
  refine wpAny_mono (hi Φ ok g₁ σ₁ s₁ _ R₁ q₁) (fun y s₂ p => ?_) fun _ _ e => e
  obtain ⟨g₂, b, σ₂, le₂, R₂, rb, q₂⟩ := p
  replace ra := VR.mono le₂ a ra
  have le := le₁.trans le₂
  have q₂ : subA a b Q σ₂ := q₂
  unfold subA at q₂
  split at q₂
  · rename_i z k
    simp only [VR] at ra rb
    obtain ⟨t, rfl⟩ := ra
    obtain ⟨u, rfl⟩ := rb
    obtain ⟨h1, h2, h3, h4⟩ := q₂
    refine tail_sound (typeIs_str _ _ _) F.slot_str_getitem.lookup (SB.getItem ?_ h3 ?_) (sub_plain hs)
    · unfold fitsSsize; simp; omega
    · exact ⟨g₂, .str _, σ₂, le, R₂.tok _, by simp only [VR]; exact ⟨_, rfl⟩, h4⟩
  · rename_i l k
    obtain ⟨ad, xs, n, rfl, h1, h2⟩ := R₂.tup_at ra
    simp only [VR] at rb
    obtain ⟨u, rfl⟩ := rb
    obtain ⟨q1, q2, q3⟩ := q₂
    split at q3
    · rename_i w hw
      exact tail_sound ⟨_, h1, rfl⟩ slot_tuple_getitem.lookup (idx_tup h1 h2 q1 q2 hw fun x rx => ⟨g₂, w, σ₂, le, R₂, rx, q3⟩) (sub_plain hs)
    · exact q3.elim
  · rename_i v k _ _
    obtain ⟨q1, q2, q3⟩ := q₂
    split at q3
    · rename_i l hl
      obtain ⟨ad, xs, n, rfl, h1, h2⟩ := R₂.seq_at ra hl
      simp only [VR] at rb
      obtain ⟨u, rfl⟩ := rb
      split at q3
      · rename_i w hw
        exact tail_sound ⟨_, h1, rfl⟩ slot_list_getitem.lookup (idx_list h1 h2 q1 q2 hw fun x rx => ⟨g₂, w, σ₂, le, R₂, rx, q3⟩) (sub_plain hs)
      · exact q3.elim
    · exact q3.elim
  · exact q₂.elim

/-! ### slices -/
noncomputable def SO (κ : Kap) (oe : Option Expr) (f : W (Option Int)) : Prop :=
  ∀ Φ, Ctx.Ok κ Φ → ∀ g σ s Q, Rel κ Φ g σ s → f Q σ → wpAny (model κ.P.prog Φ.w) Φ.A (valueOrNone (evalOpt oe Φ.env)) (fun x s' => ∃ g' k σ', g.le g' ∧ Rel κ Φ g' σ' s' ∧ IsPart x k ∧ Q k σ') NoE s
noncomputable def intW (v : V) : W (Option Int) := fun Q σ => match v with
  | .int i => Q (some i) σ
  | _ => False
theorem o_none : SO κ none (ret none) := fun Φ ok g σ s Q R q => wpAny_pure ⟨g, none, σ, .refl g, R, .none, q⟩
theorem o_some {e : Expr} {f : W V} (he : SE κ e f) : SO κ (some e) (bnd f intW) := fun Φ ok g σ s Q R q => by
  refine wpAny_mono (he Φ ok g σ s _ R q) (fun x s₁ p => ?_) fun _ _ e => e
  obtain ⟨g₁, a, σ₁, le₁, R₁, ra, q₁⟩ := p
  have q₁ : intW a Q σ₁ := q₁
  unfold intW at q₁
  split at q₁
  · simp only [VR] at ra
    obtain ⟨t, rfl⟩ := ra
    exact ⟨g₁, some _, σ₁, le₁, R₁, .int _ _, q₁⟩
  · exact q₁.elim
noncomputable def cutL {α : Type} (l : List α) (lo hi : Option Int) : Option (List α) := match lo, hi with
  | none, none => some l
  | some a, none => if 0 ≤ a then some (l.drop a.toNat) else none
  | none, some b => if 0 ≤ b then some (l.take b.toNat) else none
  | some _, some _ => none
set_option tactic.hygienic true in
theorem cut_pick {l : List V} {xs : List Value} {g : G} {lo hi : Option Int} {l' : List V} (hr : VRs g l xs) (h : cutL l lo hi = some l') : ∃ ys, slicePick xs.toArray lo hi none = ys.toArray ∧ VRs g l' ys ∧ ys.length ≤ xs.length := by
  have part : ∀ (k : Nat), VRs g (l.drop k) (xs.drop k) ∧ VRs g (l.take k) (xs.take k) := fun k => by
    constructor
    · refine VRs.of_get (by simp [hr.length]) fun i v x e1 e2 => ?_
      rw [List.getElem?_drop] at e1 e2
      obtain ⟨x', hx', rx⟩ := hr.get e1
      rw [e2] at hx'; cases hx'; exact rx
    · refine VRs.of_get (by simp [hr.length]) fun i v x e1 e2 => ?_
      rw [List.getElem?_take] at e1 e2
      split at e1
      · rename_i hk
        rw [if_pos hk] at e2
        obtain ⟨x', hx', rx⟩ := hr.get e1
        rw [e2] at hx'; cases hx'; exact rx
      · cases e1
  unfold cutL at h
  split at h
  · cases h; exact ⟨xs, slicePick_all _, hr, Nat.le_refl _⟩
  · split at h
    · rename_i a h0
      cases h
      have ea : a = (a.toNat : Int) := by omega
      refine ⟨xs.drop a.toNat, ?_, (part a.toNat).1, by simp⟩
      rw [ea, slicePick_from']; simp [← ea]
    · cases h
  · split at h
    · rename_i b h0
      cases h
      have eb : b = (b.toNat : Int) := by omega
      refine ⟨xs.take b.toNat, ?_, (part b.toNat).2, by rw [List.length_take]; exact Nat.min_le_right _ _⟩
      rw [eb, slicePick_upto']; simp [← eb]
    · cases h
  · cases h

/-- a slice: of a text; of a list, the new one frozen or tracked -/
noncomputable def sliceA (trk : Bool) (lo hi : Option Int) (v : V) : W V := fun Q σ => match v with
  | .str x => x.length ≤ sizeLine ∧ Q (.str (Txt.slice x lo hi)) σ
  | v => match seqOf σ.objs v with
    | some l => l.length ≤ sizeLine ∧ (match cutL l lo hi with
      | some l' => if trk then Q (.ref σ.objs.length) { σ with objs := σ.objs ++ [.list l'] } else Q (.lst l') σ
      | none => False)
    | none => False
set_option tactic.hygienic true in
theorem r_Slice (trk : Bool) {value : Expr} {lo hi : Option Expr} {pos p : Pos} {f : W V} {fl fu : W (Option Int)} (hv : SE κ value f) (hl : SO κ lo fl) (hu : SO κ hi fu) :
    SE κ (.Subscript value (.Slice lo hi none p) pos) (bnd f fun v => bnd fl fun a => bnd fu fun b => sliceA trk a b v) := fun Φ ok g σ s Q R q => by
  refine Subscript_ (wpAny_mono (hv Φ ok g σ s _ R q) (fun x s₁ p => ?_) fun _ _ e => e)
  obtain ⟨g₁, v, σ₁, le₁, R₁, rv, q₁⟩ := p
  show wpAny _ _ (do
    let l ← valueOrNone (evalOpt lo Φ.env)
    let u ← holding [l] (valueOrNone (evalOpt hi Φ.env))
    let s ← holding [l, u] (valueOrNone (evalOpt none Φ.env))
    newFields "slice" [l, u, s]) _ _ s₁
  refine wpAny_bind (wpAny_mono (hl Φ ok g₁ σ₁ s₁ _ R₁ q₁) (fun xl s₂ p => ?_) fun _ _ e => e)
  obtain ⟨g₂, kl, σ₂, le₂, R₂, pl, q₂⟩ := p
  refine wpAny_bind (wpAny_holding (wpAny_mono (hu Φ ok g₂ σ₂ s₂ _ R₂ q₂) (fun xu s₃ p => ?_) fun _ _ e => e))
  obtain ⟨g₃, ku, σ₃, le₃, R₃, pu, q₃⟩ := p
  have le := (le₁.trans le₂).trans le₃
  replace rv := VR.mono (le₂.trans le₃) v rv
  refine wpAny_bind (wpAny_holding (wpAny_pure ?_))
  refine wpAny_newObj_type ?_
  have q₃ : sliceA trk kl ku v Q σ₃ := q₃
  have hsub : ∀ o, subscripted (.Slice lo hi none p) false o (.ref s₃.heap.objs.size) = operate [.ref s₃.heap.objs.size, o] (getItem o (.ref s₃.heap.objs.size)) := fun _ => rfl
  unfold sliceA at q₃
  split at q₃
  · rename_i z _
    simp only [VR] at rv
    obtain ⟨t, rfl⟩ := rv
    obtain ⟨hz, q₃⟩ := q₃
    have fin : ∀ h' t' k, KeepsH s₃.heap h' → PE κ Φ g Q (.str (Txt.slice z kl ku) t') { s₃ with heap := h', toks := k } := fun h' t' k hk => ⟨g₃, .str _, σ₃, le, R₃.keeps hk, by simp only [VR]; exact ⟨_, rfl⟩, q₃⟩
    have hkp : KeptH (fun h' => KeepsH s₃.heap h') := fun h ob hp b o e => Heap.get?_push_of_some _ (hp b o e)
    have it : ItemOn (model κ.P.prog Φ.w) Φ.A NoE (.str z t) (.ref s₃.heap.objs.size) (PE κ Φ g Q) { s₃ with heap := s₃.heap.push { cls := .type "slice", data := .fields #[xl, xu, .none] } } := by
      cases pl <;> cases pu
      · exact SBH.sliceItem_nn hkp (fun _ _ e => e) fin hz
      · exact SBH.sliceItem_ns hkp (fun _ _ e => e) fin hz
      · exact SBH.sliceItem_sn hkp (fun _ _ e => e) fin hz
      · exact SBH.sliceItem_ss hkp (fun _ _ e => e) fin hz
    obtain ⟨T, id, h1, h2, h3⟩ := it
    exact tail_sound h2 h1 h3 (hsub _)
  · split at q₃
    · rename_i l hl
      obtain ⟨ad, xs, n, rfl, h1, h2⟩ := R₃.seq_at rv hl
      obtain ⟨hz, q₃⟩ := q₃
      split at q₃
      · rename_i l' hc
        obtain ⟨ys, hp, hy, hle⟩ := cut_pick h2 hc
        have h1' : (s₃.heap.push { cls := .type "slice", data := .fields #[xl, xu, .none] }).get? ad = some (listO xs n) := Heap.get?_push_of_some _ h1
        refine tail_sound (T := "list") ⟨_, h1', rfl⟩ slot_list_getitem.lookup (wpAny_getItem_list_slice (s := { s₃ with heap := s₃.heap.push { cls := .type "slice", data := .fields #[xl, xu, .none] } }) (isList_of h1') (Heap.IsSliceOf.new ..) pl pu .none (by simp) ?_ (by simp [h2.length]; exact hz)) (hsub _)
        rw [hp]
        have R₄ : Rel κ Φ g₃ σ₃ { s₃ with heap := s₃.heap.push { cls := .type "slice", data := .fields #[xl, xu, .none] } } := R₃.keeps (tk := s₃.toks) fun b o e => Heap.get?_push_of_some _ e
        have R₅ : Rel κ Φ g₃ σ₃ { s₃ with heap := (s₃.heap.push { cls := .type "slice", data := .fields #[xl, xu, .none] }).push { cls := .type "list", data := .seq ys.toArray } } := R₄.keeps (tk := s₃.toks) fun b o e => Heap.get?_push_of_some _ e
        have ho : ((s₃.heap.push { cls := .type "slice", data := .fields #[xl, xu, .none] }).push { cls := .type "list", data := .seq ys.toArray }).get? (s₃.heap.push { cls := .type "slice", data := .fields #[xl, xu, .none] }).objs.size = some (listO ys 0) := Heap.get?_push_size _ rfl
        cases trk with
        | false =>
          simp only [Bool.false_eq_true, if_false] at q₃
          obtain ⟨R₆, le'⟩ := R₅.freeze ho R₄.fresh
          refine ⟨_, .lst l', σ₃, le.trans le', R₆, ?_, q₃⟩
          simp only [VR]
          exact ⟨_, ys, 0, rfl, .head _, VRs.mono le' _ hy⟩
        | true =>
          simp only [if_true] at q₃
          obtain ⟨R₆, le'⟩ := R₅.track (o := .list l') ho R₄.fresh ⟨ys, 0, rfl, hy⟩
          refine ⟨_, .ref σ₃.objs.length, _, le.trans le', R₆, ?_, q₃⟩
          simp only [VR]
          exact ⟨_, rfl, by rw [← R₃.tr.1]; simp⟩
      · exact q₃.elim
    · exact q₃.elim
end
end Mine

open PySem PySem.W PyProof.Rows PySem.Calls
set_option Elab.async false
set_option maxRecDepth 100000
set_option linter.unusedVariables false

namespace Mine

/-! ## The special methods of the text's class -/
structure SpecIs (P : Prg) (C : Nat) (x : Str) (f : Addr) : Prop where
  find : ∀ q, findIn (P.K q) (.ref C) x = some (some (.ref f))
  fn : ∀ q, isFn (P.K q) (.ref f) = true
  fnI : ∀ q, fnIn (P.K q) f = true
  noSeq : ∀ q, PySem.W.noSeq (P.K q) C = true

noncomputable def instW (C : Nat) (n : Nat) (spec : Spec) (v : V) (args : List V) : W V := fun Q σ => match v with
  | .inst c i => c = C ∧ (∃ l, σ.objs[i]? = some (.attrs l)) ∧ (v :: args).length = n ∧ spec (v :: args) [] σ.objs fun u objs' => Q u { σ with objs := objs' }
  | _ => False

section
variable {κ : Kap}

theorem inst_open {Φ : Ctx} {g : G} {σ : St} {s : Shared} {C n : Nat} {spec : Spec} {v : V} {x : Value} {args : List V} {Q : V → St → Prop} (R : Rel κ Φ g σ s) (rv : VR g v x) (q : instW C n spec v args Q σ) :
    ∃ a ox od, x = .ref a ∧ InstAt s.heap a ox C (some od) ∧ (v :: args).length = n ∧ spec (v :: args) [] σ.objs fun u objs' => Q u { σ with objs := objs' } := by
  unfold instW at q
  split at q
  · obtain ⟨rfl, ⟨l, hl⟩, hn, hs⟩ := q
    obtain ⟨a, dx, sl, es, n, rfl, hi, hd, ha, I, _⟩ := R.inst_at rv hl
    exact ⟨a, _, _, rfl, I, hn, hs⟩
  · exact q.elim

theorem PEo.toPE {Φ : Ctx} {g : G} {σ : St} {Q : V → St → Prop} {x : Value} {s' : Shared} (p : PEo κ Φ g σ (fun u objs' => Q u { σ with objs := objs' }) x s') : PE κ Φ g Q x s' := by
  obtain ⟨g', v, objs', le, R', rv, q⟩ := p
  exact ⟨g', v, _, le, R', rv, q⟩

/-- o[i] by __getitem__ -/
theorem r_SubInst {value slice : Expr} {pos : Pos} {f h : W V} {C n D : Nat} {fa : Addr} {spec : Spec} (hv : SE κ value f) (hi : SE κ slice h) (S : SpecIs κ.P C "__getitem__" fa) (hf : FnOK κ.P D fa n [] spec) (hD : D < κ.D) (hs : noSlice slice = true := by rfl) :
    SE κ (.Subscript value slice pos) (bnd f fun v => bnd h fun i => instW C n spec v [i]) := fun Φ ok g σ s Q R q => by
  refine Subscript_ (wpAny_mono (hv Φ ok g σ s _ R q) (fun x s₁ p => ?_) fun _ _ e => e)
  obtain ⟨g₁, a, σ₁, le₁, R₁, ra, q₁⟩ := p
  refine wpAny_mono (hi Φ ok g₁ σ₁ s₁ _ R₁ q₁) (fun y s₂ p => ?_) fun _ _ e => e
  obtain ⟨g₂, b, σ₂, le₂, R₂, rb, q₂⟩ := p
  replace ra := VR.mono le₂ a ra
  obtain ⟨ad, ox, od, rfl, I, hn, hsp⟩ := inst_open R₂ ra q₂
  obtain ⟨m, news, F, N, back⟩ := R₂.ledger ok.above
  have hsl : subscripted slice true (.ref ad) y = runValue (.builtin "lifetime.subscript" ⟨[.ref ad, y], []⟩) := by cases slice <;> first | rfl | cases hs
  refine sub_K F ok.KIn I (S.find _) (S.fnI _) (S.fn _) (wpAny_mono (fn_call (A := Φ.A.in1) hf hD ok ok.handled (Nat.le_succ _) (Nat.add_le_add_left (by decide) _) rfl R₂ (.cons ra (.one rb)) .nil hn rfl hsp) (fun z s₃ p => (PEo.toPE p).le (le₁.trans le₂)) fun _ _ e => e) hsl

/-- del o[i] -/
theorem s_DelInst {value slice : Expr} {p pos : Pos} {f h : W V} {C n D : Nat} {fa : Addr} {spec : Spec} (hv : SE κ value f) (hi : SE κ slice h) (S : SpecIs κ.P C "__delitem__" fa) (hf : FnOK κ.P D fa n [] spec) (hD : D < κ.D) :
    SS κ (.Delete [.Subscript value slice p] pos) (bnd f fun v => bnd h fun i => bnd (instW C n spec v [i]) fun _ => ret .next) := fun Φ ok g σ s Q R q => by
  refine wpAny_Delete (wpAny_deleteEach_cons (wpAny_delete_Subscript (wpAny_mono (hv Φ ok g σ s _ R q) (fun x s₁ p => ?_) fun _ _ e => e)))
  obtain ⟨g₁, a, σ₁, le₁, R₁, ra, q₁⟩ := p
  refine wpAny_mono (hi Φ ok g₁ σ₁ s₁ _ R₁ q₁) (fun y s₂ p => ?_) fun _ _ e => e
  obtain ⟨g₂, b, σ₂, le₂, R₂, rb, q₂⟩ := p
  replace ra := VR.mono le₂ a ra
  obtain ⟨ad, ox, od, rfl, I, hn, hsp⟩ := inst_open R₂ ra q₂
  have X : (κ.P.K Φ.w.params).In s₂.heap := fun a o e => R₂.keep a o (ok.KIn a o e)
  unfold delItem sequenceKey
  refine wpAny_holding (wpAny_bind (wpAny_bind (I.type.here ?_)))
  refine wpAny_bind ((anyM_none X (S.noSeq _)).here ?_)
  rw [if_pos (show (!false) = true from rfl)]
  refine wpAny_pure (wpAny_bind (special_fn X I (S.find _) (beq_iff_eq.mp (S.fn _)) (wpAny_mono (fn_call (A := Φ.A) hf hD ok ok.handled (Nat.le_succ _) (Nat.le_add_right _ _) rfl R₂ (.cons ra (.one rb)) .nil hn rfl hsp) (fun z s₃ p => ?_) fun _ _ e => e)))
  obtain ⟨g₃, u, objs', le₃, R₃, ru, q₃⟩ := p
  exact wpAny_pure (wpAny_deleteEach_nil ⟨g₃, .next, _, (le₁.trans le₂).trans le₃, R₃, by simp only [FlR], q₃⟩)

/-- o[i] = v -/
theorem a_SubInst {value slice : Expr} {p : Pos} {f h : W V} {C n D : Nat} {fa : Addr} {spec : Spec} (hv : SE κ value f) (hi : SE κ slice h) (S : SpecIs κ.P C "__setitem__" fa) (hf : FnOK κ.P D fa n [] spec) (hD : D < κ.D) :
    SA κ (.Subscript value slice p) (fun u => bnd f fun v => bnd h fun i => bnd (instW C n spec v [i, u]) fun _ => ret ()) := fun Φ ok g σ s Q u yu R ru q => by
  rw [arm_assign_Subscript]
  refine wpAny_bind (wpAny_holding (wpAny_mono (hv Φ ok g σ s _ R q) (fun x s₁ p => ?_) fun _ _ e => e))
  obtain ⟨g₁, a, σ₁, le₁, R₁, ra, q₁⟩ := p
  refine wpAny_bind (wpAny_holding (wpAny_mono (hi Φ ok g₁ σ₁ s₁ _ R₁ q₁) (fun y s₂ p => ?_) fun _ _ e => e))
  obtain ⟨g₂, b, σ₂, le₂, R₂, rb, q₂⟩ := p
  replace ra := VR.mono le₂ a ra
  obtain ⟨ad, ox, od, rfl, I, hn, hsp⟩ := inst_open R₂ ra q₂
  obtain ⟨m, news, F, N, back⟩ := R₂.ledger ok.above
  refine wpAny_bind (wpAny_standAt (wpAny_bind (wpAny_holding (ksp_setItem F ok.KIn I (S.noSeq _) (S.find _) (S.fn _) (wpAny_mono (fn_call (A := Φ.A) hf hD ok ok.handled (Nat.le_succ _) (Nat.le_add_right _ _) rfl R₂ (.cons ra (.cons rb (.one (VR.mono (le₁.trans le₂) u ru)))) .nil hn rfl hsp) (fun z s₃ p => ?_) fun _ _ e => e)))))
  obtain ⟨g₃, w, objs', le₃, R₃, rw', q₃⟩ := p
  exact wpAny_release ⟨g₃, _, (le₁.trans le₂).trans le₃, R₃, q₃⟩

end
end Mine

open PySem PySem.W PyProof.Rows PySem.Calls
set_option Elab.async false
set_option maxRecDepth 100000
set_option linter.unusedVariables false

namespace Mine

/-! ## regex.search: a first set of signs -/

theorem rx_plainAttrs : PlainAttrs "re.Pattern" :=
  ⟨⟨"object.__getattribute__", by rw [typeLookup_type, builtinLookup_eq_fast]; kernel_rfl, by decide +kernel⟩, by rw [typeLookup_type, builtinLookup_eq_fast]; kernel_rfl⟩
theorem rx_slot : Slot "re.Pattern" "search" "re.Pattern.search" :=
  .of (owner := "re.Pattern") (n := "search") (by rw [typeLookup_type, builtinLookup_eq_fast]; kernel_rfl) (by decide +kernel) (by decide +kernel) (by decide +kernel)
    (by first | exact .inl (by decide +kernel) | exact .inr (by decide +kernel)) (by rw [isSubtype_type]; kernel_rfl)
theorem rx_type : typeOf (.builtin "re.Pattern.search") = pure (.type "method_descriptor") := by show builtinType _ = _; rw [builtinType_eq_fast]; kernel_rfl
theorem rx_entry : entryFor table "re.Pattern.search" = some Builtin.«re.Pattern.search» := entryFor_of_tree (by kernel_rfl)
theorem rx_owner : Manifest.owners.lookup (String.ofList ['n', 'r', 'e', 't', 't', 'a', 'P', '.', 'e', 'r'].reverse) = some Manifest.sig_re_Pattern := by kernel_rfl
theorem rx_args (a b : Value) : argsOk "re.Pattern.search" ⟨[a, b], []⟩ := by
  unfold argsOk; rw [signature?_of (id := "re.Pattern.search") (n := ['h', 'c', 'r', 'a', 'e', 's']) (o := ['n', 'r', 'e', 't', 't', 'a', 'P', '.', 'e', 'r']) (by kernel_rfl) rx_owner]; kernel_rfl


open PySem.Builtin.Re

/-- no sign of the text is in the first set -/
noncomputable def Clear (code text : Array Nat) : Prop := ∀ c ∈ text.toList, ∀ seen, ∃ seen', Sre.inSet code c code.size 5 true seen = .ok (false, seen')

set_option tactic.hygienic true in
theorem admitted_none {m : Sre.M} (h : Clear m.code m.text) (hl : m.lim ≤ m.text.size) : ∀ (fuel s : Nat) (seen : Sre.Seen), ∃ seen', m.admitted fuel s seen = .ok (none, seen')
  | 0, _, seen => ⟨seen, rfl⟩
  | fuel + 1, s, seen => by
    unfold Sre.M.admitted
    split
    · exact ⟨seen, rfl⟩
    · rename_i hs
      have hs' : s < m.text.size := by omega
      have hm : m.text.getD s 0 ∈ m.text.toList := by
        rw [Array.getD_eq_getD_getElem?, Array.getElem?_eq_getElem hs', Option.getD_some]
        exact Array.getElem_mem_toList hs'
      obtain ⟨seen', e⟩ := h _ hm seen
      rw [e]
      exact admitted_none h hl fuel (s + 1) seen'

theorem say_end (m : Sre.M) (h1 : m.answer = some false) (h2 : m.frames = []) (h3 : m.outcome = none) : (m.runFor 4).outcome = some .failed := by
  have e : m.step = { m with outcome := some .failed } := by
    unfold Sre.M.step
    simp only [h3, Option.isSome_none, Bool.false_eq_true, if_false, h1, h2]
  have e0 : m.runFor 4 = Sre.M.runFor 3 m.step := by
    show (if m.outcome.isSome then m else Sre.M.runFor 3 m.step) = _
    simp [h3]
  rw [e0, e]
  rfl

theorem attempt_none {code text : Array Nat} (h2 : ((match Sre.ops[code.getD 0 0]? with | some .INFO => true | _ => false) && code.getD 2 0 == 4) = true) (h : Clear code text) (m : Sre.M) (hc : m.code = code) (ht : m.text = text) (hl : m.lim = text.size)
    (hf : m.frames = []) (ho : m.outcome = none) (s : Nat) (b : Bool) : (m.attemptFrom s b).answer = some false ∧ (m.attemptFrom s b).frames = [] ∧ (m.attemptFrom s b).outcome = none := by
  unfold Sre.M.attemptFrom
  have hf' : m.hasFirstSet = true := by unfold Sre.M.hasFirstSet; rw [hc]; exact h2
  rw [hf']
  simp only [Bool.not_true, Bool.false_eq_true, if_false]
  obtain ⟨seen', e'⟩ := admitted_none (m := m) (by rw [hc, ht]; exact h) (by rw [hl, ht]; exact Nat.le_refl _) (m.lim + 1 - s) s m.seen
  rw [e']
  exact ⟨rfl, hf, ho⟩
theorem search_none {code text : Array Nat} (h2 : ((match Sre.ops[code.getD 0 0]? with | some .INFO => true | _ => false) && code.getD 2 0 == 4) = true) (h : Clear code text) :
    ((Sre.forSearch code text 0 0 text.size false).runFor 4).outcome = some .failed := by
  unfold Sre.forSearch
  dsimp only
  split
  · exact say_end _ rfl rfl rfl
  · exact say_end _ (attempt_none h2 h _ rfl rfl rfl rfl rfl 0 true).1 (attempt_none h2 h _ rfl rfl rfl rfl rfl 0 true).2.1 (attempt_none h2 h _ rfl rfl rfl rfl rfl 0 true).2.2

theorem rules_run {α : Type} {M : Model} {A : Around} {E : Value → Shared → Prop} {s : Shared} {f : α → PUnit → Sem (ForInStep PUnit)} (hf : ∀ i u (Q' : ForInStep PUnit → Shared → Prop), Q' (.yield ⟨⟩) s → wpAny M A (f i u) Q' E s)
    {Q : PUnit → Shared → Prop} (h : Q ⟨⟩ s) : ∀ (l : List α) (u : PUnit), wpAny M A (forIn l u f) Q E s
  | [], _ => wpAny_pure h
  | i :: r, u => by
    rw [List.forIn_cons]
    exact wpAny_bind (hf i u _ (rules_run hf h r ⟨⟩))

/-- the compiled pattern of the text -/
structure RxIs (P : Prg) (a : Addr) (code : Array Nat) : Prop where
  at_ : ∀ q, ∃ v0 v1 v3 v4 tp items n, (P.K q).lookup a = some { cls := .type "re.Pattern", data := .fields #[v0, v1, .int 0 0, v3, v4, .ref tp, .int 0 0] } ∧
    (P.K q).lookup tp = some { cls := .type "tuple", data := .seq items n } ∧ (items.map reRawOf).map (·.toNat) = code
  first : ((match Sre.ops[code.getD 0 0]? with | some .INFO => true | _ => false) && code.getD 2 0 == 4) = true

theorem rx_named (v : Value) : reNamed "re.Pattern.search" "search" ["string", "pos", "endpos"] 1 [v] [] = pure [some v, none, none] := by rfl

section
variable {κ : Kap}

noncomputable def isRx (a : Addr) (v : V) (_ : St) : Prop := v = .glob (.ref a)
theorem meth_rx {a : Addr} {code : Array Nat} (I : RxIs κ.P a code) : MethOK κ "search" (.builtin "re.Pattern.search") (isRx a) := fun Φ ok g σ s v x pl Q R rv hg q => by
  unfold isRx at hg
  subst hg
  simp only [VR] at rv
  subst rv
  obtain ⟨v0, v1, v3, v4, tp, items, n, h1, _⟩ := I.at_ Φ.w.params
  have X : (κ.P.K Φ.w.params).In s.heap := fun a o e => R.keep a o (ok.KIn a o e)
  exact getMethod_builtin ⟨_, X _ _ h1, rfl⟩ rx_plainAttrs rx_slot rx_type (fun b e => by cases e; exact ⟨_, X _ _ h1, rfl⟩) q

noncomputable def rxA (a : Addr) (code : Array Nat) (vs kvs : List V) : W V := fun Q σ => match vs with
  | [v, .str x] => v = .glob (.ref a) ∧ x.length ≤ sizeLine ∧ Clear code x.cps ∧ Q .none σ
  | _ => False
set_option tactic.hygienic true in
theorem cal_rx {a : Addr} {code : Array Nat} (I : RxIs κ.P a code) : CalOK κ (.builtin "re.Pattern.search") [] (rxA a code) := fun Φ ok g σ s vs xs kvs kxs Q R rv rk q => by
  unfold rxA at q
  split at q
  · rename_i v x
    obtain ⟨rfl, hsz, hclear, q⟩ := q
    simp only [VRs, VR] at rv
    obtain ⟨_, _, rfl, rfl, _, _, rfl, ⟨t, rfl⟩, rfl⟩ := rv
    obtain ⟨v0, v1, v3, v4, tp, items, n, h1, h2, h3⟩ := I.at_ Φ.w.params
    have X : (κ.P.K Φ.w.params).In s.heap := fun a o e => R.keep a o (ok.KIn a o e)
    have H1 := X _ _ h1
    have H2 := X _ _ h2
    refine wpAny_call_entry rx_slot ⟨_, H1, rfl⟩ rx_entry ?_ (rx_args _ _)
    unfold Builtin.«re.Pattern.search»
    refine wpAny_bind ?_
    unfold reTarget
    dsimp only
    refine wpAny_bind (wpAny_of_eq (rx_named _) ?_)
    dsimp only
    refine wpAny_bind (wpAny_pure (wpAny_bind (wpAny_pure (wpAny_bind (wpAny_fieldsOf H1 rfl ?_)))))
    have e1 : reTextOf (Value.str x t) = pure (x.cps, 0) := rfl
    rw [e1]
    refine wpAny_bind (wpAny_pure ?_)
    have g6 : reRawNat ((#[v0, v1, Value.int 0 0, v3, v4, Value.ref tp, Value.int 0 0] : Array Value).getD 6 Value.none) = 0 := rfl
    have g5 : (#[v0, v1, Value.int 0 0, v3, v4, Value.ref tp, Value.int 0 0] : Array Value).getD 5 Value.none = .ref tp := rfl
    have g2 : reRawNat ((#[v0, v1, Value.int 0 0, v3, v4, Value.ref tp, Value.int 0 0] : Array Value).getD 2 Value.none) = 0 := rfl
    have e2 : reNoCollectionInside (Value.str x t) 0 = pure () := rfl
    simp only [g6, g5, g2, e2]
    simp only [beq_self_eq_true, Bool.true_and, Nat.reduceBEq, Bool.false_eq_true, if_false, Bool.and_false, Bool.false_and]
    refine wpAny_bind (wpAny_pure ?_)
    unfold reRawItems
    refine wpAny_bind (wpAny_bind (wpAny_seqItems H2 rfl (wpAny_pure (wpAny_pure ?_))))
    have hlim : min (2 ^ 63 - 1 : Int).toNat x.cps.size = x.cps.size := by
      have : x.cps.size ≤ 16777216 := by rw [sizeLine_eq] at hsz; exact hsz
      exact Nat.min_eq_right (Nat.le_trans this (by decide))
    have hpos : min (Int.toNat 0) x.cps.size = 0 := by simp
    simp only [Option.getD_some, h3, hlim, hpos]
    have hend := search_none I.first hclear
    unfold reAnswer
    refine wpAny_bind ?_
    unfold reRunToEnd
    refine wpAny_bind ?_
    have e3 : reDrive (2 ^ 64) (Sre.forSearch code x.cps 0 0 x.cps.size false) = pure ((Sre.forSearch code x.cps 0 0 x.cps.size false).runFor 4) := by
      show (if ((Sre.forSearch code x.cps 0 0 x.cps.size false).runFor reTurnSteps).outcome.isSome then pure ((Sre.forSearch code x.cps 0 0 x.cps.size false).runFor reTurnSteps) else _) = _
      rw [show reTurnSteps = 4 from rfl, hend]; rfl
    refine wpAny_of_eq e3 ?_
    refine wpAny_bind (rules_run (fun i u Q' hq => ?_) ?_ _ _)
    · split
      · exact wpAny_bind (wpAny_rule (wpAny_pure hq))
      · exact wpAny_pure hq
    · simp only [hend]
      exact wpAny_pure (wpAny_pure ⟨.none, rfl, ⟨g, .none, σ, .refl g, R, by simp only [VR], q⟩⟩)
  · exact q.elim
end
end Mine

open PySem PySem.W PyProof.Rows PySem.Calls
set_option Elab.async false
set_option maxRecDepth 100000
set_option linter.unusedVariables false

namespace Mine

/-! ## Loops -/

noncomputable def Ctx.pin (Φ : Ctx) (ps : List (Addr × Obj)) : Ctx := { Φ with pins := ps ++ Φ.pins }

section
variable {κ : Kap} {Φ : Ctx} {g : G} {σ : St} {s : Shared}

theorem Ctx.Ok.pin (ok : Ctx.Ok κ Φ) (ps : List (Addr × Obj)) : Ctx.Ok κ (Φ.pin ps) :=
  ⟨ok.kinds, ok.kind, ok.globals, ok.builtins, ok.handled, ok.KIn, ok.nolim, ok.globs, ok.depth, ok.cwr, ok.above, ok.cinj, ok.units, ok.frames, ok.outsIn⟩

theorem Rel.pin (R : Rel κ Φ g σ s) {ps : List (Addr × Obj)} (h1 : ∀ p ∈ ps, s.heap.get? p.1 = some p.2) (h2 : ∀ p ∈ ps, ¬ Known Φ g p.1) : Rel κ (Φ.pin ps) g σ s := by
  refine ⟨R.ns, R.cells, R.keep, R.fz, fun p hp => ?_, R.tr, fun a ha => ⟨(R.muts a ha).1, (R.muts a ha).2.1, fun p hp => ?_⟩, R.nodup, fun p hp => ?_, R.cellsOk, R.gens, R.os, R.forb⟩
  · rcases List.mem_append.mp hp with hp | hp
    · exact h1 p hp
    · exact R.pins p hp
  · rcases List.mem_append.mp hp with hp | hp
    · intro e; exact h2 p hp (.inl (e ▸ ha))
    · exact (R.muts a ha).2.2 p hp
  · rcases List.mem_append.mp hp with hp | hp
    · refine ⟨?_, fun q hq e => h2 p hp (.inr (.inl ⟨q, hq, e⟩))⟩
      show Φ.h₀.get? p.1 = none
      cases q : Φ.h₀.get? p.1 with
      | none => rfl
      | some o => exact absurd (.inr (.inr (.inr (by rw [q]; rfl)))) (h2 p hp)
    · exact R.pinsOk p hp
theorem Rel.unpin {ps : List (Addr × Obj)} (R : Rel κ (Φ.pin ps) g σ s) (hd : ∀ p ∈ ps, ∀ q ∈ Φ.pins, q.1 ≠ p.1) : Rel κ Φ g σ s ∧ (∀ p ∈ ps, s.heap.get? p.1 = some p.2) ∧ ∀ p ∈ ps, ¬ Known Φ g p.1 := by
  refine ⟨⟨R.ns, R.cells, R.keep, R.fz, fun p hp => R.pins p (List.mem_append_right _ hp), R.tr, fun a ha => ⟨(R.muts a ha).1, (R.muts a ha).2.1, fun p hp => (R.muts a ha).2.2 p (List.mem_append_right _ hp)⟩, R.nodup, fun p hp => R.pinsOk p (List.mem_append_right _ hp), R.cellsOk, R.gens, R.os, R.forb⟩,
    fun p hp => R.pins p (List.mem_append_left _ hp), fun p hp k => ?_⟩
  have hpin : p ∈ (Φ.pin ps).pins := List.mem_append_left _ hp
  rcases k with k | ⟨q, hq, e⟩ | ⟨q, hq, e⟩ | k
  · exact (R.muts p.1 k).2.2 p hpin rfl
  · exact (R.pinsOk p hpin).2 q hq e
  · exact hd p hp q hq e
  · rw [show Φ.h₀.get? p.1 = none from (R.pinsOk p hpin).1] at k; cases k
end

/-- a source of items, as a loop sees it -/
structure Src (κ : Kap) (Φ : Ctx) (g₀ : G) (target : Expr) (it : Value) (Is : List Addr) (St : Nat → Heap → Prop) (items : List V) (chk : Mine.St → Prop) : Prop where
  here : ∀ j h, St j h → ∀ I ∈ Is, ∃ o, h.get? I = some o
  next : ∀ j v g σ s (Q : Option Value → Shared → Prop), items[j]? = some v → g₀.le g → Rel κ Φ g σ s → chk σ → St j s.heap → (∀ I ∈ Is, ¬ Known Φ g I) →
    (∀ x s', (∀ (K : Unit → Shared → Prop), (∀ g' h' tk, g.le g' → VR g' v x → Rel κ Φ g' σ { s with heap := h', toks := tk } → (∀ I ∈ Is, ¬ Known Φ g' I) → St (j + 1) h' → K () { s with heap := h', toks := tk }) →
      wpAny (model κ.P.prog Φ.w) Φ.A (letOwnedTupleGo target it x) K NoE s') → Q (some x) s') → wpAny (model κ.P.prog Φ.w) Φ.A (pyNext it) Q NoE s
  stop : ∀ g σ s (Q : Option Value → Shared → Prop), g₀.le g → Rel κ Φ g σ s → chk σ → St items.length s.heap → (∀ I ∈ Is, ¬ Known Φ g I) →
    (∀ h' tk, Rel κ Φ g σ { s with heap := h', toks := tk } → Q none { s with heap := h', toks := tk }) → wpAny (model κ.P.prog Φ.w) Φ.A (pyNext it) Q NoE s
  frame : ∀ j g σ s g' σ' s', Rel κ Φ g σ s → Rel κ Φ g' σ' s' → g₀.le g → g.le g' → St j s.heap → (∀ I ∈ Is, ∀ o, s.heap.get? I = some o → s'.heap.get? I = some o) → St j s'.heap
  self : ∀ j s (Q : Value → Shared → Prop), St j s.heap → Q it s → wpAny (model κ.P.prog Φ.w) Φ.A (pyIter it) Q NoE s

noncomputable def forL (chk : St → Prop) (tgt : V → W Unit) (body : W Fl) : List V → W Fl
  | [], Q, σ => chk σ ∧ Q .next σ
  | v :: vs, Q, σ => chk σ ∧ tgt v (fun _ σ₁ => body (fun fl σ₂ => match fl with
    | .next => forL chk tgt body vs Q σ₂
    | .cont => forL chk tgt body vs Q σ₂
    | .brk => Q .next σ₂
    | .ret u => Q (.ret u) σ₂) σ₁) σ
theorem forL_chk {chk : St → Prop} {tgt : V → W Unit} {body : W Fl} {l : List V} {Q : Fl → St → Prop} {σ : St} (h : forL chk tgt body l Q σ) : chk σ := by
  cases l <;> exact h.1

/-- the pins of a source's own objects -/
noncomputable def pinsOf (h : Heap) (Is : List Addr) : List (Addr × Obj) := Is.filterMap fun I => (h.get? I).map fun o => (I, o)
theorem mem_pinsOf {h : Heap} {Is : List Addr} {p : Addr × Obj} : p ∈ pinsOf h Is ↔ p.1 ∈ Is ∧ h.get? p.1 = some p.2 := by
  unfold pinsOf
  rw [List.mem_filterMap]
  constructor
  · rintro ⟨I, hI, e⟩
    cases q : h.get? I with
    | none => rw [q] at e; cases e
    | some o => rw [q] at e; cases e; exact ⟨hI, q⟩
  · rintro ⟨hI, e⟩
    exact ⟨p.1, hI, by rw [e]; rfl⟩

theorem for_src {κ : Kap} {Φ : Ctx} (ok : Ctx.Ok κ Φ) {g : G} {σ : St} {s : Shared} {target : Expr} {it : Value} {Is : List Addr} {S : Nat → Heap → Prop} {items : List V} {chk : St → Prop} {tgt : V → W Unit} {body : List Stmt} {fb : W Fl} {Q : Fl → St → Prop}
    (src : Src κ Φ g target it Is S items chk) (ht : SA κ target tgt) (hb : SB κ body fb) (R : Rel κ Φ g σ s) (h0 : S 0 s.heap) (hI : ∀ I ∈ Is, ¬ Known Φ g I) (h : forL chk tgt fb items Q σ) :
    codeAny (model κ.P.prog Φ.w) Φ.A (.forLoop target it body [] Φ.env) (fun r s' => match r with | .ok f => PF κ Φ g Q f s' | .error _ => False) s := by
  refine codeAny_forLoop_any (fun n s => ∃ j g' σ', n + j = items.length ∧ g.le g' ∧ Rel κ Φ g' σ' s ∧ S j s.heap ∧ (∀ I ∈ Is, ¬ Known Φ g' I) ∧ forL chk tgt fb (items.drop j) Q σ') (fun n s₁ hn => ?_) items.length ⟨0, g, σ, Nat.add_zero _, .refl g, R, h0, hI, by simpa using h⟩
  obtain ⟨j, g₁, σ₁, hj, le₁, R₁, hS, hI₁, hf⟩ := hn
  have hck := forL_chk hf
  cases n with
  | zero =>
    have hj' : j = items.length := (Nat.zero_add j).symm.trans hj
    subst hj'
    rw [List.drop_length] at hf
    refine wpAny_mono (src.stop g₁ σ₁ s₁ _ le₁ R₁ hck hS hI₁ fun h' tk R' => ?_) (fun _ _ p => p) fun _ _ e => e.elim
    exact wpAny_execs_nil ⟨g₁, .next, σ₁, le₁, R', by simp only [FlR], hf.2⟩
  | succ n =>
    have hjl : j < items.length := by rw [← hj]; exact Nat.lt_add_of_pos_left (Nat.succ_pos n)
    have hd : items.drop j = items[j] :: items.drop (j + 1) := List.drop_eq_getElem_cons hjl
    rw [hd] at hf
    refine wpAny_mono (src.next j items[j] g₁ σ₁ s₁ _ (List.getElem?_eq_getElem hjl) le₁ R₁ hck hS hI₁ fun x s' hgo => ?_) (fun _ _ p => p) fun _ _ e => e.elim
    refine wpAny_mono (hgo (fun _ s'' => wpAny (model κ.P.prog Φ.w) Φ.A (assign target Φ.env x) (fun _ s₂ => wpAny (model κ.P.prog Φ.w) Φ.A (execs body Φ.env) (fun f s₃ => match f with
        | .next | .cont => ∃ m, m < n + 1 ∧ ∃ j g' σ', m + j = items.length ∧ g.le g' ∧ Rel κ Φ g' σ' s₃ ∧ S j s₃.heap ∧ (∀ I ∈ Is, ¬ Known Φ g' I) ∧ forL chk tgt fb (items.drop j) Q σ'
        | .brk => PF κ Φ g Q .next s₃
        | .ret v => PF κ Φ g Q (.ret v) s₃) NoE s₂) NoE s'') fun g₂ h' tk le₂ rx R₂ hI₂ hS₂ => ?_) (fun _ s'' p => wpAny_mono p (fun _ s₂ p => wpAny_mono p (fun f s₃ p => ?_) fun _ _ e => e.elim) fun _ _ e => e.elim) fun _ _ e => e.elim
    · let ps := pinsOf h' Is
      have hp1 : ∀ p ∈ ps, h'.get? p.1 = some p.2 := fun p hp => (mem_pinsOf.mp hp).2
      have hp2 : ∀ p ∈ ps, ¬ Known Φ g₂ p.1 := fun p hp => hI₂ _ (mem_pinsOf.mp hp).1
      have hd' : ∀ p ∈ ps, ∀ q ∈ Φ.pins, q.1 ≠ p.1 := fun p hp q hq e => hp2 p hp (.inr (.inr (.inl ⟨q, hq, e⟩)))
      have RP := R₂.pin hp1 hp2
      refine wpAny_mono (ht (Φ.pin ps) (ok.pin ps) g₂ σ₁ _ _ _ _ RP rx hf.2) (fun _ s₂ p => ?_) fun _ _ e => e
      obtain ⟨g₃, σ₃, le₃, R₃, q₃⟩ := p
      refine wpAny_mono (hb (Φ.pin ps) (ok.pin ps) g₃ σ₃ s₂ _ R₃ q₃) (fun f s₃ p => ?_) fun _ _ e => e
      obtain ⟨g₄, fl, σ₄, le₄, R₄, rf, q₄⟩ := p
      obtain ⟨R₅, k1, k2⟩ := R₄.unpin hd'
      have le := ((le₁.trans le₂).trans le₃).trans le₄
      have cont : forL chk tgt fb (items.drop (j + 1)) Q σ₄ → ∃ m, m < n + 1 ∧ ∃ j g' σ', m + j = items.length ∧ g.le g' ∧ Rel κ Φ g' σ' s₃ ∧ S j s₃.heap ∧ (∀ I ∈ Is, ¬ Known Φ g' I) ∧ forL chk tgt fb (items.drop j) Q σ' := fun hq => by
        refine ⟨n, Nat.lt_succ_self n, j + 1, g₄, σ₄, (Nat.succ_add_eq_add_succ n j).symm.trans hj, le, R₅, ?_, fun I hI => ?_, hq⟩
        · refine src.frame (j + 1) g₂ σ₁ _ g₄ σ₄ s₃ R₂ R₅ (le₁.trans le₂) (le₃.trans le₄) hS₂ fun I hI o ho => k1 (I, o) (mem_pinsOf.mpr ⟨hI, ho⟩)
        · obtain ⟨o, ho⟩ := src.here _ _ hS₂ I hI
          exact k2 (I, o) (mem_pinsOf.mpr ⟨hI, ho⟩)
      cases fl with
      | next => simp only [FlR] at rf; subst rf; exact cont q₄
      | cont => simp only [FlR] at rf; subst rf; exact cont q₄
      | brk => simp only [FlR] at rf; subst rf; exact ⟨g₄, .next, σ₄, le, R₅, by simp only [FlR], q₄⟩
      | ret v => simp only [FlR] at rf; obtain ⟨x, rfl, rv⟩ := rf; exact ⟨g₄, .ret v, σ₄, le, R₅, by simp only [FlR]; exact ⟨x, rfl, rv⟩, q₄⟩
    · cases f <;> exact p

/-- the same source, in whatever frame -/
noncomputable def SrcAll (P : Prg) (w : World) (A : Around) (g : G) (target : Expr) (it : Value) (Is : List Addr) (S : Nat → Heap → Prop) (items : List V) (chk : List O → Prop) : Prop :=
  ∀ (κ : Kap) (Φ : Ctx), κ.P = P → Φ.w = w → Φ.A = A → Src κ Φ g target it Is S items (fun σ => chk σ.objs)

/-- an iterable expression of a loop -/
noncomputable def SI (κ : Kap) (target iter : Expr) (f : W (List V × (List O → Prop))) : Prop :=
  ∀ Φ, Ctx.Ok κ Φ → ∀ g σ s Q, Rel κ Φ g σ s → f Q σ → wpAny (model κ.P.prog Φ.w) Φ.A (eval iter Φ.env) (fun x s₁ => wpAny (model κ.P.prog Φ.w) Φ.A (pyIter x)
    (fun it s' => ∃ g' p σ' Is S, g.le g' ∧ Rel κ Φ g' σ' s' ∧ SrcAll κ.P Φ.w Φ.A g' target it Is S p.1 p.2 ∧ S 0 s'.heap ∧ (∀ I ∈ Is, ¬ Known Φ g' I) ∧ Q p σ') NoE s₁) NoE s

noncomputable def noSet : Expr → Bool
  | .Set .. => false
  | _ => true
theorem noSet_fold {e : Expr} {env : Env} {x : Value} (h : noSet e = true) : foldedSetIterable e env x = pure x := by
  cases e <;> first | rfl | cases h

theorem s_For {κ : Kap} {target iter : Expr} {body : List Stmt} {pos : Pos} {fi : W (List V × (List O → Prop))} {tgt : V → W Unit} {fb : W Fl} (hi : SI κ target iter fi) (ht : SA κ target tgt) (hb : SB κ body fb) (hn : noSet iter = true := by rfl) :
    SS κ (.For target iter body [] pos) (bnd fi fun p => forL (fun σ => p.2 σ.objs) tgt fb p.1) := fun Φ ok g σ s Q R q => by
  refine wpAny_For (wpAny_mono (hi Φ ok g σ s _ R q) (fun x s₁ p => wpAny_mono p (fun it s₂ p => ?_) fun _ _ e => e) fun _ _ e => e) (fun _ => noSet_fold hn)
  obtain ⟨g', ⟨items, chk⟩, σ', Is, S, le, R', src, h0, hI, q'⟩ := p
  refine codeAny_mono (for_src ok (src κ Φ rfl rfl rfl) ht hb R' h0 hI q') fun r s' p => ?_
  cases r with
  | ok f => exact p.le le
  | error e => exact p.elim

end Mine

open PySem PySem.W PyProof.Rows PySem.Calls
set_option Elab.async false
set_option maxRecDepth 100000
set_option linter.unusedVariables false

namespace Mine

/-! ## Sources of items -/

noncomputable def ownNames : List String := ["enumerate", "zip", "dict_itemiterator", "dict_reverseitemiterator", "odict_iterator", "itertools.zip_longest", "itertools.pairwise"]
theorem lotg {M : Model} {A : Around} {E : Value → Shared → Prop} {s : Shared} {target : Expr} {I : Addr} {x : Value} {o : Obj} {n : String} {K : Unit → Shared → Prop} (ho : s.heap.get? I = some o) (hc : o.cls = .type n) (hn : ownNames.contains n = false) (h : K () s) :
    wpAny M A (letOwnedTupleGo target (.ref I) x) K E s := by
  unfold letOwnedTupleGo
  have fin : ∀ {y : Value}, wpAny M A (do
      let (.ref r, .ref a) := (Value.ref I, y) | return
      let o ← load r
      match o.cls, o.data with
      | .type n, .fields vs =>
        if ["enumerate", "zip", "dict_itemiterator", "dict_reverseitemiterator", "odict_iterator", "itertools.zip_longest", "itertools.pairwise"].contains n && vs[0]? == some (rawInt a) then
          rule "for.unpacks-the-owned-tuple"
          updateField r 0 .none
      | _, _ => pure ()) K E s := by
    intro y
    cases y with
    | ref a =>
      refine wpAny_bind (wpAny_load ho ?_)
      rw [hc]
      cases o.data with
      | fields vs =>
        have hn' : (["enumerate", "zip", "dict_itemiterator", "dict_reverseitemiterator", "odict_iterator", "itertools.zip_longest", "itertools.pairwise"].contains n) = false := hn
        simp only [hn', Bool.false_and, Bool.false_eq_true, if_false]
        exact wpAny_pure h
      | _ => exact wpAny_pure h
    | _ => exact wpAny_pure h
  split
  · exact fin
  · exact fin
  · exact wpAny_pure h

section
variable {κ : Kap} {Φ : Ctx}

theorem notKnown_ne {g : G} {I b : Addr} (h : ¬ Known Φ g I) (k : Known Φ g b) : b ≠ I := fun e => h (e ▸ k)
theorem Rel.sameBut {g : G} {σ : St} {s : Shared} (R : Rel κ Φ g σ s) {I : Addr} (hI : ¬ Known Φ g I) {h' : Heap} {tk : Nat} (hs : Heap.ExtBut I s.heap h') : Rel κ Φ g σ { s with heap := h', toks := tk } :=
  R.ext fun b o k e => hs b o (notKnown_ne hI k) e

/-- a list, frozen or tracked -/
theorem src_list (hh : Φ.A.handled = none) {g₀ : G} {target : Expr} {v : V} {l : List V} {a I : Addr} (rv : VR g₀ v (.ref a)) : Src κ Φ g₀ target (.ref I) [I] (fun j h => h.IsListIter I a j) l (fun σ => seqOf σ.objs v = some l) where
  here := fun j h ⟨o, ho, _⟩ I' hI' => by rw [List.mem_singleton.mp hI']; exact ⟨o, ho⟩
  next := fun j u g σ s Q hu le R hc hS hI hQ => by
    obtain ⟨a', xs, n, e, h1, h2⟩ := R.seq_at (VR.mono le v rv) hc
    cases e
    obtain ⟨x, hx, rx⟩ := h2.get hu
    refine wpAny_pyNext_list_item hS (isList_of h1) (by simpa using hx) fun h' hit hs => hQ x _ fun K hK => ?_
    obtain ⟨o, ho, hc', _⟩ := id hit
    exact lotg (s := { s with heap := h' }) ho hc' (by decide) (hK g h' s.toks (.refl g) rx (R.sameBut (hI I (.head _)) hs.extBut) hI hit)
  stop := fun g σ s Q le R hc hS hI hQ => by
    obtain ⟨a', xs, n, e, h1, h2⟩ := R.seq_at (VR.mono le v rv) hc
    cases e
    refine wpAny_pyNext_list_end hh hS (isList_of h1) (by have := h2.length; simp; omega) fun h' he => hQ h' s.toks (R.sameBut (hI I (.head _)) he)
  frame := fun j g σ s g' σ' s' _ _ _ _ hS hk => by
    obtain ⟨o, ho, r⟩ := hS
    exact ⟨o, hk I (.head _) o ho, r⟩
  self := fun j s Q hS q => wpAny_pyIter_listiter hS q

theorem src_walks {g₀ : G} {target : Expr} {I : Addr} {fp wr : List Addr} {n : Nat} {P : Nat → Value → Prop} {S : Nat → Heap → Prop} {items : List V} (Wk : Walks κ.P.prog Φ.w Φ.A I fp wr n P S) (hwr : ∀ b ∈ wr, b = I) (hfp : ∀ b ∈ fp, b = I ∨ ∃ o, (b, o) ∈ g₀.fz)
    (hn : n = items.length) (hP : ∀ j x, P j x → ∀ v, items[j]? = some v → ∀ g, g₀.le g → VR g v x) (hcls : ∀ j h, S j h → ∃ o T, h.get? I = some o ∧ o.cls = .type T ∧ ownNames.contains T = false) : Src κ Φ g₀ target (.ref I) [I] S items (fun _ => True) where
  here := fun j h hS I' hI' => by rw [List.mem_singleton.mp hI']; obtain ⟨o, _, ho, _⟩ := hcls j h hS; exact ⟨o, ho⟩
  next := fun j u g σ s Q hu le R hc hS hI hQ => by
    have hj : j < n := by rw [hn]; exact (List.getElem?_eq_some_iff.mp hu).1
    refine Wk.item j s Q NoE hj hS fun x h' tk hp hS' hk => hQ x _ fun K hK => ?_
    obtain ⟨o, T, ho, hc', hT⟩ := hcls _ _ hS'
    refine lotg (s := { s with heap := h', toks := tk }) ho hc' hT (hK g h' tk (.refl g) (hP j x hp u hu g le) (R.ext fun b o k e => hk b o (fun hb => notKnown_ne (hI I (.head _)) k (hwr b hb)) e) hI hS')
  stop := fun g σ s Q le R hc hS hI hQ => by
    rw [← hn] at hS
    exact Wk.done s Q NoE hS fun h' tk hk => hQ h' tk (R.ext fun b o k e => hk b o (fun hb => notKnown_ne (hI I (.head _)) k (hwr b hb)) e)
  frame := fun j g σ s g' σ' s' R R' le le' hS hk => by
    refine Wk.frame j _ _ hS fun b hb o ho => ?_
    rcases hfp b hb with rfl | ⟨o', hm⟩
    · exact hk b (.head _) o ho
    · have e1 := R.fz _ (le.1 _ hm)
      have e2 := R'.fz _ (le'.1 _ (le.1 _ hm))
      rw [ho] at e1; cases e1; exact e2
  self := fun j s Q hS q => Wk.self j s Q NoE hS q

/-- the signs of a text -/
noncomputable def signsV (x : Str) : List V := x.cps.toList.map fun c => .str ⟨#[c]⟩
noncomputable def itemsW (v : V) : W (List V × (List O → Prop)) := fun Q σ => match v with
  | .str x => Q (signsV x, fun _ => True) σ
  | .tup l => Q (l, fun _ => True) σ
  | v => match seqOf σ.objs v with
    | some l => Q (l, fun os => seqOf os v = some l) σ
    | none => False

theorem push_pack {g : G} {σ : St} {s : Shared} (R : Rel κ Φ g σ s) (o : Obj) : Rel κ Φ g σ { s with heap := s.heap.push o } := R.keeps (tk := s.toks) fun b o e => Heap.get?_push_of_some _ e

set_option tactic.hygienic true in
theorem i_seq {target iter : Expr} {f : W V} (hi : SE κ iter f) : SI κ target iter (bnd f itemsW) := fun Φ ok g σ s Q R q => by
  refine wpAny_mono (hi Φ ok g σ s _ R q) (fun x s₁ p => ?_) fun _ _ e => e
  obtain ⟨g₁, v, σ₁, le₁, R₁, rv, q₁⟩ := p
  have q₁ : itemsW v Q σ₁ := q₁
  unfold itemsW at q₁
  split at q₁
  · rename_i z _
    simp only [VR] at rv
    obtain ⟨t, rfl⟩ := rv
    have hP : ∀ j x, SignAt z j x → ∀ v, (signsV z)[j]? = some v → ∀ g, g₁.le g → VR g v x := fun j x hx v hv g _ => by
      obtain ⟨c, u, hc, rfl⟩ := hx
      unfold signsV at hv
      rw [List.getElem?_map] at hv
      rw [← Array.getElem?_toList] at hc
      rw [hc] at hv
      simp at hv
      subst hv
      simp only [VR]; exact ⟨_, rfl⟩
    cases ha : z.cps.all (· < 128)
    · refine wpAny_pyIter_wide ha ⟨g₁, (signsV z, fun _ => True), σ₁, [s₁.heap.objs.size], _, le₁, push_pack R₁ _, fun κ' Φ' _ _ eA => src_walks (Walks.strWide (eA ▸ ok.handled) _ z t) (fun b hb => List.mem_singleton.mp hb) (fun b hb => .inl (List.mem_singleton.mp hb)) (by simp [signsV]) hP (fun j h hS => ?_), ⟨_, Heap.get?_push_size _ rfl, rfl, rfl⟩, fun I hI => by rw [List.mem_singleton.mp hI]; exact R₁.fresh, q₁⟩
      obtain ⟨o, ho, hc, _⟩ := hS
      exact ⟨o, _, ho, hc, by decide⟩
    · refine wpAny_pyIter_ascii ha ⟨g₁, (signsV z, fun _ => True), σ₁, [s₁.heap.objs.size], _, le₁, push_pack R₁ _, fun κ' Φ' _ _ eA => src_walks (Walks.strAscii (eA ▸ ok.handled) _ z t) (fun b hb => List.mem_singleton.mp hb) (fun b hb => .inl (List.mem_singleton.mp hb)) (by simp [signsV]) hP (fun j h hS => ?_), ⟨_, Heap.get?_push_size _ rfl, rfl, rfl⟩, fun I hI => by rw [List.mem_singleton.mp hI]; exact R₁.fresh, q₁⟩
      obtain ⟨o, ho, hc, _⟩ := hS
      exact ⟨o, _, ho, hc, by decide⟩
  · rename_i l _
    simp only [VR] at rv
    obtain ⟨ad, xs, n, rfl, hm, h2⟩ := rv
    have h1 := R₁.fz _ hm
    have hne : ad ≠ s₁.heap.objs.size := Nat.ne_of_lt (Heap.lt_size h1)
    refine wpAny_pyIter_tuple (isTuple_of h1) ⟨g₁, (l, fun _ => True), σ₁, [s₁.heap.objs.size], _, le₁, push_pack R₁ _, fun κ' Φ' _ _ eA => src_walks (Walks.tuple (eA ▸ ok.handled) s₁.heap.objs.size ad hne xs.toArray) (fun b hb => List.mem_singleton.mp hb) (fun b hb => ?_) (by simp [h2.length]) (fun j x hx v hv g le => ?_) (fun j h hS => ?_),
      ⟨⟨_, Heap.get?_push_size _ rfl, rfl, rfl⟩, isTuple_of (Heap.get?_push_of_some _ h1)⟩, fun I hI => by rw [List.mem_singleton.mp hI]; exact R₁.fresh, q₁⟩
    · rcases List.mem_cons.mp hb with rfl | hb
      · exact .inl rfl
      · rw [List.mem_singleton.mp hb]; exact .inr ⟨_, hm⟩
    · obtain ⟨x', hx', rx⟩ := h2.get hv
      have : xs[j]? = some x := by simpa using hx
      rw [this] at hx'; cases hx'
      exact VR.mono le v rx
    · obtain ⟨⟨o, ho, hc, _⟩, _⟩ := hS
      exact ⟨o, _, ho, hc, by decide⟩
  · split at q₁
    · rename_i l hl
      obtain ⟨ad, xs, n, rfl, h1, h2⟩ := R₁.seq_at rv hl
      refine wpAny_pyIter_list (isList_of h1) ⟨g₁, (l, fun os => seqOf os v = some l), σ₁, [s₁.heap.objs.size], _, le₁, push_pack R₁ _, fun κ' Φ' _ _ eA => src_list (eA ▸ ok.handled) rv, ⟨_, Heap.get?_push_size _ rfl, rfl, rfl⟩, fun I hI => by rw [List.mem_singleton.mp hI]; exact R₁.fresh, q₁⟩
    · exact q₁.elim
end
end Mine

open PySem PySem.W PyProof.Rows PySem.Calls
set_option Elab.async false
set_option maxRecDepth 100000
set_option linter.unusedVariables false

namespace Mine

section
variable {κ : Kap}

theorem callName_gen {Φ : Ctx} (ok : Ctx.Ok κ Φ) {x : Str} {p pos : Pos} {args : List Expr} {fa : W (List V)} {fv : Value} (hx : gbl κ x fv = true) (ha : SEs κ args fa) (hkeep : Keep κ fv) (hp : plainArgs args = true)
    {g : G} {σ : St} {s : Shared} {QQ : List V → St → Prop} {Post : Value → Shared → Prop} (R : Rel κ Φ g σ s) (h : fa QQ σ)
    (step : ∀ g' vs xs σ' s', g.le g' → Rel κ Φ g' σ' s' → VRs g' vs xs → QQ vs σ' → wpAny (model κ.P.prog Φ.w) Φ.A (call fv xs []) Post NoE s') :
    wpAny (model κ.P.prog Φ.w) Φ.A (eval (.Call (.Name x p) args [] pos) Φ.env) Post NoE s := by
  refine wpAny_Call_Name_kw (wpAny_mono (r_Glob (pos := p) hx Φ ok g σ s (fun v σ' => v = .glob fv ∧ σ' = σ) R ⟨rfl, rfl⟩) (fun y s₁ h => ?_) fun _ _ e => e)
  obtain ⟨g₁, a, σ₁, le₁, R₁, ra, rfl, rfl⟩ := h
  simp only [VR] at ra
  subst ra
  refine callWith_of (P := fun h => KeepsH Φ.h₀ h) (by rw [star_plain args hp, (kw_some [] rfl).2]; rfl) (fun h hh => keep_looks ok hkeep _ h hh) ?_
  refine wpAny_mono (args_sound ok ha rk_nil hp rfl (Q := fun vs _ => QQ vs) R₁ h) (fun a s₂ p => ?_) fun _ _ e => e
  obtain ⟨g', vs, xs, kvs, kxs, σ', rfl, le, R', rv, rk, q⟩ := p
  exact ⟨R'.keep, step g' vs xs σ' s₂ (le₁.trans le) R' rv q⟩

/-! ### range -/
noncomputable def rangeV (a b : Int) : List V := (List.range (b - a).toNat).map fun (i : Nat) => V.int (a + (i : Int))
noncomputable def rangeW (vs : List V) : W (List V × (List O → Prop)) := fun Q σ => match vs with
  | [.int n] => -(2 ^ 62) ≤ n ∧ n < 2 ^ 62 ∧ Q (rangeV 0 n, fun _ => True) σ
  | [.int a, .int b] => (-(2 ^ 61) ≤ a ∧ a < 2 ^ 61) ∧ (-(2 ^ 61) ≤ b ∧ b < 2 ^ 61) ∧ Q (rangeV a b, fun _ => True) σ
  | _ => False

theorem range_src {Φ : Ctx} (ok : Ctx.Ok κ Φ) {g : G} {σ : St} {s : Shared} {target : Expr} {a b : Int} {t u v : Tok} {r : Addr} {Q : List V × (List O → Prop) → St → Prop} {g₀ : G} (le₀ : g₀.le g) (R : Rel κ Φ g σ s) (hr : IsRange s.heap r a b 1 t u v)
    (ha : -(2 ^ 62) ≤ a ∧ a < 2 ^ 62) (hb : -(2 ^ 62) ≤ b ∧ b < 2 ^ 62) (hab : b - a < 2 ^ 62) (q : Q (rangeV a b, fun _ => True) σ) :
    wpAny (model κ.P.prog Φ.w) Φ.A (pyIter (.ref r)) (fun it s' => ∃ g' p σ' Is S, g₀.le g' ∧ Rel κ Φ g' σ' s' ∧ SrcAll κ.P Φ.w Φ.A g' target it Is S p.1 p.2 ∧ S 0 s'.heap ∧ (∀ I ∈ Is, ¬ Known Φ g' I) ∧ Q p σ') NoE s := by
  have hsz : Builtin.Range.rangeSize a b 1 = ((b - a).toNat : Int) := by
    rw [rangeSize_one]; split <;> omega
  have hsmall : Builtin.Range.small a b 1 = true := by
    unfold Builtin.Range.small
    rw [hsz]
    simp only [Builtin.Range.rangeFitsLong, Bool.and_eq_true, Bool.or_eq_true, decide_eq_true_eq]
    refine ⟨⟨⟨⟨?_, ?_⟩, ?_⟩, ?_⟩, .inr ?_⟩
    · first | exact Int.le_trans (by decide) ha.1 | omega
    · first | exact Int.le_trans (Int.le_of_lt ha.2) (by decide) | omega
    · first | exact Int.le_trans (by decide) hb.1 | omega
    · first | exact Int.le_trans (Int.le_of_lt hb.2) (by decide) | omega
    · simp only [gt_iff_lt, Int.reduceLT, if_true, decide_eq_true_eq]; simp; omega
  refine wpAny_pyIter_range hr hsmall ?_
  refine ⟨g, (rangeV a b, fun _ => True), σ, [s.heap.objs.size], _, le₀, push_pack R _, fun κ' Φ' _ _ eA => src_walks (Walks.range (eA ▸ ok.handled) s.heap.objs.size a 1 (b - a).toNat) (fun b hb => List.mem_singleton.mp hb) (fun b hb => .inl (List.mem_singleton.mp hb)) (by simp [rangeV]) (fun j x hx v hv g' le => ?_) (fun j h hS => ⟨_, _, hS, rfl, by decide⟩), ?_, fun I hI => (by rw [List.mem_singleton.mp hI]; exact R.fresh), q⟩
  · obtain ⟨t, rfl⟩ := hx
    unfold rangeV at hv
    rw [List.getElem?_map, List.getElem?_range] at hv
    · simp at hv; subst hv
      simp only [VR]; exact ⟨t, by simp⟩
    · cases hx : (List.range (b - a).toNat)[j]? with
      | none => rw [hx] at hv; cases hv
      | some y => have := (List.getElem?_eq_some_iff.mp hx).1; simpa using this
  · show IsRangeIter _ _ _ _ _
    rw [hsz]
    have := Heap.get?_push_size s.heap (o := { cls := .type "range_iterator", data := .fields #[rawInt a, rawInt ((b - a).toNat : Int), rawInt 1] }) rfl
    simpa [IsRangeIter] using this

theorem i_range {target : Expr} {x : Str} {p pos : Pos} {args : List Expr} {fa : W (List V)} (hx : gbl κ x (.type "range") = true) (ha : SEs κ args fa) (hp : plainArgs args = true := by rfl) : SI κ target (.Call (.Name x p) args [] pos) (bnd fa rangeW) := fun Φ ok g σ s Q R q => by
  refine callName_gen ok hx ha keep_type hp R q fun g' vs xs σ' s' le R' rv q' => ?_
  have q' : rangeW vs Q σ' := q'
  unfold rangeW at q'
  split at q'
  · simp only [VRs, VR] at rv
    obtain ⟨_, _, rfl, ⟨t, rfl⟩, rfl⟩ := rv
    obtain ⟨h1, h2, q'⟩ := q'
    refine call_range_1 (range_src ok le ((push_pack R' _).tok _) (Heap.get?_push_size _ rfl) (by decide) ⟨h1, h2⟩ (by rw [Int.sub_zero]; exact h2) q')
  · simp only [VRs, VR] at rv
    obtain ⟨_, _, rfl, ⟨t, rfl⟩, _, _, rfl, ⟨u, rfl⟩, rfl⟩ := rv
    obtain ⟨h1, h2, q'⟩ := q'
    refine call_range_2 (range_src ok le ((push_pack R' _).tok _) (Heap.get?_push_size _ rfl) ⟨Int.le_trans (by decide) h1.1, Int.lt_trans h1.2 (by decide)⟩ ⟨Int.le_trans (by decide) h2.1, Int.lt_trans h2.2 (by decide)⟩ (by omega) q')
  · exact q'.elim

/-! ### enumerate of a list -/
end
end Mine

open PySem PySem.W PyProof.Rows PySem.Calls
set_option Elab.async false
set_option maxRecDepth 100000
set_option linter.unusedVariables false

namespace Mine

/-! ## Comprehensions -/

noncomputable def closG (cells : List (Str × Addr)) : List (Str × NameKind) → List (Str × Addr) → List (Str × Addr)
  | [], acc => acc
  | (n, k) :: r, acc => if k == .free then closG cells r ((n, (cells.lookup n).getD 0) :: acc) else closG cells r acc

theorem closureFor_eq {scope : Scope} {env : Env} (h : ∀ x ∈ scope.names, x.2 = .free → (env.cells.lookup x.1).isSome = true) : closureFor scope env = pure (closG env.cells scope.names []) := by
  simp only [closureFor]
  have key : ∀ (names : List (Str × NameKind)) (acc : List (Str × Addr)), (∀ x ∈ names, x.2 = .free → (env.cells.lookup x.1).isSome = true) →
      (forIn names acc fun x r => if (x.2 == NameKind.free) = true then do let a ← cellOf env x.1; pure (ForInStep.yield ((x.1, a) :: r)) else pure (ForInStep.yield r) : Sem (List (Str × Addr))) = pure (closG env.cells names acc) := by
    intro names
    induction names with
    | nil => intro acc _; rfl
    | cons p r ih =>
      intro acc hh
      obtain ⟨n, k⟩ := p
      rw [List.forIn_cons]
      by_cases hk : (k == NameKind.free) = true
      · obtain ⟨c, hc⟩ := Option.isSome_iff_exists.mp (hh (n, k) (.head _) (by simpa using hk))
        simp only [hk, if_true, cellOf, hc, closG, Option.getD]
        exact ih _ fun x hx => hh x (.tail _ hx)
      · simp only [hk, Bool.false_eq_true, if_false, closG]
        exact ih _ fun x hx => hh x (.tail _ hx)
  exact (congrArg (fun m => m >>= pure) (key scope.names [] h)).trans rfl

set_option tactic.hygienic true in
theorem closG_lookup {cells : List (Str × Addr)} : ∀ {names : List (Str × NameKind)} {acc : List (Str × Addr)}, (∀ x ∈ names, x.2 = .free → (cells.lookup x.1).isSome = true) → (∀ x c, (x, c) ∈ acc → cells.lookup x = some c) →
    ∀ x c, (x, c) ∈ closG cells names acc → cells.lookup x = some c
  | [], _, _, h, x, c, e => h x c e
  | (n, k) :: r, acc, hh, h, x, c, e => by
    unfold closG at e
    split at e
    · rename_i hk
      refine closG_lookup (fun y hy => hh y (.tail _ hy)) (fun y d hm => ?_) x c e
      rcases List.mem_cons.mp hm with q | q
      · cases q
        obtain ⟨c', hc⟩ := Option.isSome_iff_exists.mp (hh (n, k) (.head _) (by simpa using hk))
        simp only at hc; rw [hc]; rfl
      · exact h y d q
    · exact closG_lookup (fun y hy => hh y (.tail _ hy)) h x c e
set_option tactic.hygienic true in
theorem closG_mem {cells : List (Str × Addr)} : ∀ {names : List (Str × NameKind)} {acc : List (Str × Addr)} {x : Str}, ((x, NameKind.free) ∈ names ∨ x ∈ acc.map (·.1)) → x ∈ (closG cells names acc).map (·.1)
  | [], _, _, h => h.elim (fun h => nomatch h) id
  | (n, k) :: r, acc, x, h => by
    unfold closG
    split
    · refine closG_mem ?_
      rcases h with h | h
      · rcases List.mem_cons.mp h with q | q
        · cases q; exact .inr (.head _)
        · exact .inl q
      · exact .inr (.tail _ h)
    · rename_i hk
      refine closG_mem ?_
      rcases h with h | h
      · rcases List.mem_cons.mp h with q | q
        · cases q; exact absurd rfl hk
        · exact .inl q
      · exact .inr h

noncomputable def relN (outer : List (Str × NameKind)) (names : List (Str × NameKind)) : List (Str × NameKind) :=
  names.map fun (n, k) => if (k == .free && outer.lookup n == some .cell) then (n, .cell) else (n, k)
set_option tactic.hygienic true in
theorem relN_look {outer : List (Str × NameKind)} {x : Str} : ∀ {names : List (Str × NameKind)}, (∀ y ∈ names, y.2 ≠ .cell) → (relN outer names).lookup x = some .cell → (x, NameKind.free) ∈ names ∧ outer.lookup x = some .cell
  | [], _, h => by cases h
  | (n, k) :: r, hc, h => by
    have e : relN outer ((n, k) :: r) = (if (k == .free && outer.lookup n == some .cell) then (n, .cell) else (n, k)) :: relN outer r := rfl
    rw [e] at h
    split at h
    · rename_i hk
      rw [List.lookup_cons] at h
      split at h
      · rename_i hx
        simp only [Bool.and_eq_true, beq_iff_eq] at hk hx
        rw [hx, ← hk.1]; exact ⟨.head _, hk.2⟩
      · obtain ⟨a, b⟩ := relN_look (fun y hy => hc y (.tail _ hy)) h
        exact ⟨.tail _ a, b⟩
    · rw [List.lookup_cons] at h
      split at h
      · exact absurd (Option.some.inj h) (hc (n, k) (.head _))
      · obtain ⟨a, b⟩ := relN_look (fun y hy => hc y (.tail _ hy)) h
        exact ⟨.tail _ a, b⟩

noncomputable def compOk (κ : Kap) (scope : Scope) (vars : List Str) (caps : List (Option Nat)) : Bool :=
  κ.fn && scope.kind == .function && scope.names.all (fun y => y.2 != .cell && (y.2 != .local || scope.names.lookup y.1 == some .local) && (y.2 != .free || κ.names.lookup y.1 == some .cell))
    && vars.length == caps.length && (vars.zip caps).all (fun y => match y.2 with | some k => slot κ.vars y.1 == some k && (relN κ.names scope.names).lookup y.1 == some .cell | none => true)
structure CompIs (κ : Kap) (scope : Scope) (vars : List Str) (caps : List (Option Nat)) : Prop where
  fn : κ.fn = true
  kind : scope.kind = .function
  nocell : ∀ y ∈ scope.names, y.2 ≠ .cell
  loc : ∀ y ∈ scope.names, y.2 = .local → scope.names.lookup y.1 = some .local
  free : ∀ y ∈ scope.names, y.2 = .free → κ.names.lookup y.1 = some .cell
  len : vars.length = caps.length
  caps : ∀ (i : Nat) x k, vars[i]? = some x → caps[i]? = some (some k) → slot κ.vars x = some k ∧ (relN κ.names scope.names).lookup x = some .cell
theorem compIs_of {κ : Kap} {scope : Scope} {vars : List Str} {caps : List (Option Nat)} (h : compOk κ scope vars caps = true) : CompIs κ scope vars caps := by
  simp only [compOk, Bool.and_eq_true, beq_iff_eq, List.all_eq_true] at h
  obtain ⟨⟨⟨⟨h1, h2⟩, h3⟩, h4⟩, h5⟩ := h
  refine ⟨h1, h2, fun y hy => ?_, fun y hy hk => ?_, fun y hy hk => ?_, h4, fun i x k hx hc => ?_⟩
  · have := (h3 y hy).1.1; simpa using this
  · have := (h3 y hy).1.2; simpa [hk] using this
  · have := (h3 y hy).2; simpa [hk] using this
  · have hz : (vars.zip caps)[i]? = some (x, some k) := by rw [List.getElem?_zip_eq_some]; exact ⟨hx, hc⟩
    have := h5 _ (List.mem_of_getElem? hz)
    simpa using this

theorem relabel_names {κ : Kap} {Φ : Ctx} (ok : Ctx.Ok κ Φ) (scope : Scope) : (relabel scope Φ.env).names = relN κ.names scope.names := by
  show (scope.names.map fun (y : Str × NameKind) => match y with | (n, k) => if (k == NameKind.free && Φ.env.scope.kind == ScopeKind.function && Φ.env.kindOf n == some NameKind.cell) then (n, NameKind.cell) else (n, k)) = _
  unfold relN
  apply List.map_congr_left
  intro y _
  obtain ⟨n, k⟩ := y
  show (if (k == NameKind.free && Φ.env.scope.kind == ScopeKind.function && Φ.env.kindOf n == some NameKind.cell) = true then (n, NameKind.cell) else (n, k)) = _
  rw [ok.kind, ok.kinds n]
  simp

section
variable {prog : Program} {w : World} {A : Around} {R : Result → Shared → Prop} {s : Shared}
theorem compLoop_any {elt target iter : Expr} {ifs : List Expr} {scope : Scope} {pos : Pos} {it acc : Value} {env : Env} (I : Nat → Shared → Prop)
    (turn : ∀ n s, I n s → wpAny (model prog w) A (pyNext it) (fun r s₁ => match r with
      | none => R (.ok .next) s₁
      | some v => wpAny (model prog w) A (letOwnedTupleGo target it v) (fun _ s₁' => wpAny (model prog w) A (assign target env v) (fun _ s₂ =>
          wpAny (model prog w) A (forIn ifs true fun c r => if r = true then do let ok ← isTrue c env (eval c env); pure (ForInStep.yield ok) else pure (ForInStep.yield r)) (fun ok s₃ =>
            if ok = true then wpAny (model prog w) A (eval elt env) (fun x s₄ =>
              wpAny (model prog w) A (call (.builtin "list.append") [acc, x]) (fun _ s₅ => ∃ m, m < n ∧ I m s₅) NoE s₄) NoE s₃
            else ∃ m, m < n ∧ I m s₃) NoE s₂) NoE s₁') NoE s₁) NoE s)
    (n : Nat) (h : I n s) :
    codeAny (model prog w) A (.compLoop (.ListComp elt [⟨target, iter, ifs, 0⟩] scope pos) 0 it acc env) R s := by
  refine codeAny_loop rfl I (fun n s hI => ?_) n h
  show wpAny _ A ((compTurn (.ListComp elt [⟨target, iter, ifs, 0⟩] scope pos) 0 it acc env).onRaise (fun x => do noteFrame x env; theTreesLotGoes x)) _ _ s
  refine wpAny_noted ?_
  rw [compTurn_list]
  refine wpAny_bind (wpAny_standAt (wpAny_bind (wpAny_mono (turn n s hI) (fun r s₁ h₁ => ?_) fun _ _ h' => h'.elim)))
  cases r with
  | none => exact wpAny_pure h₁
  | some v =>
    refine wpAny_bind (wpAny_mono h₁ (fun _ s₁' h₁ => ?_) fun _ _ h' => h'.elim)
    refine wpAny_bind (wpAny_mono h₁ (fun _ s₂ h₂ => wpAny_bind (wpAny_mono h₂ (fun ok s₃ h₃ => ?_) fun _ _ h' => h'.elim)) fun _ _ h' => h'.elim)
    cases ok with
    | false => exact wpAny_pure ⟨rfl, h₃⟩
    | true =>
      exact wpAny_bind (wpAny_bind (wpAny_mono h₃ (fun x s₄ h₄ => wpAny_bind (wpAny_mono h₄ (fun _ s₅ h₅ => wpAny_pure (wpAny_pure ⟨rfl, h₅⟩)) fun _ _ h' => h'.elim)) fun _ _ h' => h'.elim))
end

/-- the tests of a clause -/
noncomputable def STs (κ : Kap) (ifs : List Expr) (f : W Bool) : Prop :=
  ∀ Φ, Ctx.Ok κ Φ → ∀ g σ s Q, Rel κ Φ g σ s → f Q σ → wpAny (model κ.P.prog Φ.w) Φ.A (forIn ifs true fun c r => if r = true then do let ok ← isTrue c Φ.env (eval c Φ.env); pure (ForInStep.yield ok) else pure (ForInStep.yield r)) (PB κ Φ g Q) NoE s
theorem ts_nil {κ : Kap} : STs κ [] (ret true) := fun Φ ok g σ s Q R q => wpAny_pure ⟨g, σ, .refl g, R, q⟩
theorem ts_one {κ : Kap} {c : Expr} {f : W Bool} (h : ST κ c f) : STs κ [c] f := fun Φ ok g σ s Q R q => by
  rw [List.forIn_cons]
  simp only [if_true]
  exact wpAny_bind (wpAny_bind (wpAny_mono (h Φ ok g σ s Q R q) (fun b s' p => wpAny_pure (wpAny_pure p)) fun _ _ e => e))

noncomputable def compL (chk : List O → Prop) (tgt : V → W Unit) (ts : W Bool) (el : W V) : List V → List V → (List V → St → Prop) → St → Prop
  | [], acc, Q, σ => chk σ.objs ∧ Q acc σ
  | v :: vs, acc, Q, σ => chk σ.objs ∧ tgt v (fun _ σ₁ => ts (fun b σ₂ => if b = true then el (fun u σ₃ => compL chk tgt ts el vs (acc ++ [u]) Q σ₃) σ₂ else compL chk tgt ts el vs acc Q σ₂) σ₁) σ
theorem compL_chk {chk : List O → Prop} {tgt : V → W Unit} {ts : W Bool} {el : W V} {l acc : List V} {Q : List V → St → Prop} {σ : St} (h : compL chk tgt ts el l acc Q σ) : chk σ.objs := by
  cases l <;> exact h.1

theorem comp_src {κ : Kap} {Φ : Ctx} (ok : Ctx.Ok κ Φ) {g : G} {σ : St} {s : Shared} {elt target iter : Expr} {ifs : List Expr} {scope : Scope} {pos : Pos} {it : Value} {D : Addr} {Is : List Addr} {S : Nat → Heap → Prop} {items : List V} {chk : List O → Prop} {tgt : V → W Unit} {ts : W Bool} {el : W V} {Q : List V → St → Prop}
    (src : SrcAll κ.P Φ.w Φ.A g target it Is S items chk) (ht : SA κ target tgt) (hts : STs κ ifs ts) (hel : SE κ elt el) (R : Rel κ Φ g σ s) (h0 : S 0 s.heap) (hI : ∀ I ∈ Is, ¬ Known Φ g I) (hDk : ¬ Known Φ g D) (hD : D ∉ Is) (hl : ∃ n, s.heap.get? D = some (listO [] n)) (hsz : items.length ≤ sizeLine) (h : compL chk tgt ts el items [] Q σ) :
    codeAny (model κ.P.prog Φ.w) Φ.A (.compLoop (.ListComp elt [⟨target, iter, ifs, 0⟩] scope pos) 0 it (.ref D) Φ.env) (fun r s' => match r with
      | .ok _ => ∃ g' σ' out ys n, g.le g' ∧ Rel κ Φ g' σ' s' ∧ s'.heap.get? D = some (listO ys n) ∧ VRs g' out ys ∧ out.length ≤ items.length ∧ ¬ Known Φ g' D ∧ Q out σ'
      | .error _ => False) s := by
  refine compLoop_any (fun k s => ∃ j g' σ' out ys n, k + j = items.length ∧ g.le g' ∧ Rel κ Φ g' σ' s ∧ S j s.heap ∧ (∀ I ∈ Is, ¬ Known Φ g' I) ∧ ¬ Known Φ g' D ∧ s.heap.get? D = some (listO ys n) ∧ VRs g' out ys ∧ out.length ≤ j ∧ compL chk tgt ts el (items.drop j) out Q σ') (fun k s₁ hk => ?_) items.length
    ⟨0, g, σ, [], [], hl.choose, Nat.add_zero _, .refl g, R, h0, hI, hDk, hl.choose_spec, .nil, Nat.le_refl _, by simpa using h⟩
  obtain ⟨j, g₁, σ₁, out, ys, n, hj, le₁, R₁, hS, hI₁, hDk₁, hL, rL, hol, hf⟩ := hk
  have hck := compL_chk hf
  let ΦD : Ctx := Φ.pin [(D, listO ys n)]
  have okD : Ctx.Ok κ ΦD := ok.pin _
  have RD : Rel κ ΦD g₁ σ₁ s₁ := R₁.pin (fun p hp => by rw [List.mem_singleton.mp hp]; exact hL) (fun p hp => by rw [List.mem_singleton.mp hp]; exact hDk₁)
  have srcD := src κ ΦD rfl rfl rfl
  have hdD : ∀ p ∈ [(D, listO ys n)], ∀ q ∈ Φ.pins, q.1 ≠ p.1 := fun p hp q hq e => by
    rw [List.mem_singleton.mp hp] at e; exact hDk₁ (.inr (.inr (.inl ⟨q, hq, e⟩)))
  have knD : ∀ {g' b}, Known ΦD g' b → Known Φ g' b ∨ b = D := fun {g' b} kb => by
    rcases kb with kb | kb | ⟨p, hp, e⟩ | kb
    · exact .inl (.inl kb)
    · exact .inl (.inr (.inl kb))
    · rcases List.mem_cons.mp hp with rfl | hp
      · exact .inr e.symm
      · exact .inl (.inr (.inr (.inl ⟨p, hp, e⟩)))
    · exact .inl (.inr (.inr (.inr kb)))
  have hI₁D : ∀ I ∈ Is, ¬ Known ΦD g₁ I := fun I hI kn => by
    rcases knD kn with kn | rfl
    · exact hI₁ I hI kn
    · exact hD hI
  cases k with
  | zero =>
    have hj' : j = items.length := (Nat.zero_add j).symm.trans hj
    subst hj'
    rw [List.drop_length] at hf
    refine srcD.stop g₁ σ₁ s₁ _ le₁ RD hck hS hI₁D fun h' tk R' => ?_
    obtain ⟨R'', k1, k2⟩ := R'.unpin hdD
    exact ⟨g₁, σ₁, out, ys, n, le₁, R'', k1 _ (.head _), rL, hol, hDk₁, hf.2⟩
  | succ k =>
    have hjl : j < items.length := by rw [← hj]; exact Nat.lt_add_of_pos_left (Nat.succ_pos k)
    have hd : items.drop j = items[j] :: items.drop (j + 1) := List.drop_eq_getElem_cons hjl
    rw [hd] at hf
    refine srcD.next j items[j] g₁ σ₁ s₁ _ (List.getElem?_eq_getElem hjl) le₁ RD hck hS hI₁D fun x s' hgo => ?_
    refine hgo _ fun g₂ h' tk le₂ rx R₂ hI₂ hS₂ => ?_
    let ps := pinsOf h' Is
    have hp1 : ∀ p ∈ ps, h'.get? p.1 = some p.2 := fun p hp => (mem_pinsOf.mp hp).2
    have hp2 : ∀ p ∈ ps, ¬ Known ΦD g₂ p.1 := fun p hp => hI₂ _ (mem_pinsOf.mp hp).1
    have hd' : ∀ p ∈ ps, ∀ q ∈ ΦD.pins, q.1 ≠ p.1 := fun p hp q hq e => hp2 p hp (.inr (.inr (.inl ⟨q, hq, e⟩)))
    have RP := R₂.pin hp1 hp2
    have okP := okD.pin ps
    refine wpAny_mono (ht (ΦD.pin ps) okP g₂ σ₁ _ _ _ _ RP rx hf.2) (fun _ s₂ p => ?_) fun _ _ e => e
    obtain ⟨g₃, σ₃, le₃, R₃, q₃⟩ := p
    refine wpAny_mono (hts (ΦD.pin ps) okP g₃ σ₃ s₂ _ R₃ q₃) (fun b s₃ p => ?_) fun _ _ e => e
    obtain ⟨g₄, σ₄, le₄, R₄, q₄⟩ := p
    have out' : ∀ {g₅ : G} {σ₅ : St} {s₅ : Shared}, g₄.le g₅ → Rel κ (ΦD.pin ps) g₅ σ₅ s₅ → Rel κ Φ g₅ σ₅ s₅ ∧ S (j + 1) s₅.heap ∧ (∀ I ∈ Is, ¬ Known Φ g₅ I) ∧ ¬ Known Φ g₅ D ∧ s₅.heap.get? D = some (listO ys n) := fun {g₅ σ₅ s₅} le₅ R₅ => by
      obtain ⟨R₆, k1, k2⟩ := R₅.unpin hd'
      obtain ⟨R₇, k3, k4⟩ := R₆.unpin hdD
      refine ⟨R₇, ?_, fun I hI kn => ?_, k4 _ (.head _), k3 _ (.head _)⟩
      · exact srcD.frame (j + 1) g₂ σ₁ _ g₅ σ₅ s₅ R₂ R₆ (le₁.trans le₂) ((le₃.trans le₄).trans le₅) hS₂ fun I hI o ho => k1 (I, o) (mem_pinsOf.mpr ⟨hI, ho⟩)
      · obtain ⟨o, ho⟩ := srcD.here _ _ hS₂ I hI
        refine k2 (I, o) (mem_pinsOf.mpr ⟨hI, ho⟩) ?_
        rcases kn with kn | kn | ⟨p, hp, e⟩ | kn
        · exact .inl kn
        · exact .inr (.inl kn)
        · exact .inr (.inr (.inl ⟨p, .tail _ hp, e⟩))
        · exact .inr (.inr (.inr kn))
    have le := ((le₁.trans le₂).trans le₃).trans le₄
    cases b with
    | false =>
      simp only [Bool.false_eq_true, if_false] at q₄ ⊢
      obtain ⟨R₅, a1, a2, a3, a4⟩ := out' (.refl _) R₄
      exact ⟨k, Nat.lt_succ_self k, j + 1, g₄, σ₄, out, ys, n, (Nat.succ_add_eq_add_succ k j).symm.trans hj, le, R₅, a1, a2, a3, a4, VRs.mono ((le₂.trans le₃).trans le₄) _ rL, Nat.le_succ_of_le hol, q₄⟩
    | true =>
      simp only [if_true] at q₄ ⊢
      refine wpAny_mono (hel (ΦD.pin ps) okP g₄ σ₄ s₃ _ R₄ q₄) (fun y s₄ p => ?_) fun _ _ e => e
      obtain ⟨g₅, u, σ₅, le₅, R₅, ru, q₅⟩ := p
      obtain ⟨R₆, a1, a2, a3, a4⟩ := out' le₅ R₅
      have hys : ys.length = out.length := rL.length
      refine wpAny_list_append_plain (items := ys.toArray) ⟨n, a4⟩ (fun h'' hp hs => ?_) (by simp; omega)
      obtain ⟨n', hn'⟩ := hp
      refine ⟨k, Nat.lt_succ_self k, j + 1, g₅, σ₅, out ++ [u], ys ++ [y], n', (Nat.succ_add_eq_add_succ k j).symm.trans hj, le.trans le₅, R₆.sameBut a3 (tk := s₄.toks) hs.extBut, ?_, a2, a3, ?_, VRs.append (VRs.mono (((le₂.trans le₃).trans le₄).trans le₅) _ rL) (.one ru), by rw [List.length_append]; exact Nat.succ_le_succ hol, q₅⟩
      · exact (src κ Φ rfl rfl rfl).frame (j + 1) g₅ σ₅ s₄ g₅ σ₅ _ R₆ (R₆.sameBut a3 (tk := s₄.toks) hs.extBut) (le.trans le₅) (.refl _) a1 fun I hI o ho => hs.extBut I o (fun e => hD (e ▸ hI)) ho
      · simpa using hn'

/-- the comprehension's own frame -/
noncomputable def compW (fi : W (List V × (List O → Prop))) (caps : List (Option Nat)) (tgt : V → W Unit) (ts : W Bool) (el : W V) : W (List V) := fun Q σ =>
  fi (fun p σ₁ => p.1.length ≤ sizeLine ∧ compL p.2 tgt ts el p.1 [] (fun out σ₂ => Q out ⟨σ₁.loc, σ₂.objs⟩) ⟨caps.map fun o => o.bind (lget σ₁.loc), σ₁.objs⟩) σ

theorem lget_caps : ∀ {caps : List (Option Nat)} {f : Option Nat → Option V} {k : Nat} {v : V}, lget (caps.map f) k = some v → ∃ o, caps[k]? = some o ∧ f o = some v
  | [], _, _, _, h => by cases h
  | o :: _, _, 0, _, h => ⟨o, rfl, h⟩
  | _ :: l, f, k + 1, v, h => lget_caps (caps := l) (k := k) h

theorem comp_enter {κ : Kap} {Φ : Ctx} (ok : Ctx.Ok κ Φ) {elt target iter : Expr} {ifs : List Expr} {scope : Scope} {pos ps' : Pos} {vars : List Str} {caps : List (Option Nat)} {fi : W (List V × (List O → Prop))} {tgt : V → W Unit} {ts : W Bool} {el : W V}
    (hc : CompIs κ scope vars caps) (hi : SI κ target iter fi) (ht : SA ⟨κ.P, relN κ.names scope.names, vars, κ.D, false⟩ target tgt) (hts : STs ⟨κ.P, relN κ.names scope.names, vars, κ.D, false⟩ ifs ts) (hel : SE ⟨κ.P, relN κ.names scope.names, vars, κ.D, false⟩ elt el) (hn : noSet iter = true)
    {g : G} {σ : St} {s : Shared} {Q : List V → St → Prop} (R : Rel κ Φ g σ s) (h : compW fi caps tgt ts el Q σ) {use : Option (Value → Sem Unit)} {QQ : Value → Shared → Prop}
    (hfin : ∀ g' σ' s' out ys n D C m, g.le g' → Rel κ Φ g' σ' s' → s'.heap.get? D = some (listO ys n) → VRs g' out ys → out.length ≤ sizeLine → ¬ Known Φ g' D → ¬ Known Φ g' C → D ≠ C → s'.heap.Ns C m → Q out σ' → compPost (model κ.P.prog Φ.w) Φ.A NoE use QQ (.ref D) C (.ok .next) s') :
    wpAny (model κ.P.prog Φ.w) Φ.A (comprehension (.ListComp elt [⟨target, iter, ifs, 0⟩] scope pos) scope Φ.env ps' (newList []) false (eval iter Φ.env) use) QQ NoE s := by
  have hcells : ∀ x ∈ scope.names, x.2 = .free → (Φ.env.cells.lookup x.1).isSome = true := fun x hx hf => by
    obtain ⟨c, e, _⟩ := ok.cwr hc.fn x.1 (hc.free x hx hf); rw [e]; rfl
  refine wpAny_comprehension_free (g := ⟨target, iter, ifs, 0⟩) (gs := []) rfl (fun _ => noSet_fold hn) (closureFor_eq hcells) hc.kind hc.loc ?_
  refine wpAny_mono (hi Φ ok g σ s _ R h) (fun x s₁ p => wpAny_mono p (fun it s₂ p => ?_) fun _ _ e => e) fun _ _ e => e
  obtain ⟨g₂, ⟨items, chk⟩, σ₂, Is, S, le₂, R₂, src, hS, hI, hsz, hL⟩ := p
  simp only at hsz hL
  refine wpAny_newObj_type (wpAny_newFunctionEnv hc.nocell (by intro y hy; simp at hy) (fun h₁ hns₁ hsb₁ => ?_) hc.kind)
  dsimp only at hns₁ hsb₁ ⊢
  generalize hH2 : s₂.heap.push { cls := .type "list", dict := none, data := .seq ([] : List Value).toArray } = H2 at hns₁ hsb₁ ⊢
  have hCe : H2.objs.size = s₂.heap.objs.size + 1 := by rw [← hH2, Heap.size_push]
  let D := s₂.heap.objs.size
  let C := H2.objs.size
  let cl := closG Φ.env.cells scope.names []
  let cenv : Env := compEnvC scope cl C Φ.env
  let κ' : Kap := ⟨κ.P, relN κ.names scope.names, vars, κ.D, false⟩
  obtain ⟨oL, esL, epL, hoL, hdL⟩ : ∃ oL es ep, s₂.heap.get? Φ.env.locals = some oL ∧ oL.data = .dict es ep := by
    obtain ⟨m, ⟨o, es, ep, ho, hd, _⟩, _⟩ := R₂.ns; exact ⟨o, es, ep, ho, hd⟩
  let Φ' : Ctx := { w := Φ.w, h₀ := hideAll s₂.heap (Is ++ (Φ.hid ++ g₂.tr)), A := Φ.A, env := cenv, cw := Φ.hid, pins := [], os := Φ.os, forb := Φ.own ++ (Φ.pins.map (·.1) ++ Φ.forb), outs := (Φ.env.locals, oL) :: Φ.outs }
  have EN : Enters κ Φ g₂ s₂ Φ' Is := ⟨hI, rfl, rfl, rfl, rfl, rfl, fun a ha => ha, oL, hoL, rfl⟩
  have ltSize : ∀ {b}, Known Φ g₂ b → b < D := fun hb => by obtain ⟨o, ho⟩ := R₂.known hb; exact Heap.lt_size ho
  have hDC : D < C := by show s₂.heap.objs.size < H2.objs.size; rw [hCe]; exact Nat.lt_succ_self _
  have old : ∀ b o, s₂.heap.get? b = some o → h₁.get? b = some o := fun b o e => hsb₁.extBut b o (Nat.ne_of_lt (Nat.lt_trans (Heap.lt_size e) hDC)) (Heap.get?_push_of_some _ (hH2 ▸ Heap.get?_push_of_some _ e))
  have hacc : ∃ n, h₁.get? D = some (listO [] n) := ⟨_, hsb₁.extBut _ _ (Nat.ne_of_lt hDC) (Heap.get?_push_of_some _ (hH2 ▸ Heap.get?_push_size _ rfl))⟩
  have newNone : ∀ b, D ≤ b → Φ'.h₀.get? b = none := fun b hb => by
    cases q : Φ'.h₀.get? b with
    | none => rfl
    | some o => exact absurd (Heap.lt_size (of_hideAll _ q)) (Nat.not_lt.mpr hb)
  have inH : ∀ b, Known Φ g₂ b → b ∉ g₂.tr → b ∉ Φ.hid → (Φ'.h₀.get? b).isSome = true := fun b k hb hh => by
    obtain ⟨o, e⟩ := R₂.known k
    show ((hideAll s₂.heap (Is ++ (Φ.hid ++ g₂.tr))).get? b).isSome = true
    rw [hideAll_get _ e (EN.notex k hb hh)]; rfl
  have h0no : ∀ b o, Φ.h₀.get? b = some o → b ∉ g₂.tr := fun b o e hb => by rw [(R₂.muts b (tr_mut hb)).1] at e; cases e
  have keep0 : KeepsH Φ.h₀ Φ'.h₀ := fun b o e => hideAll_get _ (R₂.keep b o e) (EN.notex (.inr (.inr (.inr (by rw [e]; rfl)))) (h0no b o e) (h0_hid R₂ (by rw [e]; rfl)))
  have clLook : ∀ x c, cl.lookup x = some c → Φ.env.cells.lookup x = some c := fun x c e => closG_lookup hcells (fun _ _ h => (by cases h)) x c (lookup_mem e)
  have cellK : ∀ x c, cenv.kindOf x = some .cell → cl.lookup x = some c → Known Φ g₂ c ∧ c ∉ g₂.tr ∧ c ∉ Φ.hid := fun x c hk e => by
    have hk' : (relN κ.names scope.names).lookup x = some .cell := by rw [← relabel_names ok]; exact hk
    have hx := relN_look hc.nocell hk'
    obtain ⟨c', h1, h2, h3⟩ := ok.cwr hc.fn x hx.2
    have e1 := clLook x c e
    rw [h1] at e1; cases e1
    exact ⟨.inl (lc_mut (.tail _ h2)), tr_not R₂ (.tail _ h2), own_hid R₂ (List.mem_filter.mpr ⟨h2, by rw [h3]; rfl⟩)⟩
  have ok' : Ctx.Ok κ' Φ' := by
    refine ⟨fun x => ?_, hc.kind, ok.globals, ok.builtins, ok.handled, fun a o e => keep0 a o (ok.KIn a o e), ok.nolim.keeps keep0, ?_, ok.depth, (fun h => by cases h), ?_, fun x y c hx hy => ok.cinj x y c (clLook x c hx) (clLook y c hy), ok.units, ?_, ?_⟩
    · show (relabel scope Φ.env).names.lookup x = _
      rw [relabel_names ok]
    · obtain ⟨mg, mb, h1, h2, h3⟩ := ok.globs
      exact ⟨mg, mb, h1.keeps keep0, h2.keeps keep0, h3⟩
    · show (hideAll s₂.heap (Is ++ (Φ.hid ++ g₂.tr))).objs.size ≤ C
      rw [hideAll_size]; exact Nat.le_of_lt hDC
    · obtain ⟨l, hl, hfo, _⟩ := ok.frames
      refine ⟨l, hl, fun e he => ?_, (fun h => by cases h)⟩
      obtain ⟨k, Lf, hf, hL⟩ := hfo e he
      refine ⟨k, Lf, hf, .inr ?_⟩
      rcases hL with rfl | ⟨h1, h2⟩
      · exact ⟨.head _, by rw [out_self (Φ := Φ) (Φ' := Φ') rfl]; rfl⟩
      · refine ⟨.tail _ (List.mem_filter.mpr ⟨h1, h2⟩), ?_⟩
        rw [out_cons (Φ := Φ) (Φ' := Φ') rfl fun e => loc_cw R₂ (e ▸ h1)]; exact h2
    · intro p hp
      rcases List.mem_cons.mp hp with rfl | hp
      · exact .head _
      · have h1 := ok.outsIn p hp
        refine .tail _ (List.mem_filter.mpr ⟨h1, ?_⟩)
        cases q : Φ.outs.lookup p.1 with
        | some o => rfl
        | none => exact absurd hp (lookup_none_not q)
  have R' : Rel κ' Φ' g₂ ⟨caps.map fun o => o.bind (lget σ₂.loc), σ₂.objs⟩ { s₂ with heap := h₁, toks := s₂.toks + ([] : List (Str × Value)).length } := by
    refine ⟨⟨_, hns₁, fun x k v hsl hl => ?_⟩, fun c hc => ?_, fun b o e => old b o (of_hideAll _ e), fun p hp => old _ _ (R₂.fz p hp), (fun p hp => by cases hp), ⟨R₂.tr.1, fun i a o e1 e2 => ?_⟩, fun a ha => ?_, ?_, (fun p hp => by cases hp), fun x c hk e => .inr ?_, R₂.gens, R₂.os, fun a ha => ?_⟩
    · obtain ⟨o, ho, hv⟩ := lget_caps hl
      cases o with
      | none => cases hv
      | some i =>
        obtain ⟨hs1, hs2⟩ := hc.caps k x i (slot_get hsl) ho
        have hk' : cenv.kindOf x = some .cell := by show (relabel scope Φ.env).names.lookup x = _; rw [relabel_names ok]; exact hs2
        have hk'' : Φ'.env.kindOf x = some .cell := hk'
        rw [hk'']
        obtain ⟨m, hm, lr⟩ := R₂.ns
        have hx := relN_look hc.nocell hs2
        have hk2 : Φ.env.kindOf x = some .cell := (ok.kinds x).trans hx.2
        have := lr x i v hs1 hv
        simp only [hk2] at this
        obtain ⟨c, val, h1, ⟨oc, hoc, hd⟩, h3⟩ := this
        obtain ⟨c', hc'⟩ := Option.isSome_iff_exists.mp (lookup_isSome_of_mem (closG_mem (cells := Φ.env.cells) (acc := []) (.inl hx.1)))
        have e1 := clLook x c' hc'
        rw [h1] at e1; cases e1
        exact ⟨c, val, hc', ⟨oc, old _ _ hoc, hd⟩, h3⟩
    · rcases List.mem_cons.mp hc with rfl | hc
      · exact ⟨none, oL, old _ _ hoL, by unfold OutOK; rw [out_self (Φ := Φ) (Φ' := Φ') rfl]; exact ⟨⟨oL.slots, rfl⟩, esL, epL, hdL⟩⟩
      · obtain ⟨h1, h2⟩ := List.mem_filter.mp hc
        obtain ⟨v, oc, hoc, hd⟩ := R₂.cells c h1
        refine ⟨v, oc, old _ _ hoc, ?_⟩
        unfold OutOK at hd ⊢
        rw [out_cons (Φ := Φ) (Φ' := Φ') rfl fun e => loc_cw R₂ (e ▸ h1)]; exact hd
    · obtain ⟨ob, h1, h2⟩ := R₂.tr.2 i a o e1 e2
      exact ⟨ob, old _ _ h1, h2⟩
    · have cases2 : a = C ∨ a ∈ g₂.tr ∨ a ∈ Φ.hid := by
        rcases List.mem_cons.mp ha with rfl | ha
        · exact .inl rfl
        · rcases List.mem_append.mp ha with ha | ha
          · exact .inr (.inr ha)
          · exact .inr (.inl ha)
      rcases cases2 with rfl | h | h
      · exact ⟨newNone _ (Nat.le_of_lt hDC), fun p hp e => Nat.lt_irrefl _ (Nat.lt_trans (e ▸ ltSize (.inr (.inl ⟨p, hp, rfl⟩)) : C < D) hDC), (fun p hp => by cases hp)⟩
      · exact ⟨hideAll_none _ (List.mem_append_right _ (List.mem_append_right _ h)), (R₂.muts a (tr_mut h)).2.1, (fun p hp => by cases hp)⟩
      · exact ⟨hideAll_none _ (List.mem_append_right _ (List.mem_append_left _ h)), (R₂.muts a (lc_mut (hid_lc h))).2.1, (fun p hp => by cases hp)⟩
    · show (C :: (Φ.hid ++ g₂.tr)).Nodup
      rw [List.nodup_cons]
      refine ⟨fun hm => ?_, ?_⟩
      · rcases List.mem_append.mp hm with hm | hm
        · exact Nat.lt_irrefl _ (Nat.lt_trans (ltSize (.inl (lc_mut (hid_lc hm)))) hDC)
        · exact Nat.lt_irrefl _ (Nat.lt_trans (ltSize (.inl (tr_mut hm))) hDC)
      · exact hid_nodup R₂
    · obtain ⟨a, b, d⟩ := cellK x c hk e
      exact inH c a b d
    · have hkn : Known Φ g₂ a ∧ a ∉ g₂.tr ∧ a ∉ Φ.hid ∧ ∀ p ∈ g₂.fz, p.1 ≠ a := by
        rcases List.mem_append.mp ha with ha | ha
        · have hlc : a ∈ Φ.env.locals :: Φ.cw := .tail _ (List.mem_filter.mp ha).1
          exact ⟨.inl (lc_mut hlc), tr_not R₂ hlc, own_hid R₂ ha, (R₂.muts _ (lc_mut hlc)).2.1⟩
        · rcases List.mem_append.mp ha with ha | ha
          · obtain ⟨p, hp, rfl⟩ := List.mem_map.mp ha
            exact ⟨.inr (.inr (.inl ⟨p, hp, rfl⟩)), fun q => (R₂.muts _ (tr_mut q)).2.2 p hp rfl, pin_hid R₂ hp, (R₂.pinsOk p hp).2⟩
          · obtain ⟨o, ho⟩ := Option.isSome_iff_exists.mp (R₂.forb a ha).1
            exact ⟨.inr (.inr (.inr (R₂.forb a ha).1)), h0no a o ho, h0_hid R₂ (R₂.forb a ha).1, (R₂.forb a ha).2⟩
      exact ⟨inH a hkn.1 hkn.2.1 hkn.2.2.1, hkn.2.2.2⟩
  have lt' : ∀ I ∈ Is, I < D := fun I hIm => by
    obtain ⟨o, ho⟩ := (src κ Φ rfl rfl rfl).here _ _ hS I hIm; exact Heap.lt_size ho
  have notK' : ∀ b, b ≠ C → ¬ Known Φ g₂ b → Φ'.h₀.get? b = none → ¬ Known Φ' g₂ b := fun b hbC hb h0 kn => by
    rcases kn with kn | kn | ⟨p, hp, _⟩ | kn
    · rcases List.mem_cons.mp kn with rfl | kn
      · exact hbC rfl
      · rcases List.mem_append.mp kn with kn | kn
        · exact hb (.inl (lc_mut (hid_lc kn)))
        · exact hb (.inl (tr_mut kn))
    · exact hb (.inr (.inl kn))
    · cases hp
    · rw [h0] at kn; cases kn
  have hI' : ∀ I ∈ Is, ¬ Known Φ' g₂ I := fun I hIm => notK' I (Nat.ne_of_lt (Nat.lt_trans (lt' I hIm) hDC)) (hI I hIm) (hideAll_none _ (List.mem_append_left _ hIm))
  have hDk' : ¬ Known Φ' g₂ D := notK' D (Nat.ne_of_lt hDC) R₂.fresh (newNone _ (Nat.le_refl _))
  have hDI : D ∉ Is := fun hm => Nat.lt_irrefl _ (lt' D hm)
  have hS₁ : S 0 h₁ := (src κ Φ rfl rfl rfl).frame 0 g₂ σ₂ s₂ g₂ σ₂ { s₂ with heap := h₁ } R₂ (R₂.keeps (tk := s₂.toks) old) (.refl _) (.refl _) hS fun I hIm o ho => old I o ho
  have loop := comp_src (scope := scope) (iter := iter) (pos := pos) ok' (src := src) ht hts hel R' hS₁ hI' hDk' hDI hacc hsz hL
  have loop' := codeAny_mono loop (R' := compPost (model κ.P.prog Φ.w) Φ.A NoE use QQ (.ref D) C) fun r s' p => ?_
  rotate_left
  · cases r with
    | error e => exact p.elim
    | ok f =>
      obtain ⟨g₃, σ₃, out, ys, n, le₃, R₃, hD₃, rO, hlen, hDk₃, q₃⟩ := p
      have RB := EN.back R₂ le₃ R₃
      have hCm : C ∈ Φ'.muts g₃ := .head _
      obtain ⟨m, hm, _⟩ := R₃.ns
      have nk : ∀ b, Known Φ g₃ b → Known Φ' g₃ b := fun b kb => by
        rcases EN.known R₂ kb with z | z | z | z
        · exact .inl (tr_mut z)
        · exact .inr (.inl z)
        · exact .inr (.inr (.inr z))
        · exact .inl (lc_mut (.tail _ z))
      have := hfin g₃ { σ₂ with objs := σ₃.objs } s' out ys n D C m (le₂.trans le₃) RB hD₃ rO (Nat.le_trans hlen hsz) (fun kn => hDk₃ (nk D kn)) (fun kn => ?_) (Nat.ne_of_lt hDC) hm q₃
      · cases use <;> exact this
      · rcases EN.known R₂ kn with z | z | z | z
        · exact (List.nodup_cons.mp (show (C :: (Φ.hid ++ g₃.tr)).Nodup from R₃.nodup)).1 (List.mem_append_right _ z)
        · obtain ⟨p, hp, e⟩ := z; exact (R₃.muts C hCm).2.1 p hp e
        · rw [(R₃.muts C hCm).1] at z; cases z
        · exact (List.nodup_cons.mp (show (C :: (Φ.hid ++ g₃.tr)).Nodup from R₃.nodup)).1 (List.mem_append_left _ z)
  exact codeAny_compStart_list loop' (wpAny_mono ((src κ' Φ' rfl rfl rfl).self 0 _ (fun it' s' => codeAny (model κ.P.prog Φ.w) Φ.A (.compLoop (.ListComp elt [⟨target, iter, ifs, 0⟩] scope pos) 0 it' (.ref D) Φ'.env) (compPost (model κ.P.prog Φ.w) Φ.A NoE use QQ (.ref D) C) s') hS₁ loop') (fun _ _ q => q) fun _ _ e => e.elim)

section
variable {κ : Kap} {elt target iter : Expr} {ifs : List Expr} {scope : Scope} {pos : Pos} {caps : List (Option Nat)} {fi : W (List V × (List O → Prop))} {tgt : V → W Unit} {ts : W Bool} {el : W V}

noncomputable def lstW' (l : List V) : W V := fun Q σ => Q (.lst l) σ
theorem r_ListComp (vars : List Str) (hi : SI κ target iter fi) (ht : SA ⟨κ.P, relN κ.names scope.names, vars, κ.D, false⟩ target tgt) (hts : STs ⟨κ.P, relN κ.names scope.names, vars, κ.D, false⟩ ifs ts) (hel : SE ⟨κ.P, relN κ.names scope.names, vars, κ.D, false⟩ elt el)
    (hc : compOk κ scope vars caps = true) (hn : noSet iter = true := by rfl) : SE κ (.ListComp elt [⟨target, iter, ifs, 0⟩] scope pos) (bnd (compW fi caps tgt ts el) lstW') := fun Φ ok g σ s Q R q => by
  rw [eval_ListComp]
  refine comp_enter (use := none) ok (compIs_of hc) hi ht hts hel hn R q fun g' σ' s' out ys n D C m le R' hD rO hlen hDk hCk hne hm q' => ?_
  refine ⟨m, hm, fun h' hs => ?_⟩
  have R'' := R'.sameBut hCk (tk := s'.toks) hs.extBut
  obtain ⟨R₃, le₃⟩ := R''.freeze (hs.extBut _ _ hne hD) hDk
  exact ⟨_, .lst out, σ', le.trans le₃, R₃, by simp only [VR]; exact ⟨D, ys, n, rfl, .head _, VRs.mono le₃ _ rO⟩, q'⟩
noncomputable def swOk (κ : Kap) (value : Expr) (scope : Scope) (y : Str) (py spos : Pos) : Bool :=
  κ.names.lookup y == some .local && py.line == value.pos.line && !(scope.names.any fun z => z.1 == y && (z.2 == .local || z.2 == .cell))
theorem sw_true {Φ : Ctx} (ok : Ctx.Ok κ Φ) {y : Str} {py spos : Pos} (h : swOk κ (.ListComp elt [⟨target, iter, ifs, 0⟩] scope pos) scope y py spos = true) :
    swapsWith (.ListComp elt [⟨target, iter, ifs, 0⟩] scope pos) (some (.Name y py)) spos.line Φ.env = pure true := by
  simp only [swOk, Bool.and_eq_true] at h
  simp only [swapsWith, Env.blockKind, ok.kind, ok.kinds]
  rw [beq_iff_eq.mp h.1.1, h.1.2]
  have : (scope.names.any fun x => match x with | (n, k) => n == y && (k == .local || k == .cell)) = false := by simpa using h.2
  simp [this, ScopeKind.isAnnotationScope]

/-- `y = [...]`, where the name is put before the comprehension's own names go -/
theorem s_AssignComp {y : Str} {k : Nat} {py spos : Pos} (vars : List Str) (hi : SI κ target iter fi) (ht : SA ⟨κ.P, relN κ.names scope.names, vars, κ.D, false⟩ target tgt) (hts : STs ⟨κ.P, relN κ.names scope.names, vars, κ.D, false⟩ ifs ts) (hel : SE ⟨κ.P, relN κ.names scope.names, vars, κ.D, false⟩ elt el)
    (hc : compOk κ scope vars caps = true) (hy : stl κ y k = true) (hsw : swOk κ (.ListComp elt [⟨target, iter, ifs, 0⟩] scope pos) scope y py spos = true) (hn : noSet iter = true := by rfl) :
    SS κ (.Assign [.Name y py] (.ListComp elt [⟨target, iter, ifs, 0⟩] scope pos) spos) (bnd (compW fi caps tgt ts el) fun l => bnd (lstW' l) fun v => bnd (setv k v) fun _ => ret .next) := fun Φ ok g σ s Q R q => by
  rw [exec_Assign_Name_used _ _ _ _ (sw_true ok hsw)]
  refine wpAny_bind (wpAny_standAt (wpAny_bind ?_))
  show wpAny _ Φ.A (do let _ ← comprehension (.ListComp elt [⟨target, iter, ifs, 0⟩] scope pos) scope Φ.env _ (newList []) false (eval iter Φ.env) (some (assign (.Name y py) Φ.env))) _ _ s
  refine wpAny_bind (wpAny_mono (comp_enter (use := some (assign (.Name y py) Φ.env)) (QQ := fun _ s' => PF κ Φ g Q .next s') ok (compIs_of hc) hi ht hts hel hn R q fun g' σ' s' out ys n D C m le R' hD rO hlen hDk hCk hne hm q' => ?_) (fun _ s' hq => wpAny_pure (wpAny_pure hq)) fun _ _ e => e)
  obtain ⟨R₃, le₃⟩ := R'.freeze hD hDk
  obtain ⟨o, es, ep, ho, rm⟩ := hm
  have hCk₃ : ¬ Known Φ ⟨(D, listO ys n) :: g'.fz, g'.tr⟩ C := fun kn => by
    rcases kn with kn | ⟨p, hp, e⟩ | kn | kn
    · exact hCk (.inl kn)
    · rcases List.mem_cons.mp hp with rfl | hp
      · exact hne e
      · exact hCk (.inr (.inl ⟨p, hp, e⟩))
    · exact hCk (.inr (.inr (.inl kn)))
    · exact hCk (.inr (.inr (.inr kn)))
  have RP := R₃.pin (ps := [(C, o)]) (fun p hp => by rw [List.mem_singleton.mp hp]; exact ho) (fun p hp => by rw [List.mem_singleton.mp hp]; exact hCk₃)
  have hd : ∀ p ∈ [(C, o)], ∀ q ∈ Φ.pins, q.1 ≠ p.1 := fun p hp q hq e => by rw [List.mem_singleton.mp hp] at e; exact hCk (.inr (.inr (.inl ⟨q, hq, e⟩)))
  have q' : setv k (.lst out) (fun _ σ => Q .next σ) σ' := q'
  show wpAny _ Φ.A (assign (.Name y py) Φ.env (.ref D)) _ _ _
  refine wpAny_mono (a_Name (pos := py) hy (Φ.pin [(C, o)]) (ok.pin _) _ σ' s' _ (.lst out) (.ref D) RP (by simp only [VR]; exact ⟨D, ys, n, rfl, .head _, VRs.mono le₃ _ rO⟩) q') (fun _ s'' p => ?_) fun _ _ e => e
  obtain ⟨g₄, σ₄, le₄, R₄, q₄⟩ := p
  obtain ⟨R₅, k1, k2⟩ := R₄.unpin hd
  refine ⟨m, ⟨o, es, ep, k1 _ (.head _), rm⟩, fun h' hs => ?_⟩
  exact ⟨g₄, .next, σ₄, (le.trans le₃).trans le₄, R₅.sameBut (k2 _ (.head _)) (tk := s''.toks) hs.extBut, by simp only [FlR], q₄⟩

end
end Mine

open PySem PySem.W PyProof.Rows PySem.Calls
set_option Elab.async false
set_option maxRecDepth 100000
set_option linter.unusedVariables false

namespace Mine
section
variable {κ : Kap}

/-! ## The name `__debug__` -/
/-! ## Tuple targets -/
noncomputable def SAs (κ : Kap) (ts : List Expr) (f : List V → W Unit) : Prop :=
  ∀ Φ, Ctx.Ok κ Φ → ∀ g σ s Q vs xs, Rel κ Φ g σ s → VRs g vs xs → f vs Q σ → wpAny (model κ.P.prog Φ.w) Φ.A (assignInOrder ((assignEach ts Φ.env).map (·.2)) xs) (PU κ Φ g Q) NoE s
noncomputable def tgts (f : V → W Unit) (h : List V → W Unit) (vs : List V) : W Unit := match vs with
  | v :: vs => bnd (f v) fun _ => h vs
  | [] => fun _ _ => False
noncomputable def tgtN (vs : List V) : W Unit := match vs with
  | [] => ret ()
  | _ :: _ => fun _ _ => False
theorem as_nil : SAs κ [] tgtN := fun Φ ok g σ s Q vs xs R rv q => by
  cases vs with
  | nil => simp only [VRs] at rv; subst rv; exact wpAny_pure ⟨g, σ, .refl g, R, q⟩
  | cons v vs => exact (show False from q).elim
theorem as_cons {e : Expr} {es : List Expr} {f : V → W Unit} {h : List V → W Unit} (he : SA κ e f) (hes : SAs κ es h) (hn : isStarred e = false := by rfl) : SAs κ (e :: es) (tgts f h) := fun Φ ok g σ s Q vs xs R rv q => by
  cases vs with
  | nil => exact (show False from q).elim
  | cons v vs =>
    simp only [VRs] at rv
    obtain ⟨y, ys, rfl, ry, rys⟩ := rv
    have : assignEach (e :: es) Φ.env = (false, assign e Φ.env) :: assignEach es Φ.env := by cases e <;> first | rfl | cases hn
    rw [this]
    show wpAny _ _ (do holding ys (assign e Φ.env y); assignInOrder ((assignEach es Φ.env).map (·.2)) ys) _ _ s
    refine wpAny_bind (wpAny_holding (wpAny_mono (he Φ ok g σ s _ v y R ry q) (fun _ s₁ p => ?_) fun _ _ e => e))
    obtain ⟨g₁, σ₁, le₁, R₁, q₁⟩ := p
    exact wPU le₁ (hes Φ ok g₁ σ₁ s₁ Q vs ys R₁ (VRs.mono le₁ vs rys) q₁)
theorem assignEach_facts {env : Env} : ∀ {ts : List Expr}, plainArgs ts = true → (assignEach ts env).length = ts.length ∧ (assignEach ts env).findIdx? (·.1) = none
  | [], _ => ⟨rfl, rfl⟩
  | e :: es, h => by
    simp only [plainArgs, List.all_cons, Bool.and_eq_true, Bool.not_eq_true'] at h
    obtain ⟨h1, h2⟩ := assignEach_facts (env := env) (ts := es) h.2
    have : assignEach (e :: es) env = (false, assign e env) :: assignEach es env := by cases e <;> first | rfl | cases h.1
    rw [this]
    exact ⟨by simp [h1], by simp only [List.findIdx?_cons, Bool.false_eq_true, if_false, h2]; rfl⟩
noncomputable def tupT (n : Nat) (h : List V → W Unit) (v : V) : W Unit := fun Q σ => match v with
  | .tup l => l.length = n ∧ h l Q σ
  | _ => False
set_option tactic.hygienic true in
theorem a_Tuple {ts : List Expr} {k} {pos : Pos} {h : List V → W Unit} (hs : SAs κ ts h) (hp : plainArgs ts = true := by rfl) : SA κ (.Tuple ts k pos) (tupT ts.length h) := fun Φ ok g σ s Q v x R rv q => by
  unfold tupT at q
  split at q
  · rename_i l
    simp only [VR] at rv
    obtain ⟨a, xs, n, rfl, hm, rl⟩ := rv
    have h1 := R.fz _ hm
    obtain ⟨f1, f2⟩ := assignEach_facts (env := Φ.env) hp
    refine wpAny_assign_Tuple ok.handled (items := xs.toArray) (isTuple_of h1) (by rw [f1]; simp [rl.length, q.1]) f2 fun h' he => ?_
    exact hs Φ ok g σ _ Q l xs (R.sameBut (tk := s.toks) R.fresh he) rl q.2
  · exact q.elim

/-! ## Calls of built-in types and functions -/
noncomputable def lenA (vs kvs : List V) : W V := fun Q σ => match vs with
  | [.str x] => x.length ≤ sizeLine ∧ Q (.int x.length) σ
  | [v] => (match seqOf σ.objs v with
    | some l => l.length ≤ sizeLine ∧ Q (.int l.length) σ
    | none => False)
  | _ => False
set_option tactic.hygienic true in
theorem cal_len : CalOK κ (.builtin "len") [] lenA := fun Φ ok g σ s vs xs kvs kxs Q R rv rk q => by
  unfold lenA at q
  split at q
  · simp only [VRs, VR] at rv
    obtain ⟨_, _, rfl, ⟨t, rfl⟩, rfl⟩ := rv
    have := q.1
    rw [sizeLine_eq] at this
    exact P.len_str (by first | exact Nat.lt_of_le_of_lt this (by decide) | exact Nat.le_trans this (by decide) | omega) ⟨g, .int _, σ, .refl g, R.tok _, by simp only [VR]; exact ⟨_, rfl⟩, q.2⟩
  · split at q
    · rename_i l hl
      simp only [VRs] at rv
      obtain ⟨_, _, rfl, rv, rfl⟩ := rv
      obtain ⟨a, ys, n, rfl, h1, h2⟩ := R.seq_at rv hl
      have := q.1
      rw [sizeLine_eq] at this
      refine call_len_list (isList_of h1) (by first | (rw [List.size_toArray, h2.length]; exact Nat.lt_of_le_of_lt this (by decide)) | (rw [List.size_toArray, h2.length]; exact Nat.le_trans this (by decide)) | (simp [h2.length]; omega)) ⟨g, .int l.length, σ, .refl g, R.tok _, by simp only [VR]; exact ⟨s.toks + 1, by simp [h2.length]⟩, q.2⟩
    · exact q.elim
  · exact q.elim

noncomputable def typeA (vs kvs : List V) : W V := fun Q σ => match vs with
  | [.str _] => Q (.glob (.type "str")) σ
  | [.int _] => Q (.glob (.type "int")) σ
  | [v] => (match seqOf σ.objs v with
    | some l => Q (.glob (.type "list")) σ
    | none => False)
  | _ => False
set_option tactic.hygienic true in
theorem cal_type : CalOK κ (.type "type") [] typeA := fun Φ ok g σ s vs xs kvs kxs Q R rv rk q => by
  unfold typeA at q
  split at q
  · simp only [VRs, VR] at rv
    obtain ⟨_, _, rfl, ⟨t, rfl⟩, rfl⟩ := rv
    exact call_type_of (typeIs_str _ _ _) (by decide) ⟨g, .glob _, σ, .refl g, R, by simp only [VR], q⟩
  · simp only [VRs, VR] at rv
    obtain ⟨_, _, rfl, ⟨t, rfl⟩, rfl⟩ := rv
    exact call_type_of (typeIs_int _ _ _) (by decide) ⟨g, .glob _, σ, .refl g, R, by simp only [VR], q⟩
  · split at q
    · rename_i l hl
      simp only [VRs] at rv
      obtain ⟨_, _, rfl, rv, rfl⟩ := rv
      obtain ⟨a, ys, n, rfl, h1, h2⟩ := R.seq_at rv hl
      exact call_type_of (isList_of h1).typeIs (by decide) ⟨g, .glob _, σ, .refl g, R, by simp only [VR], q⟩
    · exact q.elim
  · exact q.elim

/-! ## join -/
noncomputable def strsOf : List V → Option (List Str)
  | [] => some []
  | .str x :: r => (strsOf r).map (x :: ·)
  | _ :: _ => none
theorem strsOf_vrs {g : G} : ∀ {l : List V} {xs : List Value} {ys : List Str}, VRs g l xs → strsOf l = some ys → StrsAre xs ys
  | [], xs, ys, r, e => by simp only [VRs] at r; subst r; cases e; exact .nil
  | v :: l, xs, ys, r, e => by
    simp only [VRs] at r
    obtain ⟨y, zs, rfl, ry, rz⟩ := r
    cases v with
    | str x =>
      simp only [strsOf] at e
      cases q : strsOf l with
      | none => rw [q] at e; cases e
      | some us =>
        rw [q] at e; cases e
        simp only [VR] at ry
        obtain ⟨t, rfl⟩ := ry
        exact .cons _ _ (strsOf_vrs rz q)
    | _ => cases e
noncomputable def joinA (vs kvs : List V) : W V := fun Q σ => match vs with
  | [.str x, v] => (match (seqOf σ.objs v).bind strsOf with
    | some ys => (ys.map (·.length)).sum + ys.length * x.length ≤ 16777216 ∧ Q (.str (Txt.join x ys)) σ
    | none => False)
  | _ => False
set_option tactic.hygienic true in
theorem cal_join : CalOK κ (.builtin "str.join") [] joinA := fun Φ ok g σ s vs xs kvs kxs Q R rv rk q => by
  unfold joinA at q
  split at q
  · split at q
    · rename_i ys hy
      simp only [VRs] at rv
      obtain ⟨_, _, rfl, r1, _, _, rfl, r2, rfl⟩ := rv
      simp only [VR] at r1
      obtain ⟨t, rfl⟩ := r1
      obtain ⟨l, hl, hs⟩ := Option.bind_eq_some_iff.mp hy
      obtain ⟨a, zs, n, rfl, h1, h2⟩ := R.seq_at r2 hl
      exact join_list (isList_of h1) (by simpa using strsOf_vrs h2 hs) q.1 fun t' k => ⟨g, .str _, σ, .refl g, R.tok _, by simp only [VR]; exact ⟨_, rfl⟩, q.2⟩
    · exact q.elim
  · exact q.elim

/-! ## '%s: %s' of a pair -/
/-! ## pop -/
/-! ## xs[:] = ys -/
theorem setItem_all {prog : Program} {w : World} {A : Around} {E : Value → Shared → Prop} {s : Shared} {l v sl : Addr} {xs ys : List Value} {n n' : Nat} {Q : Unit → Shared → Prop} (hl : s.heap.get? l = some (listO xs n)) (hv : s.heap.get? v = some (listO ys n')) (hne : l ≠ v)
    (hs : s.heap.IsSliceOf sl .none .none .none) (hsz : xs.length + ys.length ≤ sizeLine)
    (h : ∀ h' n'', h'.get? l = some (listO ys n'') → (∀ b o, b ≠ l → s.heap.get? b = some o → h'.get? b = some o) → Q () { s with heap := h' }) :
    wpAny (model prog w) A (setItem (.ref l) (.ref sl) (.ref v)) Q E s := by
  have hL := isList_of hl
  obtain ⟨os, hos, hcs, hds⟩ := id hs
  have hTs : s.TypeIs (.ref sl) "slice" := ⟨os, hos, hcs⟩
  unfold setItem
  refine wpAny_holding ?_
  refine wpAny_bind (wpAny_sequenceKey hL.typeIs (by decide) ?_)
  refine wpAny_bind (wpAny_callSpecial?_slot (name := Str.ofString "__setitem__") hL.typeIs slot_list_setitem
    (wpAny_call_entry slot_list_setitem hL.typeIs entry_list_setitem ?_ (args_list_setitem _ _ _)))
  show wpAny _ _ (Builtin.List.listSubscript? (.ref sl) >>= _) _ _ s
  refine wpAny_bind ?_
  unfold Builtin.List.listSubscript?
  refine wpAny_bind (wpAny_specialOf hTs slice_no_index ?_)
  simp only [Option.isNone_none, if_true]
  refine wpAny_pure ?_
  show wpAny _ _ (typeOf (.ref sl) >>= _) _ _ s
  refine wpAny_bind (wpAny_typeOf hTs ?_)
  rw [if_neg (by decide)]
  rw [listSliceParts_eq]
  refine wpAny_bind (wpAny_bind (wpAny_field hos hds (x := .none) rfl (wpAny_bind (wpAny_listPart .none ?_))))
  rw [if_neg (by decide)]
  refine wpAny_bind (wpAny_field hos hds (x := .none) rfl (wpAny_bind (wpAny_listPart .none ?_)))
  refine wpAny_bind (wpAny_field hos hds (x := .none) rfl (wpAny_bind (wpAny_listPart .none (wpAny_pure ?_))))
  have hsame : Builtin.List.listSameRef (.ref l) (.ref v) = false := by show (l == v) = false; simpa using hne
  rw [hsame]
  simp only [Bool.false_eq_true, if_false]
  refine wpAny_bind (m := Builtin.List.listAllItems (.ref v) _) ?_
  unfold Builtin.List.listAllItems
  refine wpAny_bind (wpAny_typeOf (isList_of hv).typeIs ?_)
  rw [if_pos (by decide)]
  unfold Builtin.List.listItems
  refine wpAny_bind (wpAny_seqItems hv rfl (wpAny_pure ?_))
  refine wpAny_bind (wpAny_bind (wpAny_seqItems hl rfl (wpAny_pure ?_)))
  refine wpAny_bind (wpAny_of_eq (sliceIndices_raw none none none _ (by simp)) ?_)
  have hb : sliceBounds none none none xs.toArray.size = (0, (xs.length : Int), 1) := by simp [sliceBounds]
  rw [hb]
  rw [if_pos (show (((0 : Int), (xs.length : Int), (1 : Int)).2.snd == 1) = true from rfl)]
  refine wpAny_bind (wpAny_rule ?_)
  have hlong : Builtin.List.listTooLong (xs.toArray.size + ys.toArray.size) = false := by
    unfold Builtin.List.listTooLong
    simpa using hsz
  rw [hlong]
  simp only [Bool.false_eq_true, if_false]
  obtain ⟨n'', e⟩ := mapSeq_listO (fun zs => zs.extract 0 (Int.toNat 0) ++ ys.toArray ++ zs.extract (max (0 : Int) xs.length).toNat) xs ys n (by
    have : (max (0 : Int) xs.length).toNat = xs.length := by omega
    simp [this])
  unfold Builtin.List.listUpdate
  refine wpAny_bind (wpAny_updateSeq hl rfl (wpAny_bind (wpAny_letGo (wpAny_pure ⟨.none, rfl, wpAny_pure (h _ n'' ?_ fun b o hb e => (Heap.get?_update_other _ _ (Ne.symm hb)).trans e)⟩))) (hz := ?_) (_hz' := ?_))
  · rw [Heap.get?_update_self (h := s.heap) _ hl (by rw [e]; rfl), e]
  · simp; omega
  · have : (max (0 : Int) xs.length).toNat = xs.length := by omega
    simp [this]; omega
noncomputable def sliceSetA (v u : V) : W Unit := fun Q σ => match v, u with
  | .ref i, .lst l => (match lstAt σ.objs i with
    | some l' => l'.length + l.length ≤ sizeLine ∧ Q () { σ with objs := σ.objs.set i (.list l) }
    | none => False)
  | _, _ => False
set_option tactic.hygienic true in
theorem a_SliceAll {value : Expr} {p p' : Pos} {f : W V} (hv : SE κ value f) : SA κ (.Subscript value (.Slice none none none p') p) (fun u => bnd f fun v => sliceSetA v u) := fun Φ ok g σ s Q u yu R ru q => by
  rw [arm_assign_Subscript]
  refine wpAny_bind (wpAny_holding (wpAny_mono (hv Φ ok g σ s _ R q) (fun x s₁ p => ?_) fun _ _ e => e))
  obtain ⟨g₁, v, σ₁, le₁, R₁, rv, q₁⟩ := p
  have q₁ : sliceSetA v u Q σ₁ := q₁
  unfold sliceSetA at q₁
  split at q₁
  · rename_i i l _
    split at q₁
    · rename_i l' hl
      replace ru := VR.mono le₁ _ ru
      simp only [VR] at ru
      obtain ⟨b, ys, n', rfl, hm, ry⟩ := ru
      obtain ⟨a, xs, n, rfl, hi, h1, h2⟩ := R₁.ref_at rv hl
      have hb := R₁.fz _ hm
      have hne : a ≠ b := fun e => (R₁.muts a (tr_mut (List.mem_of_getElem? hi))).2.1 _ hm e.symm
      refine wpAny_bind (wpAny_holding ?_)
      show wpAny _ _ (do
        let l ← valueOrNone (evalOpt none Φ.env)
        let u ← holding [l] (valueOrNone (evalOpt none Φ.env))
        let s ← holding [l, u] (valueOrNone (evalOpt none Φ.env))
        newFields "slice" [l, u, s]) _ _ s₁
      refine wpAny_bind (wpAny_pure (wpAny_bind (wpAny_holding (wpAny_pure (wpAny_bind (wpAny_holding (wpAny_pure ?_)))))))
      refine wpAny_newObj_type ?_
      refine wpAny_bind (wpAny_standAt (wpAny_bind (wpAny_holding (setItem_all (n := n) (n' := n') (xs := xs) (ys := ys) (Heap.get?_push_of_some _ h1) (Heap.get?_push_of_some _ hb) hne (Heap.IsSliceOf.new ..) (by have := h2.length; have := ry.length; have := q₁.1; omega) fun h' n'' h3 hk => ?_))))
      refine wpAny_release ?_
      have R2 : Rel κ Φ g₁ σ₁ { s₁ with heap := s₁.heap.push { cls := .type "slice", data := .fields #[.none, .none, .none] } } := R₁.keeps (tk := s₁.toks) fun b o e => Heap.get?_push_of_some _ e
      exact ⟨g₁, _, le₁, R2.turn (o := .list l) (tk := s₁.toks) hi h3 ⟨ys, n'', rfl, ry⟩ hk, q₁.2⟩
    · exact q₁.elim
  · exact q₁.elim

end
end Mine

open PySem PySem.W PyProof.Rows PySem.Calls
set_option Elab.async false
set_option maxRecDepth 100000
set_option linter.unusedVariables false

namespace Mine

theorem s_dead {κ : Kap} {st : Stmt} : SS κ st (fun _ _ => False) := fun _ _ _ _ _ _ _ q => q.elim
theorem b_dead {κ : Kap} {b : List Stmt} : SB κ b (fun _ _ => False) := fun _ _ _ _ _ _ _ q => q.elim
theorem r_dead {κ : Kap} {e : Expr} : SE κ e (fun _ _ => False) := fun _ _ _ _ _ _ _ q => q.elim

/-! ## Facts of the program's objects -/
noncomputable def objFd : Obj → Option FuncData
  | ⟨_, _, .func fd, _⟩ => some fd
  | _ => none
noncomputable def stmtsOf : FuncBody → List Stmt
  | .stmts b => b
  | _ => []
theorem fnAt_of {k : Frag} {f : Addr} {fd : FuncData} (h : (k.lookup f).bind objFd = some fd) : ∃ oc od osl, k.lookup f = some ⟨oc, od, .func fd, osl⟩ := by
  obtain ⟨o, h1, h2⟩ := Option.bind_eq_some_iff.mp h
  obtain ⟨oc, od, d, osl⟩ := o
  cases d <;> simp only [objFd] at h2 <;> first | (cases h2; exact ⟨oc, od, osl, h1⟩) | cases h2
noncomputable def q0 : Params := { strHash := fun _ => 0, shareClass := fun _ => 0, mergeTok := fun t => t, idOf := fun _ => 0, idOfShared := fun _ _ => 0, followText := fun _ => false, idOfImm := fun _ => 0 }
theorem len0 {α : Type} {l : List α} (h : l.length = 0) : l = [] := List.eq_nil_of_length_eq_zero h
theorem len1 {α : Type} {l : List α} (h : l.length = 1) : ∃ a, l = [a] := List.length_eq_one_iff.mp h
theorem len2 {α : Type} {l : List α} (h : l.length = 2) : ∃ a b, l = [a, b] := by
  match l, h with
  | [a, b], _ => exact ⟨a, b, rfl⟩
theorem len3 {α : Type} {l : List α} (h : l.length = 3) : ∃ a b c, l = [a, b, c] := by
  match l, h with
  | [a, b, c], _ => exact ⟨a, b, c, rfl⟩

/-! ## Loops over a row -/
section
variable {α : Type}
theorem compL_pure {chk : List O → Prop} {tgt : V → W Unit} {ts : W Bool} {el : W V} (emb : α → V) (p : α → Bool) (f : α → V) (J : St → Prop) (hchk : ∀ σ, J σ → chk σ.objs) : ∀ {L : List α} {acc : List V} {Q : List V → St → Prop} {σ : St},
    (∀ a ∈ L, ∀ σ (Q : Option V → St → Prop), J σ → (∀ σ', J σ' → Q (if p a then some (f a) else none) σ') → tgt (emb a) (fun _ σ₁ => ts (fun b σ₂ => if b = true then el (fun u σ₃ => Q (some u) σ₃) σ₂ else Q none σ₂) σ₁) σ) →
    J σ → (∀ σ', J σ' → Q (acc ++ (L.filter p).map f) σ') → compL chk tgt ts el (L.map emb) acc Q σ
  | [], acc, Q, σ, _, hJ, hQ => ⟨hchk σ hJ, by simpa using hQ σ hJ⟩
  | a :: L, acc, Q, σ, hs, hJ, hQ => by
    refine ⟨hchk σ hJ, hs a (.head _) σ (fun o σ' => match o with | some u => compL chk tgt ts el (L.map emb) (acc ++ [u]) Q σ' | none => compL chk tgt ts el (L.map emb) acc Q σ') hJ fun σ' hJ' => ?_⟩
    have ih := fun (acc : List V) (h : ∀ σ', J σ' → Q (acc ++ (L.filter p).map f) σ') => compL_pure emb p f J hchk (L := L) (acc := acc) (Q := Q) (σ := σ') (fun b hb => hs b (.tail _ hb)) hJ' h
    cases hp : p a
    · simp only [Bool.false_eq_true, if_false]
      refine ih acc fun σ'' h => ?_
      have := hQ σ'' h
      simpa [hp] using this
    · simp only [if_true]
      refine ih _ fun σ'' h => ?_
      have := hQ σ'' h
      simpa [hp] using this

end
end Mine

open PySem PySem.W PyProof.Rows PySem.Calls
set_option Elab.async false
set_option maxRecDepth 100000
set_option linter.unusedVariables false

namespace Mine

/-! ## The two patterns of the program -/
noncomputable def codeN : Array Nat := #[14, 10, 4, 1, 1, 22, 0, 31, 16, 127, 0, 13, 7, 22, 0, 31, 16, 127, 0, 1]
noncomputable def codeV : Array Nat := #[14, 14, 4, 1, 1, 9, 4294966783, 0, 0, 2147483648, 0, 0, 0, 0, 0, 13, 11, 9, 4294966783, 0, 0, 2147483648, 0, 0, 0, 0, 0, 1]
noncomputable def okN (x : Str) : Prop := x.length ≤ 100000 ∧ ∀ c ∈ x.cps.toList, 32 ≤ c ∧ c ≠ 127
noncomputable def okV (x : Str) : Prop := x.length ≤ 100000 ∧ ∀ c ∈ x.cps.toList, (32 ≤ c ∧ c ≠ 127) ∨ c = 9
theorem clearN {x : Str} (h : ∀ c ∈ x.cps.toList, 32 ≤ c ∧ c ≠ 127) : Clear codeN x.cps := fun c hc seen => by
  obtain ⟨h1, h2⟩ := h c hc
  have e1 : (decide (0 ≤ c) && decide (c ≤ 31)) = false := by simp; omega
  have e2 : (c == 127) = false := by simpa using h2
  refine ⟨((seen.add 22).add 16).add 0, ?_⟩
  show (if (decide (0 ≤ c) && decide (c ≤ 31)) = true then _ else (if (c == 127) = true then _ else _)) = _
  rw [e1, e2]
  rfl
theorem clearV {x : Str} (h : ∀ c ∈ x.cps.toList, (32 ≤ c ∧ c ≠ 127) ∨ c = 9) : Clear codeV x.cps := fun c hc seen => by
  have h := h c hc
  have e1 : (decide (c < 256) && (codeV.getD (5 + (1 + c / 32)) 0).testBit (c % 32)) = false := by
    by_cases hlt : c < 256
    · have key : ∀ c : Fin 256, ((32 ≤ c.val ∧ c.val ≠ 127) ∨ c.val = 9) → (codeV.getD (5 + (1 + c.val / 32)) 0).testBit (c.val % 32) = false := by decide +kernel
      rw [key ⟨c, hlt⟩ h]; simp
    · simp [hlt]
  refine ⟨(seen.add 9).add 0, ?_⟩
  show (if (decide (c < 256) && (codeV.getD (5 + (1 + c / 32)) 0).testBit (c % 32)) = true then _ else _) = _
  rw [e1]
  rfl

section
variable {κ : Kap}
theorem meth_or {n : Str} {fv : Value} {g₁ g₂ : V → St → Prop} (h₁ : MethOK κ n fv g₁) (h₂ : MethOK κ n fv g₂) : MethOK κ n fv (fun v σ => g₁ v σ ∨ g₂ v σ) :=
  fun Φ ok g σ s v x pl Q R rv hg q => hg.elim (fun h => h₁ Φ ok g σ s v x pl Q R rv h q) fun h => h₂ Φ ok g σ s v x pl Q R rv h q
theorem cal_or {fv : Value} {kws : List Str} {f₁ f₂ : List V → List V → W V} (h₁ : CalOK κ fv kws f₁) (h₂ : CalOK κ fv kws f₂) : CalOK κ fv kws (fun vs kvs Q σ => f₁ vs kvs Q σ ∨ f₂ vs kvs Q σ) :=
  fun Φ ok g σ s vs xs kvs kxs Q R rv rk q => q.elim (fun q => h₁ Φ ok g σ s vs xs kvs kxs Q R rv rk q) fun q => h₂ Φ ok g σ s vs xs kvs kxs Q R rv rk q
end

/-! ## Tables -/
noncomputable def TB (objs : List O) (i j : Nat) (l : List V) : Prop := objs[i]? = some (.attrs [("_headers", .ref j)]) ∧ lstAt objs j = some l
noncomputable def prV (p : Str × Str) : V := .tup [.str p.1, .str p.2]
noncomputable def okK (x : Str) : Prop := okN x ∧ okN (Txt.lower x)
noncomputable def Tab (L : List (Str × Str)) : Prop := L.length ≤ 1000 ∧ ∀ p ∈ L, okK p.1 ∧ okV p.2
noncomputable def same (x : Str) (p : Str × Str) : Bool := Txt.lower p.1 == Txt.lower x
noncomputable def getL (L : List (Str × Str)) (x : Str) : V := match L.find? (same x) with
  | some p => .str p.2
  | none => .none
noncomputable def delL (L : List (Str × Str)) (x : Str) : List (Str × Str) := L.filter fun p => !same x p
set_option tactic.hygienic true in
theorem lst_set {objs : List O} {j : Nat} {l l' : List V} (h : lstAt objs j = some l) : lstAt (objs.set j (.list l')) j = some l' := by
  unfold lstAt at h ⊢
  split at h
  · rename_i e
    rw [List.getElem?_set_self (List.getElem?_eq_some_iff.mp e).1]
  · cases h
theorem lst_set_ne {objs : List O} {i j : Nat} {o : O} (h : i ≠ j) : lstAt (objs.set i o) j = lstAt objs j := by
  unfold lstAt; rw [List.getElem?_set_ne h]
theorem TB.ne {objs : List O} {i j : Nat} {l : List V} (h : TB objs i j l) : i ≠ j := fun e => by
  subst e
  have := h.2
  unfold lstAt at this
  rw [h.1] at this
  cases this
theorem TB.set {objs : List O} {i j : Nat} {l l' : List V} (h : TB objs i j l) : TB (objs.set j (.list l')) i j l' :=
  ⟨by rw [List.getElem?_set_ne h.ne.symm]; exact h.1, lst_set h.2⟩
end Mine

open PySem PySem.W PyProof.Rows PySem.Calls
set_option Elab.async false
set_option maxRecDepth 100000
set_option linter.unusedVariables false
set_option linter.unusedSimpArgs false

namespace Mine

theorem seqF_of {f h : W Fl} {Q : Fl → St → Prop} {σ : St} (P : St → Prop) (h1 : ∀ K : Fl → St → Prop, (∀ σ', P σ' → K .next σ') → f K σ) (h2 : ∀ σ', P σ' → h Q σ') : seqF f h Q σ := h1 _ fun σ' hp => h2 σ' hp
/-- a statement that may return -/
theorem seqF_ret {f h : W Fl} {Q : Fl → St → Prop} {σ : St} (P : St → Prop) (h1 : ∀ K : Fl → St → Prop, (∀ σ', P σ' → K .next σ') → (∀ v σ', Q (.ret v) σ' → K (.ret v) σ') → f K σ) (h2 : ∀ σ', P σ' → h Q σ') : seqF f h Q σ :=
  h1 _ (fun σ' hp => h2 σ' hp) (fun v σ' hq => hq)
section
variable {objs : List O}
theorem seqOpt_some {α : Type} : ∀ (l : List α), seqOpt (l.map some) = some l
  | [] => rfl
  | a :: l => by simp [seqOpt, seqOpt_some l]
theorem nrm_lst {n : Nat} {l : List V} (h : ∀ v ∈ l, nrm objs n v = some v) : nrm objs (n + 1) (.lst l) = some (.lst l) := by
  have e : l.map (nrm objs n) = l.map some := List.map_congr_left h
  simp only [nrm, e, seqOpt_some, Option.map_some]
theorem nrm_tup {n : Nat} {l : List V} (h : ∀ v ∈ l, nrm objs n v = some v) : nrm objs (n + 1) (.tup l) = some (.tup l) := by
  have e : l.map (nrm objs n) = l.map some := List.map_congr_left h
  simp only [nrm, e, seqOpt_some, Option.map_some]
theorem nrm_ref {n i : Nat} {l : List V} (hi : lstAt objs i = some l) (h : ∀ v ∈ l, nrm objs n v = some v) : nrm objs (n + 1) (.ref i) = some (.lst l) := by
  have e : l.map (nrm objs n) = l.map some := List.map_congr_left h
  simp only [nrm, hi, e, seqOpt_some, Option.map_some]
theorem nrm_prV {n : Nat} {p : Str × Str} : nrm objs (n + 2) (prV p) = some (prV p) := nrm_tup fun v hv => by
  rcases List.mem_cons.mp hv with rfl | hv
  · rfl
  · rw [List.mem_singleton.mp hv]; rfl
theorem nrm_seqv {n : Nat} {a : V} {l : List V} (ha : seqOf objs a = some l) (h : ∀ v ∈ l, nrm objs n v = some v) : nrm objs (n + 1) a = some (.lst l) := by
  cases a with
  | lst m => simp only [seqOf] at ha; cases ha; exact nrm_lst h
  | ref i => exact nrm_ref ha h
  | _ => cases ha
end

theorem veqs_map {α : Type} {f : α → V} [DecidableEq α] (h : ∀ a b, veq (f a) (f b) = some (decide (a = b))) : ∀ (l m : List α), veqs (l.map f) (m.map f) = some (decide (l = m))
  | [], [] => rfl
  | [], _ :: _ => rfl
  | _ :: _, [] => rfl
  | a :: l, b :: m => by
    simp only [List.map_cons, veqs, h a b, veqs_map h l m, List.cons.injEq]
    by_cases h1 : a = b <;> by_cases h2 : l = m <;> simp [h1, h2]
theorem veq_str (a b : Str) : veq (.str a) (.str b) = some (decide (a = b)) := by
  simp only [veq, Option.some.injEq]
  by_cases h : a = b <;> simp [h]
theorem veq_prV (p q : Str × Str) : veq (prV p) (prV q) = some (decide (p = q)) := by
  obtain ⟨a, b⟩ := p
  obtain ⟨c, d⟩ := q
  have e : veq (prV (a, b)) (prV (c, d)) = some ((a == c) && ((b == d) && true)) := by simp [prV, veq, veqs]
  rw [e]
  by_cases h1 : a = c <;> by_cases h2 : b = d <;> simp [h1, h2]
theorem eqA_seq {α : Type} [DecidableEq α] {f : α → V} {σ : St} {a b : V} {l m : List α} {Q : Bool → St → Prop} (h : ∀ a b, veq (f a) (f b) = some (decide (a = b))) (hn : ∀ x objs, nrm objs 7 (f x) = some (f x))
    (ha : seqOf σ.objs a = some (l.map f)) (hb : seqOf σ.objs b = some (m.map f)) (q : Q (decide (l = m)) σ) : eqA a b Q σ := by
  have e1 : nrm σ.objs 8 a = some (.lst (l.map f)) := nrm_seqv ha fun v hv => by obtain ⟨x, _, rfl⟩ := List.mem_map.mp hv; exact hn x _
  have e2 : nrm σ.objs 8 b = some (.lst (m.map f)) := nrm_seqv hb fun v hv => by obtain ⟨x, _, rfl⟩ := List.mem_map.mp hv; exact hn x _
  unfold eqA
  split
  · cases ha
  · cases ha
  · rw [e1, e2]
    simp only [veq, veqs_map h]
    exact q
theorem eqA_pairs {σ : St} {a b : V} {l m : List (Str × Str)} {Q : Bool → St → Prop} (ha : seqOf σ.objs a = some (l.map prV)) (hb : seqOf σ.objs b = some (m.map prV)) (q : Q (decide (l = m)) σ) : eqA a b Q σ :=
  eqA_seq veq_prV (fun _ _ => nrm_prV) ha hb q
end Mine

open PySem PySem.W PyProof.Rows PySem.Calls
set_option Elab.async false
set_option maxRecDepth 100000
set_option linter.unusedVariables false
set_option linter.unusedSimpArgs false

namespace Mine

/-! ## The law's own frame -/
noncomputable def globAt (k : Frag) : Option (Array DictEntry) := match k.lookup mainGlobals with
  | some o => (match o.data with
    | .dict es _ => some es
    | _ => none)
  | none => none
noncomputable def globOK (es : Array DictEntry) (gl : List (Str × Value)) : Bool := gl.all fun p => match nsFind es p.1 with
  | some v => v == p.2
  | none => bootBuiltins p.1 == some p.2 && p.1 != ("__name__" : Str)

noncomputable def globChk (k : Frag) (gl : List (Str × Value)) : Bool := match globAt k with
  | some es => globOK es gl
  | none => false
set_option tactic.hygienic true in
theorem glob_of {K : Frag} {gl : List (Str × Value)} {es : Array DictEntry} {h : Heap} {mg mb : Str → Option Value} (X : K.In h) (he : globAt K = some es) (hok : globOK es gl = true) (hg : h.Ns mainGlobals mg) (hb : ∀ x : Str, x ≠ "__name__" → mb x = bootBuiltins x) :
    ∀ x v, gl.lookup x = some v → mg x = some v ∨ (mg x = none ∧ mb x = some v) := fun x v hx => by
  unfold globAt at he
  split at he
  · rename_i o ho
    split at he
    · rename_i es' ep hd
      cases he
      obtain ⟨o', es'', ep'', h1, h2, h3, h4⟩ := hg
      have := X _ _ ho
      rw [h1] at this; cases this
      rw [hd] at h2; cases h2
      have hm := lookup_mem hx
      have hc := List.all_eq_true.mp hok _ hm
      simp only at hc
      rw [← h4 x]
      cases q : nsFind es x with
      | some u =>
        rw [q] at hc
        simp only [beq_iff_eq] at hc
        exact .inl (by rw [hc])
      | none =>
        rw [q] at hc
        simp only [Bool.and_eq_true, beq_iff_eq, bne_iff_ne] at hc
        exact .inr ⟨rfl, by rw [hb x hc.2]; exact hc.1⟩
    · cases he
  · cases he

theorem well_ints {P : Params} {h : Heap} : ∀ {ns : List Int} {vs : List Value}, WellAll P h vs (ofPys (ns.map .int)) → ∀ g, VRs g (ns.map .int) vs
  | [], vs, h, g => by cases h; exact .nil
  | n :: ns, vs, h, g => by
    cases h with
    | cons h1 h2 =>
      cases h1 with
      | int i t => exact .cons (by simp only [VR]; exact ⟨t, rfl⟩) (well_ints h2 g)
set_option tactic.hygienic true in
theorem law_end {P : Prg} {names : List (Str × NameKind)} {vars : List Str} {D : Nat} {body : List Stmt} {fb : W Fl} {w : World} {s₁ : Shared} {h₁ : Heap} {mg mb : Str → Option Value} {env : Env} {A : Around} {a : Addr} {ns : List Int} {tk : Nat}
    {Post : Flow → Shared → Prop} {E : Value → Shared → Prop} {mL : Str → Option Value}
    (hb : SB ⟨P, names, vars, D, true⟩ body fb) (hrun : fb (fun fl _ => fl = .ret (.bool true)) ⟨initLoc vars ["script"] [.lst (ns.map .int)], []⟩)
    (KX : (P.K w.params).In s₁.heap) (hg : s₁.heap.Ns mainGlobals mg) (hbn : s₁.heap.Ns builtinsNs mb) (hbt : ∀ x : Str, x ≠ "__name__" → mb x = bootBuiltins x) (nolim : s₁.heap.NoLimit)
    (hchk : ∀ q, globChk (P.K q) P.glob = true)
    (hkinds : ∀ x, env.kindOf x = names.lookup x) (hkind : env.scope.kind = .function) (hglo : env.globals = mainGlobals) (hbui : env.builtins = builtinsNs) (hloc : env.locals = s₁.heap.objs.size) (hcells : env.cells = [])
    (hnc : ∀ x ∈ names, x.2 ≠ .cell) (hAe : A = callerA.deeper env) (hD : D ≤ 50)
    (F : Fr s₁.heap s₁.heap.objs.size h₁ mL) (hmL : mL "script" = some (.ref a)) (hgens : s₁.gens = #[]) (hW : Well w.params s₁.heap (.ref a) (ofPy (.list (ns.map .int))))
    (hQ : ∀ s' m, Fr s₁.heap s₁.heap.objs.size s'.heap m → s'.gens = #[] → s'.os = s₁.os → Post (.ret (.bool true)) s') (hframe : env.frame = some env.locals := by rfl) :
    wpAny (model P.prog w) A (execs body env) Post E { s₁ with heap := h₁, toks := tk } := by
  have hA : A.handled = none := by rw [hAe]; rfl
  have hdep : A.depth + 2 * D < recursionLimit := by
    rw [hAe]
    show callerA.depth + 1 + 2 * D < recursionLimit
    have h1 : callerA.depth + 1 + 100 < recursionLimit := by decide
    omega
  have hun : A.units + 20 * D + 100 < cLine := by
    rw [hAe]
    show callerA.units + 3 + 20 * D + 100 < cLine
    have h1 : callerA.units + 3 + 1000 + 100 < cLine := by decide
    omega
  obtain ⟨es, he, hok⟩ : ∃ es, globAt (P.K w.params) = some es ∧ globOK es P.glob = true := by
    have := hchk w.params
    unfold globChk at this
    split at this
    · rename_i es e; exact ⟨es, e, this⟩
    · cases this
  obtain ⟨vs, hget, hall⟩ : ∃ vs : List Value, s₁.heap.get? a = some (listO vs 0) ∧ WellAll w.params s₁.heap vs (ofPys (ns.map .int)) := by
    cases hW with
    | list h1 h2 => exact ⟨_, h1, h2⟩
  let Φ : Ctx := { w := w, h₀ := s₁.heap, A := A, env := env, cw := [], pins := [], os := s₁.os, forb := [], outs := [] }
  let g : G := ⟨[(a, listO vs 0)], []⟩
  have hnone : s₁.heap.get? env.locals = none := by
    rw [hloc]
    cases q : s₁.heap.get? s₁.heap.objs.size with
    | none => rfl
    | some o => exact absurd (Heap.lt_size q) (Nat.lt_irrefl _)
  have notcell : ∀ x, names.lookup x = some .cell → False := fun x hx => hnc _ (lookup_mem hx) rfl
  have ok : Ctx.Ok ⟨P, names, vars, D, true⟩ Φ := by
    refine ⟨hkinds, hkind, hglo, hbui, hA, KX, nolim, ⟨mg, mb, hg, hbn, glob_of KX he hok hg hbt⟩, hdep, fun _ x hx => (notcell x hx).elim, ?_, fun x y c hx => ?_, hun, ?_, (fun p hp => by cases hp)⟩
    · show s₁.heap.objs.size ≤ env.locals; rw [hloc]; exact Nat.le_refl _
    · rw [show Φ.env.cells = [] from hcells] at hx; cases hx
    · refine ⟨[env], by show A.frames = _; rw [hAe]; exact Around.frames_deeper rfl, fun e he => ?_, fun _ => ⟨hframe, [], rfl⟩⟩
      rw [List.mem_singleton.mp he]
      exact ⟨by rw [hkind]; decide, _, hframe, .inl rfl⟩
  have R : Rel ⟨P, names, vars, D, true⟩ Φ g ⟨initLoc vars ["script"] [.lst (ns.map .int)], []⟩ { s₁ with heap := h₁, toks := tk } := by
    refine ⟨⟨mL, by show h₁.Ns env.locals mL; rw [hloc]; exact F.ns, fun x k v hsl hl => ?_⟩, (fun c hc => by cases hc), F.keep, fun p hp => ?_, (fun p hp => by cases hp), ⟨rfl, fun i b o e => ?_⟩, fun b hb => ?_, ?_, (fun p hp => by cases hp), fun x c hk e => ?_, hgens, rfl, (fun b hb => by cases hb)⟩
    · have hl' : lget (vars.map fun x => ([(("script" : Str), V.lst (ns.map .int))] : List (Str × V)).lookup x) k = some v := hl
      rw [lget_map (slot_get hsl)] at hl'
      rw [List.lookup_cons] at hl'
      split at hl'
      · rename_i hx
        have := beq_iff_eq.mp hx
        subst this
        cases hl'
        split
        · refine ⟨_, hmL, ?_⟩
          simp only [VR]
          exact ⟨a, vs, 0, rfl, .head _, well_ints hall g⟩
        · rename_i hc
          exact (notcell _ ((hkinds _).symm.trans hc)).elim
        · trivial
      · cases hl'
    · rw [List.mem_singleton.mp hp]; exact F.keep _ _ hget
    · exact absurd e (by simp [g])
    · have hb' : b = env.locals := by simpa [Ctx.muts, Φ, g] using hb
      subst hb'
      refine ⟨hnone, fun p hp e => ?_, (fun p hp => by cases hp)⟩
      rw [List.mem_singleton.mp hp] at e
      rw [← (show a = env.locals from e), hget] at hnone; cases hnone
    · show ([env.locals] : List Addr).Nodup
      exact List.nodup_cons.mpr ⟨by simp, List.nodup_nil⟩
    · rw [show Φ.env.cells = [] from hcells] at e; cases e
  refine wpAny_mono (hb Φ ok g _ _ _ R hrun) (fun f s' p => ?_) fun _ _ e => e.elim
  obtain ⟨g', fl, σ', le, R', rf, rfl⟩ := p
  simp only [FlR] at rf
  obtain ⟨x, rfl, rx⟩ := rf
  simp only [VR] at rx
  subst rx
  obtain ⟨m, hm, _⟩ := R'.ns
  exact hQ s' m ⟨by rw [← hloc]; exact hm, R'.keep, Nat.le_refl _⟩ R'.gens R'.os
end Mine

open PySem PySem.W PyProof.Rows PySem.Calls
set_option Elab.async false
set_option maxRecDepth 100000
set_option linter.unusedVariables false
set_option linter.unusedSimpArgs false

namespace Mine

/-! ## xs[i] = v -/
noncomputable def idxN (k : Int) (n : Nat) : Option Nat := if 0 ≤ k then (if k < n then some k.toNat else none) else if -(n : Int) ≤ k then some (k + n).toNat else none
theorem idxN_lt {k : Int} {n m : Nat} (h : idxN k n = some m) : m < n := by
  unfold idxN at h
  split at h
  · split at h
    · cases h; omega
    · cases h
  · split at h
    · cases h; omega
    · cases h

set_option tactic.hygienic true in
theorem setItem_idx {prog : Program} {w : World} {A : Around} {E : Value → Shared → Prop} {s : Shared} {l : Addr} {xs : List Value} {n m : Nat} {k : Int} {t : Tok} {v : Value} {Q : Unit → Shared → Prop} (hl : s.heap.get? l = some (listO xs n))
    (hfit : -(2 ^ 62) ≤ k ∧ k < 2 ^ 62) (hm : idxN k xs.length = some m)
    (h : ∀ h' n', h'.get? l = some (listO (xs.set m v) n') → (∀ b o, b ≠ l → s.heap.get? b = some o → h'.get? b = some o) → Q () { s with heap := h' }) :
    wpAny (model prog w) A (setItem (.ref l) (.int k t) v) Q E s := by
  have hL := isList_of hl
  have hml := idxN_lt hm
  have hfit' : Builtin.List.listFitsIndex k = true := by
    unfold Builtin.List.listFitsIndex
    simp only [Bool.and_eq_true, decide_eq_true_eq]
    omega
  unfold setItem
  refine wpAny_holding ?_
  refine wpAny_bind (wpAny_sequenceKey hL.typeIs (by decide) ?_)
  refine wpAny_bind (wpAny_callSpecial?_slot (name := Str.ofString "__setitem__") hL.typeIs slot_list_setitem
    (wpAny_call_entry slot_list_setitem hL.typeIs entry_list_setitem ?_ (args_list_setitem _ _ _)))
  show wpAny _ _ (Builtin.List.listSubscript? (.int k t) >>= _) _ _ s
  refine wpAny_bind (wpAny_listSubscript_int hfit' ?_)
  obtain ⟨n', e⟩ := mapSeq_listO (fun zs => zs.setIfInBounds m v) xs (xs.set m v) n (by simp)
  have hupd : (s.heap.update l (Obj.mapSeq fun zs => zs.setIfInBounds m v)).get? l = some (listO (xs.set m v) n') := by
    rw [Heap.get?_update_self (h := s.heap) _ hl (by rw [e]; rfl), e]
  have fin : wpAny (model prog w) A.in1 (setSeqItemAt l m v >>= fun _ => PySem.ret .none) (fun fin s' => ∃ v, fin = Fin.done (Flow.ret v) ∧ wpAny (model prog w) A (pure ()) Q E s') E s :=
    wpAny_bind (wpAny_setSeqItemAt hl rfl (wpAny_pure ⟨.none, rfl, wpAny_pure (h _ n' hupd fun b o hb e => (Heap.get?_update_other _ _ (Ne.symm hb)).trans e)⟩))
  have hx : (xs.toArray)[m]? = some xs[m] := by simp [hml]
  unfold idxN at hm
  split at hm
  · rename_i h0
    split at hm
    · rename_i h1
      cases hm
      obtain ⟨j, rfl⟩ := Int.eq_ofNat_of_zero_le h0
      show wpAny _ _ ((seqItemAt l j >>= fun r => pure (r.map (j, ·))) >>= _) _ _ s
      refine wpAny_bind (wpAny_bind (wpAny_seqItemAt hl rfl (wpAny_pure ?_)))
      have hx' : (xs.toArray)[j]? = some xs[(j : Int).toNat] := hx
      rw [hx']
      exact fin
    · cases hm
  · rename_i h0
    split at hm
    · rename_i h1
      cases hm
      obtain ⟨j, rfl⟩ := Int.eq_negSucc_of_lt_zero (show k < 0 by omega)
      have hsi : seqIndex? (Int.negSucc j) xs.toArray.size = some (Int.negSucc j + xs.length).toNat := by
        rw [MeetsSeq.seqIndex_neg (by omega) (by simp; omega)]; simp
      show wpAny _ _ ((Builtin.List.listItems (.ref l) >>= fun ys => pure ((seqIndex? (Int.negSucc j) ys.size).bind fun i => ys[i]?.map (i, ·))) >>= _) _ _ s
      unfold Builtin.List.listItems
      refine wpAny_bind (wpAny_bind (wpAny_bind (wpAny_seqItems hl rfl (wpAny_pure (wpAny_pure ?_)))))
      rw [hsi]
      simp only [Option.bind_some, hx, Option.map_some]
      exact fin
    · cases hm
noncomputable def setIdxA (v i u : V) : W Unit := fun Q σ => match v, i with
  | .ref j, .int k => (-(2 ^ 62) ≤ k ∧ k < 2 ^ 62) ∧ (match lstAt σ.objs j with
    | some l => (match idxN k l.length with
      | some m => Q () { σ with objs := σ.objs.set j (.list (l.set m u)) }
      | none => False)
    | none => False)
  | _, _ => False
section
variable {κ : Kap}
set_option tactic.hygienic true in
theorem setIdx_sound {Φ : Ctx} {g : G} {σ : St} {s : Shared} (R : Rel κ Φ g σ s) {v i u : V} {x y z : Value} (rv : VR g v x) (ri : VR g i y) (ru : VR g u z) {Q : Unit → St → Prop} (h : setIdxA v i u Q σ) :
    wpAny (model κ.P.prog Φ.w) Φ.A (setItem x y z) (PU κ Φ g Q) NoE s := by
  unfold setIdxA at h
  split at h
  · rename_i j k
    obtain ⟨hk, h⟩ := h
    split at h
    · rename_i l hl
      split at h
      · rename_i m hm
        simp only [VR] at ri
        obtain ⟨t, rfl⟩ := ri
        obtain ⟨a, xs, n, rfl, hi, h1, h2⟩ := R.ref_at rv hl
        refine setItem_idx h1 hk (by rw [h2.length]; exact hm) fun h' n' h3 hk' => ?_
        refine ⟨g, _, .refl g, R.turn (o := .list (l.set m u)) (tk := s.toks) hi h3 ⟨xs.set m z, n', rfl, ?_⟩ hk', h⟩
        refine VRs.of_get (by simp [h2.length]) fun i v x e1 e2 => ?_
        rw [List.getElem?_set] at e1 e2
        split at e1
        · rename_i hmi
          rw [if_pos hmi] at e2
          split at e1
          · cases e1
            split at e2
            · cases e2; exact ru
            · cases e2
          · cases e1
        · rename_i hmi
          rw [if_neg hmi] at e2
          obtain ⟨x', hx', rx⟩ := h2.get e1
          rw [e2] at hx'; cases hx'; exact rx
      · exact h.elim
    · exact h.elim
  · exact h.elim
theorem a_SubSet {value slice : Expr} {p : Pos} {f h : W V} (hv : SE κ value f) (hi : SE κ slice h) : SA κ (.Subscript value slice p) (fun u => bnd f fun v => bnd h fun i => setIdxA v i u) := fun Φ ok g σ s Q u yu R ru q => by
  rw [arm_assign_Subscript]
  refine wpAny_bind (wpAny_holding (wpAny_mono (hv Φ ok g σ s _ R q) (fun x s₁ p => ?_) fun _ _ e => e))
  obtain ⟨g₁, a, σ₁, le₁, R₁, ra, q₁⟩ := p
  refine wpAny_bind (wpAny_holding (wpAny_mono (hi Φ ok g₁ σ₁ s₁ _ R₁ q₁) (fun y s₂ p => ?_) fun _ _ e => e))
  obtain ⟨g₂, b, σ₂, le₂, R₂, rb, q₂⟩ := p
  refine wpAny_bind (wpAny_standAt (wpAny_bind (wpAny_holding (wpAny_mono (setIdx_sound R₂ (VR.mono le₂ a ra) rb (VR.mono (le₁.trans le₂) u ru) q₂) (fun _ s₃ p => ?_) fun _ _ e => e))))
  obtain ⟨g₃, σ₃, le₃, R₃, q₃⟩ := p
  exact wpAny_release ⟨g₃, σ₃, (le₁.trans le₂).trans le₃, R₃, q₃⟩

/-! ## l op m op r as a test -/
end

/-! ## The law's own frame, with cells -/
end Mine

open PySem PySem.W PyProof.Rows PySem.Calls
set_option Elab.async false
set_option maxRecDepth 100000
set_option linter.unusedVariables false
set_option linter.unusedSimpArgs false

namespace Mine

/-! ## Unpacking a list -/
section
variable {κ : Kap}
end
end Mine

open PySem PySem.W PyProof.Rows PySem.Calls
set_option Elab.async false
set_option maxRecDepth 100000
set_option linter.unusedVariables false
set_option linter.unusedSimpArgs false

namespace Mine
section
variable {κ : Kap}
/-! ## chr, ord, find -/
noncomputable def chrA (vs kvs : List V) : W V := fun Q σ => match vs with
  | [.int i] => 0 ≤ i ∧ i ≤ 1114111 ∧ Q (.str ⟨#[i.toNat]⟩) σ
  | _ => False
theorem cal_chr : CalOK κ (.builtin "chr") [] chrA := fun Φ ok g σ s vs xs kvs kxs Q R rv rk q => by
  unfold chrA at q
  split at q
  · simp only [VRs, VR] at rv
    obtain ⟨_, _, rfl, ⟨t, rfl⟩, rfl⟩ := rv
    exact chr_of_range q.1 q.2.1 (.here (R.tok _) (v := .str _) (by simp only [VR]; exact ⟨_, rfl⟩) q.2.2)
  · exact q.elim
noncomputable def ordA (vs kvs : List V) : W V := fun Q σ => match vs with
  | [.str x] => x.length = 1 ∧ Q (.int (x.cps.getD 0 0 : Nat)) σ
  | _ => False
theorem cal_ord : CalOK κ (.builtin "ord") [] ordA := fun Φ ok g σ s vs xs kvs kxs Q R rv rk q => by
  unfold ordA at q
  split at q
  · simp only [VRs, VR] at rv
    obtain ⟨_, _, rfl, ⟨t, rfl⟩, rfl⟩ := rv
    exact ord_of_one q.1 (.here (R.tok _) (v := .int _) (by simp only [VR]; exact ⟨_, rfl⟩) q.2)
  · exact q.elim
end

/-! ## Texts as lists of codes -/
noncomputable abbrev S (l : List Nat) : Str := ⟨l.toArray⟩
theorem str_S (x : Str) : x = S x.cps.toList := by cases x; simp
theorem S_cps (l : List Nat) : (S l).cps.toList = l := by simp
theorem S_len (l : List Nat) : (S l).length = l.length := by simp [Str.length]
theorem S_app (a b : List Nat) : S a ++ S b = S (a ++ b) := by
  have : (S a ++ S b).cps = (S (a ++ b)).cps := by rw [Str.cps_append]; simp
  exact congrArg Str.mk this
theorem S_inj {a b : List Nat} : S a = S b ↔ a = b := ⟨fun h => by
  have := congrArg (fun x : Str => x.cps.toList) h
  simpa using this, fun h => by rw [h]⟩
theorem S_beq (a b : List Nat) : (S a == S b) = decide (a = b) := by
  by_cases h : a = b
  · simp [h]
  · have : ¬ S a = S b := fun e => h (S_inj.mp e)
    simp [h, this]
theorem slice_to (l : List Nat) (k : Nat) : Txt.slice (S l) none (some (k : Int)) = S (l.take k) := by
  by_cases h : k ≤ l.length
  · have := beq_iff_eq.mp (slice_closes_toL (x := S l) (j := (k : Int)) (by omega) (by rw [S_len]; omega))
    rw [this]; simp
  · have e : Txt.slice (S l) none (some (k : Int)) = Txt.slice (S l) none (some ((S l).length : Int)) := by
      have h0 : ¬ ((k : Int) < 0) := by omega
      have h1 : ¬ (((S l).length : Int) < 0) := by omega
      have h2 : (1 : Int) > 0 := by decide
      unfold Txt.slice
      simp only [Builtin.Str.strSliceIndices, h0, h1, h2, if_false, if_true, Int.min_eq_right (show ((S l).length : Int) ≤ k by rw [S_len]; omega), Int.min_self]
    have := beq_iff_eq.mp (slice_closes_toL (x := S l) (j := ((S l).length : Int)) (by omega) (by omega))
    rw [e, this, S_len, List.take_of_length_le (show l.length ≤ k by omega)]; simp
end Mine

namespace Mine
theorem join_eq (sep : Str) (ys : List Str) : Txt.join sep ys = Str.join sep ys := beq_iff_eq.mp (join_plain_closes sep ys)
theorem join_S : ∀ ls : List (List Nat), Txt.join (S []) (ls.map S) = S ls.flatten
  | [] => by rw [join_eq]; rfl
  | l :: ls => by
    have ih := join_S ls
    rw [join_eq] at ih ⊢
    rw [List.map_cons, StrGather_join, ih, S_app, List.flatten_cons]
where StrGather_join {a : Str} {r : List Str} : Str.join (S []) (a :: r) = a ++ Str.join (S []) r := join_nil_cons a r
theorem okN_S {l : List Nat} (h1 : l.length ≤ 100000) (h : ∀ c ∈ l, 32 ≤ c ∧ c ≠ 127) : okN (S l) := ⟨by rw [S_len]; exact h1, by rw [S_cps]; exact h⟩
theorem okV_S {l : List Nat} (h1 : l.length ≤ 100000) (h : ∀ c ∈ l, (32 ≤ c ∧ c ≠ 127) ∨ c = 9) : okV (S l) := ⟨by rw [S_len]; exact h1, by rw [S_cps]; exact h⟩
theorem lower_S {l : List Nat} (h : ∀ c ∈ l, c < 128) : Txt.lower (S l) = S (l.map lo1) := by
  rw [lower_ascii (by rw [S_cps]; exact h)]; simp
theorem lo1_rng {c : Nat} (h : 32 ≤ c ∧ c < 127) : 32 ≤ lo1 c ∧ lo1 c < 127 := by unfold lo1; split <;> omega
theorem okK_S {l : List Nat} (h1 : l.length ≤ 100000) (h : ∀ c ∈ l, 32 ≤ c ∧ c < 127) : okK (S l) := by
  refine ⟨okN_S h1 fun c hc => ⟨(h c hc).1, by have := (h c hc).2; omega⟩, ?_⟩
  rw [lower_S fun c hc => by have := (h c hc).2; omega]
  refine okN_S (by simpa using h1) fun c hc => ?_
  obtain ⟨d, hd, rfl⟩ := List.mem_map.mp hc
  have := lo1_rng (h d hd)
  exact ⟨this.1, by omega⟩
end Mine

open PySem PySem.W PyProof.Rows PySem.Calls
set_option Elab.async false
set_option maxRecDepth 100000
set_option linter.unusedVariables false
set_option linter.unusedSimpArgs false

namespace Mine
/-! ## Steps at the head of a precondition -/
section
variable {α β : Type} {loc loc' : List (Option V)} {objs : List O} {σ : St}
theorem bnd_i {m : W α} {k : α → W β} {Q : β → St → Prop} (h : m (fun a σ' => k a Q σ') σ) : bnd m k Q σ := h
theorem ret_i {v : α} {Q : α → St → Prop} (h : Q v σ) : ret v Q σ := h
theorem getv_i {k : Nat} {v : V} {Q : V → St → Prop} (e : lget loc k = some v) (h : Q v ⟨loc, objs⟩) : getv k Q ⟨loc, objs⟩ := by
  unfold getv; simp only [e]; exact h
theorem setv_i {k : Nat} {v : V} {Q : Unit → St → Prop} (hk : decide (k < loc.length) = true) (e : lset loc k v = loc') (h : Q () ⟨loc', objs⟩) : setv k v Q ⟨loc, objs⟩ := by
  unfold setv; exact ⟨of_decide_eq_true hk, by rw [e]; exact h⟩
theorem gdW_i {p : St → Prop} {f : W α} {Q : α → St → Prop} (hp : p σ) (h : f Q σ) : gdW p f Q σ := ⟨hp, h⟩
theorem seqF_i {f h : W Fl} {Q : Fl → St → Prop} (q : f (fun fl σ => match fl with | .next => h Q σ | fl => Q fl σ) σ) : seqF f h Q σ := q
theorem boolV_i {f : W Bool} {Q : V → St → Prop} (h : f (fun b => Q (.bool b)) σ) : boolV f Q σ := h
theorem if_t {c : Bool} {f g : W α} {Q : α → St → Prop} (hc : c = true) (h : f Q σ) : (if c = true then f else g) Q σ := by rw [if_pos hc]; exact h
theorem if_f {c : Bool} {f g : W α} {Q : α → St → Prop} (hc : c = false) (h : g Q σ) : (if c = true then f else g) Q σ := by rw [if_neg (by simp [hc])]; exact h
theorem ifp_t {c : Bool} {p q : Prop} (hc : c = true) (h : p) : if c = true then p else q := by rw [if_pos hc]; exact h
theorem ifp_f {c : Bool} {p q : Prop} (hc : c = false) (h : q) : if c = true then p else q := by rw [if_neg (by simp [hc])]; exact h
/-! comparisons -/
section
variable {i j : Int} {x y : Str} {Q : Bool → St → Prop}
theorem dec_i {p : Prop} [Decidable p] {b : Bool} {R : Bool → Prop} (hb : b = decide p) (h1 : p → R true) (h2 : ¬ p → R false) : R b := by
  subst hb
  by_cases h : p
  · simp only [h, decide_true]; exact h1 h
  · simp only [h, decide_false]; exact h2 h
theorem eq_i (h1 : i = j → Q true σ) (h2 : i ≠ j → Q false σ) : cmpA .Eq (.int i) (.int j) Q σ :=
  show Q (i == j) σ from dec_i (R := fun b => Q b σ) (by by_cases h : i = j <;> simp [h]) h1 h2
theorem eq_s (h1 : x = y → Q true σ) (h2 : x ≠ y → Q false σ) : cmpA .Eq (.str x) (.str y) Q σ :=
  show Q (x == y) σ from dec_i (R := fun b => Q b σ) (by by_cases h : x = y <;> simp [h]) h1 h2
theorem ne_s (h1 : x = y → Q false σ) (h2 : x ≠ y → Q true σ) : cmpA .NotEq (.str x) (.str y) Q σ :=
  show Q (!(x == y)) σ from dec_i (p := x ≠ y) (R := fun b => Q b σ) (by by_cases h : x = y <;> simp [h]) h2 (fun h => h1 (Classical.not_not.mp h))
theorem lt_i (h1 : i < j → Q true σ) (h2 : ¬ i < j → Q false σ) : cmpA .Lt (.int i) (.int j) Q σ :=
  show Q (decide (i < j)) σ from dec_i (R := fun b => Q b σ) rfl h1 h2
theorem gt_i (h1 : j < i → Q true σ) (h2 : ¬ j < i → Q false σ) : cmpA .Gt (.int i) (.int j) Q σ :=
  show Q (decide (j < i)) σ from dec_i (R := fun b => Q b σ) rfl h1 h2
theorem is_n {a : V} (h : Q (isN a) σ) : cmpA .Is a .none Q σ := h
theorem isnt_n {a : V} (h : Q (!isN a) σ) : cmpA .IsNot a .none Q σ := h
theorem ne_v {a b : V} (h : eqA a b (fun r => Q (!r)) σ) : cmpA .NotEq a b Q σ := h
theorem tr_b {b : Bool} (h : Q b σ) : truthA (.bool b) Q σ := h
end

/-! operators -/
section
variable {i j : Int} {x y : Str} {Q : V → St → Prop}
theorem add_i (h : Q (.int (i + j)) σ) : binA .Add (.int i) (.int j) Q σ := h
theorem sub_i (h : Q (.int (i - j)) σ) : binA .Sub (.int i) (.int j) Q σ := h
theorem add_s (hl : x.length + y.length ≤ sizeLine) (h : Q (.str (x ++ y)) σ) : binA .Add (.str x) (.str y) Q σ := ⟨hl, h⟩
theorem add_l {a b : V} {l m : List V} (ha : seqOf σ.objs a = some l) (hb : seqOf σ.objs b = some m) (hl : l.length + m.length ≤ sizeLine) (h : Q (.lst (l ++ m)) σ) : binA .Add a b Q σ := by
  have e : binA .Add a b Q σ = (l.length + m.length ≤ sizeLine ∧ Q (.lst (l ++ m)) σ) := by
    cases a <;> first | (cases ha; done) | (unfold binA; simp only [ha, hb])
  rw [e]; exact ⟨hl, h⟩
theorem lst_i' {l : List V} (h : Q (.lst l) σ) : lstW' l Q σ := h
theorem instW_i {C i n : Nat} {spec : Spec} {args : List V} {l : List (Str × V)} (hi : objs[i]? = some (.attrs l)) (hn : (V.inst C i :: args).length = n) (h : spec (.inst C i :: args) [] objs fun u objs' => Q u ⟨loc, objs'⟩) : instW C n spec (.inst C i) args Q ⟨loc, objs⟩ :=
  ⟨rfl, ⟨l, hi⟩, hn, h⟩
theorem newW_i {C n m : Nat} {spec : Spec} {vs kvs : List V} (h1 : vs.length + 1 = n) (h2 : kvs.length = m) (h : spec (.inst C objs.length :: vs) kvs (objs ++ [.attrs []]) fun v objs' => v = .none ∧ Q (.inst C objs.length) ⟨loc, objs'⟩) :
    newW C n m spec vs kvs Q ⟨loc, objs⟩ := ⟨h1, h2, h⟩
theorem strF_i {f : Str → Str} {kvs : List V} (hl : x.length ≤ 5592405) (h : Q (.str (f x)) σ) : strFn f [.str x] kvs Q σ := ⟨hl, h⟩
theorem len_s {kvs : List V} (hl : x.length ≤ sizeLine) (h : Q (.int x.length) σ) : lenA [.str x] kvs Q σ := ⟨hl, h⟩
theorem sub_t {l : List V} {u : V} {k : Int} (hk : -(2 ^ 62) ≤ k ∧ k < 2 ^ 62) (hu : idxL l k = some u) (h : Q u σ) : subA (.tup l) (.int k) Q σ := by
  unfold subA; simp only [hu]; exact ⟨hk.1, hk.2, h⟩
theorem sub_l {a : V} {l : List V} {u : V} {k : Int} (ha : seqOf σ.objs a = some l) (hk : -(2 ^ 62) ≤ k ∧ k < 2 ^ 62) (hu : idxL l k = some u) (h : Q u σ) : subA a (.int k) Q σ := by
  have e : subA a (.int k) Q σ = (-(2 ^ 62) ≤ k ∧ k < 2 ^ 62 ∧ Q u σ) := by
    cases a <;> first | (cases ha; done) | (unfold subA; simp only [ha, hu])
  rw [e]; exact ⟨hk.1, hk.2, h⟩
theorem slc_s {t : Bool} {lo hi : Option Int} (hl : x.length ≤ sizeLine) (h : Q (.str (Txt.slice x lo hi)) σ) : sliceA t lo hi (.str x) Q σ := ⟨hl, h⟩
theorem slc_l {a : V} {l l' : List V} {lo hi : Option Int} (ha : seqOf σ.objs a = some l) (hl : l.length ≤ sizeLine) (hc : cutL l lo hi = some l') (h : Q (.lst l') σ) : sliceA false lo hi a Q σ := by
  have e : sliceA false lo hi a Q σ = (l.length ≤ sizeLine ∧ Q (.lst l') σ) := by
    cases a <;> first | (cases ha; done) | (unfold sliceA; simp only [ha, hc]; simp)
  rw [e]; exact ⟨hl, h⟩
theorem app_i {i : Nat} {v : V} {l kvs : List V} (hl : lstAt objs i = some l) (hz : l.length ≤ sizeLine) (h : Q .none ⟨loc, objs.set i (.list (l ++ [v]))⟩) : appendA [.ref i, v] kvs Q ⟨loc, objs⟩ := by
  unfold appendA; simp only [hl]; exact ⟨hz, h⟩
theorem chr_i {kvs : List V} (h0 : 0 ≤ i) (h1 : i ≤ 1114111) (h : Q (.str ⟨#[i.toNat]⟩) σ) : chrA [.int i] kvs Q σ := ⟨h0, h1, h⟩
theorem ord_i {kvs : List V} (h0 : x.length = 1) (h : Q (.int (x.cps.getD 0 0 : Nat)) σ) : ordA [.str x] kvs Q σ := ⟨h0, h⟩
theorem join_i {v : V} {kvs l : List V} {ys : List Str} (hv : seqOf σ.objs v = some l) (hs : strsOf l = some ys) (hl : (ys.map (·.length)).sum + ys.length * x.length ≤ 16777216) (h : Q (.str (Txt.join x ys)) σ) : joinA [.str x, v] kvs Q σ := by
  unfold joinA; simp only [hv, Option.bind_some, hs]; exact ⟨hl, h⟩
end
section
variable {Q : List V × (List O → Prop) → St → Prop} {i j : Int}
theorem rng1_i (h1 : -(2 ^ 62) ≤ i) (h2 : i < 2 ^ 62) (h : Q (rangeV 0 i, fun _ => True) σ) : rangeW [.int i] Q σ := ⟨h1, h2, h⟩
theorem itm_s {x : Str} (h : Q (signsV x, fun _ => True) σ) : itemsW (.str x) Q σ := h
theorem itm_l {a : V} {l : List V} (ha : seqOf σ.objs a = some l) (h : Q (l, fun os => seqOf os a = some l) σ) : itemsW a Q σ := by
  have e : itemsW a Q σ = Q (l, fun os => seqOf os a = some l) σ := by
    cases a <;> first | (cases ha; done) | (unfold itemsW; simp only [ha])
  rw [e]; exact h
end
theorem int_i {i : Int} {Q : Option Int → St → Prop} (h : Q (some i) σ) : intW (.int i) Q σ := h
theorem comp_i {fi : W (List V × (List O → Prop))} {caps : List (Option Nat)} {tgt : V → W Unit} {ts : W Bool} {el : W V} {Q : List V → St → Prop}
    (h : fi (fun p σ₁ => p.1.length ≤ sizeLine ∧ compL p.2 tgt ts el p.1 [] (fun out σ₂ => Q out ⟨σ₁.loc, σ₂.objs⟩) ⟨caps.map fun o => o.bind (lget σ₁.loc), σ₁.objs⟩) σ) : compW fi caps tgt ts el Q σ := h
theorem tgts_i {f : V → W Unit} {h : List V → W Unit} {v : V} {vs : List V} {Q : Unit → St → Prop} (q : f v (fun _ σ' => h vs Q σ') σ) : tgts f h (v :: vs) Q σ := q
theorem tgtN_i {Q : Unit → St → Prop} (q : Q () σ) : tgtN [] Q σ := q
end

/-- a loop over a list of things -/
theorem forL_over {α : Type} (emb : α → V) {chk : St → Prop} {tgt : V → W Unit} {body : W Fl} {Q : Fl → St → Prop} (I : List α → List α → St → Prop) (hchk : ∀ d l σ, I d l σ → chk σ)
    (hstep : ∀ d a l σ (K : Fl → St → Prop), I d (a :: l) σ → (∀ σ₂, I (d ++ [a]) l σ₂ → K .next σ₂) → (∀ σ₂, I (d ++ [a]) l σ₂ → K .cont σ₂) → (∀ σ₂, Q .next σ₂ → K .brk σ₂) → (∀ u σ₂, Q (.ret u) σ₂ → K (.ret u) σ₂) → tgt (emb a) (fun _ σ₁ => body K σ₁) σ)
    (hend : ∀ d σ, I d [] σ → Q .next σ) : ∀ (l d : List α) (σ : St), I d l σ → forL chk tgt body (l.map emb) Q σ
  | [], d, σ, h => ⟨hchk _ _ σ h, hend d σ h⟩
  | a :: l, d, σ, h => ⟨hchk _ _ σ h, hstep d a l σ _ h (fun σ₂ h₂ => forL_over emb I hchk hstep hend l _ σ₂ h₂) (fun σ₂ h₂ => forL_over emb I hchk hstep hend l _ σ₂ h₂) (fun _ h₂ => h₂) (fun _ _ h₂ => h₂)⟩
/-- a loop over a range from 0 -/
theorem rangeV_nat (n : Nat) : rangeV 0 (n : Int) = (List.range n).map fun i : Nat => V.int (i : Int) := by simp [rangeV]
theorem forL_range {chk : St → Prop} {tgt : V → W Unit} {body : W Fl} {Q : Fl → St → Prop} (I : Nat → St → Prop) (n : Nat) (hchk : ∀ k σ, I k σ → chk σ)
    (hstep : ∀ k σ (K : Fl → St → Prop), k < n → I k σ → (∀ σ₂, I (k + 1) σ₂ → K .next σ₂) → (∀ σ₂, I (k + 1) σ₂ → K .cont σ₂) → (∀ σ₂, Q .next σ₂ → K .brk σ₂) → (∀ u σ₂, Q (.ret u) σ₂ → K (.ret u) σ₂) → tgt (.int (k : Int)) (fun _ σ₁ => body K σ₁) σ)
    (hend : ∀ σ, I n σ → Q .next σ) {σ : St} (h : I 0 σ) : forL chk tgt body (rangeV 0 (n : Int)) Q σ := by
  rw [rangeV_nat]
  refine forL_over (fun i : Nat => V.int (i : Int)) (fun d l σ => d ++ l = List.range n ∧ I d.length σ) (fun d l σ h => hchk _ _ h.2) (fun d a l σ K h hn hc hb hr => ?_) (fun d σ h => ?_) _ [] σ ⟨rfl, h⟩
  · obtain ⟨hd, hI⟩ := h
    have hlen : d.length < n := by
      have := congrArg List.length hd
      simp at this; omega
    have ha : a = d.length := by
      have h1 : (d ++ a :: l)[d.length]? = some a := by simp
      rw [hd, List.getElem?_range hlen] at h1
      exact (Option.some.inj h1).symm
    subst ha
    exact hstep _ _ _ hlen hI (fun σ₂ h₂ => hn σ₂ ⟨by simpa using hd, by simpa using h₂⟩) (fun σ₂ h₂ => hc σ₂ ⟨by simpa using hd, by simpa using h₂⟩) hb hr
  · obtain ⟨hd, hI⟩ := h
    have : d.length = n := by
      have := congrArg List.length hd
      simpa using this
    rw [this] at hI; exact hend σ hI
end Mine

open PySem PySem.W PyProof.Rows PySem.Calls
set_option Elab.async false
set_option maxRecDepth 100000
set_option linter.unusedVariables false
set_option linter.unusedSimpArgs false

namespace Mine
/-! ## find -/
end Mine

open PySem PySem.W PyProof.Rows PySem.Calls
set_option Elab.async false
set_option maxRecDepth 100000
set_option linter.unusedVariables false
set_option linter.unusedSimpArgs false

namespace Mine
/-! ## int(text) -/
section
variable {κ : Kap}
end
/-! ## len of a set of texts -/
section
variable {prog : Program} {w : World} {A : Around} {E : Value → Shared → Prop} {R : Result → Shared → Prop} {s : Shared}
end
section
variable {κ : Kap} {elt target iter : Expr} {ifs : List Expr} {scope : Scope} {pos : Pos} {caps : List (Option Nat)} {fi : W (List V × (List O → Prop))} {tgt : V → W Unit} {ts : W Bool} {el : W V}
end
end Mine

open PySem PySem.W PyProof.Rows PySem.Calls
set_option Elab.async false
set_option maxRecDepth 100000
set_option linter.unusedVariables false
set_option linter.unusedSimpArgs false

namespace Mine
/-! ## min of two, list.index, rows of ints -/
section
variable {κ : Kap}
end
end Mine

open PySem PySem.W PyProof.Rows PySem.Calls
set_option Elab.async false
set_option maxRecDepth 100000
set_option linter.unusedVariables false
set_option linter.unusedSimpArgs false

namespace Mine
/-- a def with a table of further keywords, called without any -/
theorem fn_okK0 {P : Prg} {D : Nat} {f : Addr} {fd : FuncData} {body : List Stmt} {vars ps : List Str} {n : Nat} {full : List V → List V} {fb : W Fl} {spec : Spec} (I : FnIs P f fd body vars ps)
    (hb : SB ⟨P, fd.scope.names, vars, D, true⟩ body fb)
    (hp : ∀ (q : Params) (xs : List Value), xs.length = n → ∃ fx, peekA (P.K q) ⟨P.prog, q⟩ (bindArgs fd ⟨xs, []⟩) = some (dictOf [] 0, fun D => pure (ps.zip (fx ++ [.ref D]))) ∧ ∀ g vs, VRs g vs xs → VRs g (full vs) fx)
    (hspec : ∀ vs objs Q, vs.length = n → spec vs [] objs Q → fb (retQ Q) ⟨initLoc vars ps (full vs ++ [.dct objs.length]), objs ++ [.attrs []]⟩) :
    FnOK P D f n [] spec := by
  intro κ Φ A hP hD ok hA hdep hun hfr g σ s vs xs kvs kxs Q R rv rk hn hk hs
  subst hP
  have X : (κ.P.K Φ.w.params).In s.heap := fun a o e => R.keep a o (ok.KIn a o e)
  have hkv : kvs = [] := List.eq_nil_of_length_eq_zero hk
  subst hkv
  obtain ⟨fx, hpk, hfx⟩ := hp Φ.w.params xs (rv.length.trans hn)
  obtain ⟨m, news, F, N, back, kn⟩ := R.ledgerK ok.above
  refine fn_enter I rfl hD ok hA hdep hun hfr R ?_
  refine wp_of_peekA (M := model κ.P.prog Φ.w) F N X rfl _ _ hpk fun h' F' N' l => wpAny_pure ?_
  have R1 : Rel κ Φ g σ { s with heap := h' } := back h' s.toks F' (fun p hp => N' p (.tail _ hp))
  obtain ⟨R2, le⟩ := R1.track (o := .attrs []) (N' _ (.head _)).1 R.fresh ⟨[], 0, rfl, rfl, rfl, fun i k v e a => by simp at a⟩
  refine ⟨_, _, fx ++ [.ref s.heap.objs.size], full vs ++ [.dct σ.objs.length], le, R2, rfl, ?_, fun Φ' s₃ ok' hw hA' _ _ R' back' _ => ?_⟩
  · exact (hfx _ _ (VRs.mono le _ rv)).append (.one (by simp only [VR]; exact ⟨_, rfl, by rw [← R.tr.1]; simp, modules_low (ok.nolim.keeps R.keep)⟩))
  · have := hb Φ' ok' _ _ _ (retQ Q) R' (hspec vs σ.objs Q hn hs)
    rw [hw] at this
    exact wpAny_mono this (fun fl s' p => by have := post_of le back' p; cases fl <;> exact this) fun _ _ e => e.elim
/-! ## for k, v in d.items() -/
section
variable {κ : Kap} {Φ : Ctx} {g : G} {σ : St} {s : Shared}
theorem AR.pairs {P : Params} : ∀ {l : List (Str × V)} {es : List DictEntry}, AR P g l es → ∀ (prog : Program) (w : World), w.params = P → ∃ kvs : List (Str × Value), Pairs (strKind prog w) es kvs ∧ kvs.map (·.1) = l.map (·.1) ∧ (∀ e ∈ es, ∃ k, (strKind prog w).is k e.key = true ∧ e.hash = (strKind prog w).hash k) ∧
    ∀ (j : Nat) k v, l[j]? = some (k, v) → ∃ x, kvs[j]? = some (k, x) ∧ VR g v x
  | [], es, h, prog, w, hw => by
    have : es = [] := List.eq_nil_of_length_eq_zero h.1
    subst this
    exact ⟨[], .nil, rfl, fun e he => (by cases he), fun j k v e => by simp at e⟩
  | (k, v) :: l, [], h, _, _, _ => by have := h.1; simp at this
  | (k, v) :: l, e :: es, h, prog, w, hw => by
    obtain ⟨⟨t, hk⟩, hh, hv⟩ := h.2 0 k v e rfl rfl
    have hr : AR P g l es := ⟨by have := h.1; simpa using this, fun i k v e a b => h.2 (i + 1) k v e (by simpa using a) (by simpa using b)⟩
    obtain ⟨kvs, h1, h2, h3, h4⟩ := AR.pairs hr prog w hw
    refine ⟨(k, e.val) :: kvs, .cons (by rw [hk]; exact strKind_is prog w k t) rfl h1, by simp [h2], fun e' he' => ?_, fun j k' v' hj => ?_⟩
    · rcases List.mem_cons.mp he' with rfl | he'
      · exact ⟨k, by rw [hk]; exact strKind_is prog w k t, by rw [hh, ← hw]; rfl⟩
      · exact h3 e' he'
    · cases j with
      | zero => simp at hj; obtain ⟨rfl, rfl⟩ := hj; exact ⟨_, rfl, hv⟩
      | succ j => simp at hj ⊢; exact h4 j k' v' hj
theorem Rel.dict_at (R : Rel κ Φ g σ s) {i : Nat} {x : Value} (h : VR g (.dct i) x) {l : List (Str × V)} (hl : σ.objs[i]? = some (.attrs l)) (hn : (l.map (·.1)).Nodup) :
    ∃ d kvs, x = .ref d ∧ (d == sysModules) = false ∧ g.tr[i]? = some d ∧ s.heap.DictAt (strKind κ.P.prog Φ.w) d kvs l.length ∧ kvs.length = l.length ∧ ∀ (j : Nat) k v, l[j]? = some (k, v) → ∃ x, kvs[j]? = some (k, x) ∧ VR g v x := by
  simp only [VR] at h
  obtain ⟨d, rfl, hi, hlow⟩ := h
  obtain ⟨ob, h1, h2⟩ := R.tr.2 i d _ hi hl
  obtain ⟨es, n, rfl, rfl, ha⟩ := h2
  obtain ⟨kvs, p1, p2, p3, p4⟩ := ha.pairs κ.P.prog Φ.w rfl
  refine ⟨d, kvs, rfl, beq_eq_false_iff_ne.mpr (Nat.ne_of_gt hlow), hi, ⟨_, es.toArray, h1, ⟨rfl, rfl, rfl⟩, rfl, fun e he => p3 e (by simpa using he), p1, by rw [p2]; exact hn⟩, ?_, p4⟩
  have := congrArg List.length p2
  simpa using this
theorem entry_itemiter_iter : entryFor table "dict_itemiterator.__iter__" = some Builtin.«dict_keyiterator.__iter__» :=
  entryFor_alias (id' := "dict_keyiterator.__iter__") (by kernel_rfl) rfl (by decide +kernel) (by kernel_rfl)
theorem pyIter_itemiter {prog : Program} {w : World} {A : Around} {E : Value → Shared → Prop} {s : Shared} {it d : Addr} {i n ep : Nat} {ok ov : Value} {Q : Value → Shared → Prop} (hit : IsItemIter s.heap it d i n ep ok ov) (h : Q (.ref it) s) : wpAny (model prog w) A (pyIter (.ref it)) Q E s := by
  have hT : s.TypeIs (.ref it) "dict_itemiterator" := ⟨_, hit, rfl⟩
  refine wpAny_pyIter_slot hT F.slot_dict_itemiterator_iter (wpAny_call_entry F.slot_dict_itemiterator_iter hT entry_itemiter_iter ?_ (F.args_dict_itemiterator_iter_1 _))
  show wpAny _ _ (PySem.ret (.ref it)) _ _ s
  exact wpAny_pure ⟨_, rfl, "dict_itemiterator", _, hT, F.slot_dict_itemiterator_next.lookup, h⟩
noncomputable def pairV (p : Str × V) : V := .tup [.str p.1, p.2]
theorem src_items (hh : Φ.A.handled = none) {g₀ : G} {elts : List Expr} {k : Nat} {tp : Pos} {i : Nat} {l : List (Str × V)} {d it : Addr} (rv : VR g₀ (.dct i) (.ref d)) (hn : (l.map (·.1)).Nodup) :
    Src κ Φ g₀ (.Tuple elts k tp) (.ref it) [it] (fun j h => ∃ ok ov, IsItemIter h it d j l.length l.length ok ov) (l.map pairV) (fun σ => σ.objs[i]? = some (.attrs l)) where
  here := fun j h ⟨ok, ov, h1⟩ I hI => by rw [List.mem_singleton.mp hI]; exact ⟨_, h1⟩
  next := fun j u g σ s Q hu le R hc hS hI hQ => by
    obtain ⟨d', kvs, ed, _, htr, hD, hlen, hkv⟩ := R.dict_at (VR.mono le _ rv) hc hn
    cases ed
    rw [List.getElem?_map] at hu
    obtain ⟨⟨kk, vv⟩, hj, rfl⟩ := Option.map_eq_some_iff.mp hu
    obtain ⟨x, hx, rx⟩ := hkv j kk vv hj
    obtain ⟨ok, ov, he⟩ := hS
    have nke := hI it (.head _)
    rw [← hlen] at he hD
    refine wpAny_pyNext_items_item he hD hx fun key h' hkey hOut ht hsz hk => hQ _ _ fun K hK => ?_
    refine wpAny_letOwnedTupleGo_items hOut fun h'' he'' hs'' => ?_
    have hTne : s.heap.objs.size ≠ it := Nat.ne_of_gt (Heap.lt_size (show s.heap.get? it = some _ from he))
    have R1 : Rel κ Φ g σ { s with heap := h'' } := R.ext (tk := s.toks) fun b o kb e0 => hs''.extBut b o (notKnown_ne nke kb) (hk b o (notKnown_ne nke kb) e0)
    have hT : h''.get? s.heap.objs.size = some (tupO [key, x] 0) := hs''.extBut _ _ hTne ht
    obtain ⟨R2, le2⟩ := R1.freeze hT R.fresh
    obtain ⟨t, rfl⟩ := Value.isStrOf_shape hkey
    refine hK _ h'' s.toks le2 ?_ R2 (fun I' hI' kn => ?_) ⟨_, _, by rw [hlen] at he''; exact he''⟩
    · simp only [pairV, VR]
      exact ⟨_, _, 0, rfl, .head _, by simp only [VRs, VR]; exact ⟨_, _, rfl, ⟨_, rfl⟩, _, _, rfl, VR.mono le2 _ rx, rfl⟩⟩
    · have hlt : I' < s.heap.objs.size := by rw [List.mem_singleton.mp hI']; exact Heap.lt_size (show s.heap.get? it = some _ from he)
      rcases kn with kn | ⟨p, hp, e1⟩ | kn | kn
      · exact hI I' hI' (.inl kn)
      · rcases List.mem_cons.mp hp with rfl | hp
        · exact absurd e1 (Nat.ne_of_gt hlt)
        · exact hI I' hI' (.inr (.inl ⟨p, hp, e1⟩))
      · exact hI I' hI' (.inr (.inr (.inl kn)))
      · exact hI I' hI' (.inr (.inr (.inr kn)))
  stop := fun g σ s Q le R hc hS hI hQ => by
    obtain ⟨d', kvs, ed, _, htr, hD, hlen, hkv⟩ := R.dict_at (VR.mono le _ rv) hc hn
    cases ed
    obtain ⟨ok, ov, he⟩ := hS
    rw [List.length_map] at he
    rw [← hlen] at he hD
    refine wpAny_pyNext_items_end hh he hD (by simp) fun h' he' => hQ h' s.toks (R.sameBut (hI it (.head _)) he')
  frame := fun j g σ s g' σ' s' _ _ _ _ hS hk => by
    obtain ⟨ok, ov, he⟩ := hS
    exact ⟨ok, ov, hk it (.head _) _ he⟩
  self := fun j s Q hS q => by
    obtain ⟨ok, ov, he⟩ := hS
    exact pyIter_itemiter he q
noncomputable def itemsD (v : V) : W (List V × (List O → Prop)) := fun Q σ => match v with
  | .dct i => ∃ l, σ.objs[i]? = some (.attrs l) ∧ (l.map (·.1)).Nodup ∧ Q (l.map pairV, fun os => os[i]? = some (.attrs l)) σ
  | _ => False
theorem loadv_same {x : Str} {k : Nat} {v : V} (ok : Ctx.Ok κ Φ) (R : Rel κ Φ g σ s) (hx : lcl κ x k = true) (e : lget σ.loc k = some v) :
    ∃ val, VR g v val ∧ ∀ (E : Value → Shared → Prop) (Q' : Value → Shared → Prop) (p : Pos), Q' val s → wpAny (model κ.P.prog Φ.w) Φ.A (eval (.Name x p) Φ.env) Q' E s := by
  obtain ⟨m, hm, lr⟩ := R.ns
  have := lr x k v (lcl_slot hx) e
  rcases lcl_kind hx with hk | hk
  · rw [← ok.kinds x] at hk
    simp only [hk] at this
    obtain ⟨val, h1, h2⟩ := this
    exact ⟨val, h2, fun E Q' p q => wpAny_Name (wpAny_loadName_local ok.kind hk hm h1 q) (lcl_dbg hx)⟩
  · rw [← ok.kinds x] at hk
    simp only [hk] at this
    obtain ⟨c, val, h1, h2, h3⟩ := this
    exact ⟨val, h3, fun E Q' p q => wpAny_Name (wpAny_loadName_cell ok.kind hk h1 h2 q) (lcl_dbg hx)⟩
set_option tactic.hygienic true in
theorem i_items {elts : List Expr} {k kx : Nat} {tp : Pos} {x : Str} {p apos pos : Pos} (hx : lcl κ x kx = true) (hline : (apos.endLine == pos.line) = true := by rfl) :
    SI κ (.Tuple elts k tp) (.Call (.Attribute (.Name x p) "items" apos) [] [] pos) (bnd (getv kx) itemsD) := fun Φ ok g σ s Q R q => by
  obtain ⟨v, e, q⟩ := getv_def q
  obtain ⟨val, rv, hload⟩ := loadv_same ok R hx e
  unfold itemsD at q
  split at q
  · rename_i i
    obtain ⟨l, hl, hn, q⟩ := q
    obtain ⟨d, kvs, rfl, hds, htr, hD, hlen, hkv⟩ := R.dict_at rv hl hn
    obtain ⟨o, es, ho, r⟩ := hD
    refine wpAny_Call_items (knd := strKind κ.P.prog Φ.w) (kvs := kvs) hds ⟨o, es, _, ho, r⟩ rfl hline (fun Q' q' => hload _ Q' _ q') ?_
    have hlt := Heap.lt_size ho
    have R1 : Rel κ Φ g σ { s with heap := s.heap.push { cls := .type "dict_items", data := .fields #[.ref d] } } := push_pack R _
    have hD1 : (s.heap.push { cls := .type "dict_items", data := .fields #[.ref d] }).DictAt (strKind κ.P.prog Φ.w) d kvs l.length := ⟨o, es, Heap.get?_push_of_some _ ho, r⟩
    refine wpAny_pyIter_items (s := { s with heap := s.heap.push { cls := .type "dict_items", data := .fields #[.ref d] } }) ⟨_, Heap.get?_push_size _ rfl, rfl, rfl⟩ hD1 ?_
    refine ⟨g, (l.map pairV, fun os => os[i]? = some (.attrs l)), σ, [_], _, .refl g, push_pack R1 _, fun κ' Φ' _ _ eA => src_items (eA ▸ ok.handled) rv hn, ⟨.none, .none, by rw [← hlen]; exact Heap.get?_push_size _ rfl⟩, fun I hI kn => ?_, q⟩
    rw [List.mem_singleton.mp hI] at kn
    exact R1.fresh kn
  · exact q.elim
end
end Mine

open PySem PySem.W PyProof.Rows PySem.Calls
set_option Elab.async false
set_option maxRecDepth 100000
set_option linter.unusedVariables false
set_option linter.unusedSimpArgs false

namespace Mine
/-! ## xs + ys as a list that may change -/
section
variable {κ : Kap}
end
/-! ## zip of two lists -/
section
variable {κ : Kap} {Φ : Ctx}
end
theorem itemsD_i {i : Nat} {l : List (Str × V)} {σ : St} {Q : List V × (List O → Prop) → St → Prop} (hl : σ.objs[i]? = some (.attrs l)) (hn : (l.map (·.1)).Nodup) (h : Q (l.map pairV, fun os => os[i]? = some (.attrs l)) σ) : itemsD (.dct i) Q σ := ⟨l, hl, hn, h⟩
theorem isLst_of {i : Nat} {l : List V} {loc : List (Option V)} {objs : List O} (h : lstAt objs i = some l) : isLst (.ref i) ⟨loc, objs⟩ := by
  show (lstAt objs i).isSome = true
  rw [h]; rfl
end Mine

open PySem PySem.W PyProof.Rows PySem.Calls
set_option Elab.async false
set_option maxRecDepth 100000
set_option linter.unusedVariables false
set_option linter.unusedSimpArgs false

namespace Mine
section
variable {κ : Kap}
/-! ## sum -/
/-! ## text * int, list * int -/
theorem vrs_flat {g : G} {l : List V} {xs : List Value} (h : VRs g l xs) : ∀ n, VRs g (List.replicate n l).flatten (List.replicate n xs).flatten
  | 0 => .nil
  | n + 1 => by rw [List.replicate_succ, List.replicate_succ, List.flatten_cons, List.flatten_cons]; exact h.append (vrs_flat h n)
/-! ## xs.reverse() -/
/-! ## xs[i] += v -/
/-! ## for x in reversed(xs) -/
end
section
variable {σ : St} {loc : List (Option V)} {objs : List O}
end
end Mine

open PySem PySem.W PyProof.Rows PySem.Calls
set_option Elab.async false
set_option maxRecDepth 100000
set_option linter.unusedVariables false
set_option linter.unusedSimpArgs false

namespace Mine
/-! ## What the sorting machine does with distinct keys -/
section
variable {α β : Type} {key : Nat → Nat} {n : Nat}
end
structure SP (n : Nat) (p : Array Nat) : Prop where
  size : p.size = n
  perm : p.toList.Perm (List.range n)
noncomputable abbrev at_ (p : Array Nat) (i : Nat) : Nat := p.getD i 0
theorem getD_q (p : Array Nat) (i : Nat) : p.getD i 0 = (p[i]?).getD 0 := by
  rw [Array.getD_eq_getD_getElem?]
theorem SP.lt {n : Nat} {p : Array Nat} (h : SP n p) {i : Nat} (hi : i < n) : at_ p i < n := by
  have hi' : i < p.size := by rw [h.size]; exact hi
  have : at_ p i = p[i] := by unfold at_; rw [getD_q, Array.getElem?_eq_getElem hi']; rfl
  rw [this]
  have hm : p[i] ∈ p.toList := by rw [Array.mem_toList_iff]; exact Array.getElem_mem hi'
  exact List.mem_range.mp (h.perm.mem_iff.mp hm)
theorem SP.inj {n : Nat} {p : Array Nat} (h : SP n p) {i j : Nat} (hi : i < n) (hj : j < n) (e : at_ p i = at_ p j) : i = j := by
  have hi' : i < p.size := by rw [h.size]; exact hi
  have hj' : j < p.size := by rw [h.size]; exact hj
  have e1 : ∀ {k} (hk : k < p.size), at_ p k = p.toList[k]'(by simpa using hk) := fun {k} hk => by unfold at_; rw [getD_q, Array.getElem?_eq_getElem hk]; rfl
  rw [e1 hi', e1 hj'] at e
  have nd : p.toList.Nodup := h.perm.nodup_iff.mpr List.nodup_range
  exact (List.getElem_inj nd).mp e
section
variable {key : Nat → Nat} {n : Nat}
noncomputable def Inc (key : Nat → Nat) (p : Array Nat) (m : Nat) : Prop := ∀ i j, i < j → j < m → key (at_ p i) < key (at_ p j)
noncomputable def Dec (key : Nat → Nat) (p : Array Nat) (m : Nat) : Prop := ∀ i j, i < j → j < m → key (at_ p j) < key (at_ p i)
variable (hk : ∀ i j, i < n → j < n → key i = key j → i = j)
theorem Inc.step {p : Array Nat} {m : Nat} (h : Inc key p m) (h1 : 1 ≤ m) (hl : key (at_ p (m - 1)) < key (at_ p m)) : Inc key p (m + 1) := fun i j hij hj => by
  by_cases e : j = m
  · subst e
    by_cases e' : i = j - 1
    · subst e'; exact hl
    · exact Nat.lt_trans (h i (j - 1) (by omega) (by omega)) hl
  · exact h i j hij (by omega)
theorem Dec.step {p : Array Nat} {m : Nat} (h : Dec key p m) (h1 : 1 ≤ m) (hl : key (at_ p m) < key (at_ p (m - 1))) : Dec key p (m + 1) := fun i j hij hj => by
  by_cases e : j = m
  · subst e
    by_cases e' : i = j - 1
    · subst e'; exact hl
    · exact Nat.lt_trans hl (h i (j - 1) (by omega) (by omega))
  · exact h i j hij (by omega)
include hk
end
end Mine

open PySem PySem.W PyProof.Rows PySem.Calls
set_option Elab.async false
set_option maxRecDepth 100000
set_option linter.unusedVariables false
set_option linter.unusedSimpArgs false

namespace Mine
/-! ## sorted of a list of pairs of ints -/
section
variable {prog : Program} {w : World} {A : Around} {E : Value → Shared → Prop} {s : Shared}
end
section
variable {κ : Kap}
end
end Mine

open PySem PySem.W PyProof.Rows PySem.Calls
set_option Elab.async false
set_option maxRecDepth 100000
set_option linter.unusedVariables false

namespace Mine

/-! ## Exceptions in flight -/

/-- the class of an exception, and what it was made of, if that is known -/
structure Xc where
  cls : String
  args : Option (List V)

noncomputable def ArgsAt (Φ : Ctx) (g : G) (h : Heap) (X : Xc) (a0 : Value) : Prop := match X.args with
  | none => True
  | some l => ∃ t xs, a0 = .ref t ∧ ¬ Known Φ g t ∧ h.TupAt t xs ∧ VRs g l xs
noncomputable def Fly (Φ : Ctx) (g : G) (h : Heap) (e : Addr) (X : Xc) (fl : Option Value) : Prop :=
  ∃ oe vs a0, h.get? e = some oe ∧ oe.cls = .type X.cls ∧ oe.data = .fields vs ∧ vs[0]? = some a0 ∧ ¬ Known Φ g e ∧ ArgsAt Φ g h X a0 ∧ match fl with
    | none => vs[1]? = some .none
    | some f => ∃ T oT ts, vs[1]? = some (.ref T) ∧ ¬ Known Φ g T ∧ T ≠ e ∧ h.get? T = some oT ∧ oT.data = .fields ts ∧ ts[3]? = some f
noncomputable def FlOK (Φ : Ctx) (fl : Option Value) : Prop := fl = none ∨ fl = some .none ∨ fl = some (rawInt Φ.env.locals)

section
variable {κ : Kap} {Φ : Ctx} {g : G} {σ : St} {s : Shared}

theorem hid_dict (R : Rel κ Φ g σ s) {b : Addr} {o : Obj} (hb : b ∈ Φ.hid) (ho : s.heap.get? b = some o) : ∃ es ep, o.data = .dict es ep := by
  rcases List.mem_cons.mp hb with rfl | h
  · obtain ⟨m, ⟨o', es, ep, ho', hd, _⟩, _⟩ := R.ns
    rw [ho] at ho'; cases ho'
    exact ⟨es, ep, hd⟩
  · obtain ⟨h1, h2⟩ := List.mem_filter.mp h
    obtain ⟨v, oc, hoc, hd⟩ := R.cells b h1
    rw [ho] at hoc; cases hoc
    obtain ⟨q, hq⟩ := Option.isSome_iff_exists.mp h2
    unfold OutOK at hd
    rw [hq] at hd
    exact hd.2
theorem hid_nf (R : Rel κ Φ g σ s) {b : Addr} {o : Obj} (hb : b ∈ Φ.hid) (ho : s.heap.get? b = some o) : ∀ vs, o.data ≠ .fields vs := fun vs e => by
  obtain ⟨es, ep, h⟩ := hid_dict R hb ho
  rw [e] at h; cases h

set_option tactic.hygienic true in
/-- the frames' tables up to their slots, all else exactly -/
theorem Rel.slots (R : Rel κ Φ g σ s) {h' : Heap} {tk : Nat} (hk : ∀ b o, Known Φ g b → b ∉ Φ.hid → s.heap.get? b = some o → h'.get? b = some o)
    (hs : ∀ b o, b ∈ Φ.hid → s.heap.get? b = some o → ∃ sl, h'.get? b = some { o with slots := sl }) : Rel κ Φ g σ { s with heap := h', toks := tk } := by
  obtain ⟨m, ⟨o, es, ep, ho, r⟩, lr⟩ := R.ns
  refine ⟨⟨m, ?_, fun x k v hs' hl => ?_⟩, fun a ha => ?_, fun b o e => hk b o (.inr (.inr (.inr (by rw [e]; rfl)))) (h0_hid R (by rw [e]; rfl)) (R.keep b o e), fun p hp => hk _ _ (.inr (.inl ⟨p, hp, rfl⟩)) (fz_hid R hp) (R.fz p hp),
    fun p hp => hk _ _ (.inr (.inr (.inl ⟨p, hp, rfl⟩))) (pin_hid R hp) (R.pins p hp), ⟨R.tr.1, fun i a o e1 e2 => ?_⟩, R.muts, R.nodup, R.pinsOk, R.cellsOk, R.gens, R.os, R.forb⟩
  · obtain ⟨sl, hsl⟩ := hs _ _ (.head _) ho
    exact ⟨_, es, ep, hsl, r⟩
  · have := lr x k v hs' hl
    split at this
    · exact this
    · rename_i hc
      obtain ⟨c, val, h1, ⟨oc, hoc, hd⟩, h3⟩ := this
      refine ⟨c, val, h1, ⟨oc, hk _ _ ?_ (cell_hid R (R.cellsOk x c hc h1) ⟨oc, hoc, hd⟩) hoc, hd⟩, h3⟩
      rcases R.cellsOk x c hc h1 with h | h
      · exact .inl (lc_mut (.tail _ h))
      · exact .inr (.inr (.inr h))
    · trivial
  · obtain ⟨v, oc, hoc, hd⟩ := R.cells a ha
    rcases lc_split (show a ∈ Φ.env.locals :: Φ.cw from .tail _ ha) with hh | hh
    · obtain ⟨sl, hsl⟩ := hs _ _ hh hoc
      refine ⟨v, _, hsl, ?_⟩
      rcases List.mem_cons.mp hh with e | hf
      · exact absurd (e ▸ ha) (loc_cw R)
      · obtain ⟨q, hq⟩ := Option.isSome_iff_exists.mp (List.mem_filter.mp hf).2
        unfold OutOK at hd ⊢
        rw [hq] at hd ⊢
        obtain ⟨⟨sl', rfl⟩, hdict⟩ := hd
        exact ⟨⟨sl, rfl⟩, hdict⟩
    · exact ⟨v, oc, hk _ _ (.inl (lc_mut (.tail _ ha))) (own_hid R hh) hoc, hd⟩
  · obtain ⟨ob, h1, h2⟩ := R.tr.2 i a o e1 e2
    have hm := List.mem_of_getElem? e1
    exact ⟨ob, hk _ _ (.inl (tr_mut hm)) (fun h => tr_hid R h hm) h1, h2⟩

/-- what the library's rules for a noted exception leave, read back -/
theorem noted_back (R : Rel κ Φ g σ s) {X₀ : List Addr} (hX : ∀ b ∈ X₀, ¬ Known Φ g b) {base : Heap} (hbase : base = hideAll s.heap (X₀ ++ Φ.hid)) {e : Addr} {X : Xc} {a0 f : Value} {h' : Heap} (he : ¬ Known Φ g e) (ha : ArgsAt Φ g s.heap X a0)
    (h1 : base.StaysIn h') (h2 : h'.TracedAtW base e (.type X.cls) a0 f) (h3 : s.heap.UpToSlots h') : (∀ tk, Rel κ Φ g σ { s with heap := h', toks := tk }) ∧ Fly Φ g h' e X (some f) := by
  subst hbase
  have exact_ : ∀ b o, Known Φ g b → b ∉ Φ.hid → s.heap.get? b = some o → h'.get? b = some o := fun b o k hh ho => h1 b o (hideAll_get _ ho fun hm => by
    rcases List.mem_append.mp hm with hm | hm
    · exact hX b hm k
    · exact hh hm)
  refine ⟨fun tk => R.slots exact_ fun b o hb ho => h3 b o ho (hid_nf R hb ho), ?_⟩
  obtain ⟨oe, vs, T, oT, ts, g1, ⟨g2, g3⟩, g4, g5, g6, g7, g8, g9, g10⟩ := h2
  refine ⟨oe, vs, a0, g1, g2, g4, g3, he, ?_, T, oT, ts, g5, fun k => ?_, g7, g8, g9, g10⟩
  · unfold ArgsAt at ha ⊢
    split at ha
    · trivial
    · obtain ⟨t, xs, e1, e2, e3, e4⟩ := ha
      exact ⟨t, xs, e1, e2, e3.of_slots h3, e4⟩
  · obtain ⟨o, ho⟩ := R.known k
    by_cases hh : T ∈ Φ.hid
    · obtain ⟨sl, hsl⟩ := h3 T o ho (hid_nf R hh ho)
      rw [g8] at hsl; cases hsl
      exact hid_nf R hh ho ts g9
    · have := h1 T o
      have hb := exact_ T o k hh ho
      rw [hideAll_get _ ho (fun hm => by
        rcases List.mem_append.mp hm with hm | hm
        · exact hX T hm k
        · exact hh hm)] at g6
      cases g6

theorem frames_fun (R : Rel κ Φ g σ s) {base : Heap} (hb : ∀ b ∈ Φ.hid, base.get? b = none) : ∀ (l : List Env), (∀ e ∈ l, FrameOK Φ e) → s.heap.FunFrames base l
  | [], _ => trivial
  | e :: l, h => by
    obtain ⟨k, L, hf, hL⟩ := h e (.head _)
    have hm : L ∈ Φ.hid := by
      rcases hL with rfl | ⟨h1, h2⟩
      · exact .head _
      · exact .tail _ (List.mem_filter.mpr ⟨h1, h2⟩)
    obtain ⟨o, ho⟩ := R.known (.inl (lc_mut (hid_lc hm)))
    exact ⟨k, ⟨L, o, hf, hb L hm, ho, hid_nf R hm ho⟩, frames_fun R hb l fun e' he' => h e' (.tail _ he')⟩

theorem stays_hide {h : Heap} {l : List Addr} : (hideAll h l).StaysIn h := fun b o e => of_hideAll _ e

theorem note_x (ok : Ctx.Ok κ Φ) (hfn : κ.fn = true) (R : Rel κ Φ g σ s) {e : Addr} {X : Xc} {fl : Option Value} (F : Fly Φ g s.heap e X fl) (hfl : FlOK Φ fl) {M : Model} {A : Around} (hA : A.frames = Φ.A.frames) {Q : Unit → Shared → Prop} {E : Value → Shared → Prop}
    (h : ∀ h', Rel κ Φ g σ { s with heap := h' } → Fly Φ g h' e X (some (rawInt Φ.env.locals)) → Q () { s with heap := h' }) : wpAny M A (noteFrame (.ref e) Φ.env) Q E s := by
  obtain ⟨l, hl, hfo, htop⟩ := ok.frames
  obtain ⟨hf, l', rfl⟩ := htop hfn
  have hfr : A.frames = some (Φ.env :: l') := hA.trans hl
  obtain ⟨oe, vs, a0, g1, g2, g3, g4, g5, g6, g7⟩ := F
  rcases hfl with rfl | rfl | rfl
  · -- new
    have hX : ∀ b ∈ [e], ¬ Known Φ g b := fun b hb => by rw [List.mem_singleton.mp hb]; exact g5
    have hbn : ∀ b ∈ [e] ++ Φ.hid, (hideAll s.heap ([e] ++ Φ.hid)).get? b = none := fun b hb => hideAll_none _ hb
    unfold noteFrame
    simp only [hf]
    refine wpAny_bind (wpAny_field g1 g3 g7 ?_)
    rw [if_neg (by decide)]
    refine wpAny_entryW hfr (frames_fun R (fun b hb => hbn b (List.mem_append_right _ hb)) _ hfo) hf g1 stays_hide (hbn e (List.mem_append_left _ (.head _))) g3 (Array.getElem?_eq_some_iff.mp g7).1 g4 fun h' hN => ?_
    obtain ⟨k1, _, k3, k4⟩ := hN
    rw [g2] at k3
    obtain ⟨R', F'⟩ := noted_back R hX rfl g5 g6 k1 k3 k4
    exact h h' (R' s.toks) F'
  · obtain ⟨T, oT, ts, t1, t2, t3, t4, t5, t6⟩ := g7
    have hX : ∀ b ∈ [e, T], ¬ Known Φ g b := fun b hb => by
      rcases List.mem_cons.mp hb with rfl | hb
      · exact g5
      · rw [List.mem_singleton.mp hb]; exact t2
    have hbn : ∀ b ∈ [e, T] ++ Φ.hid, (hideAll s.heap ([e, T] ++ Φ.hid)).get? b = none := fun b hb => hideAll_none _ hb
    refine wpAny_noteFrame_onW hfr (frames_fun R (fun b hb => hbn b (List.mem_append_right _ hb)) _ hfo) hf (base := hideAll s.heap ([e, T] ++ Φ.hid)) (cls := .type X.cls) (a0 := a0) ⟨oe, vs, T, oT, ts, g1, ⟨g2, g4⟩, g3, t1, hbn T (List.mem_append_left _ (.tail _ (.head _))), t3, t4, t5, t6⟩ stays_hide (hbn e (List.mem_append_left _ (.head _))) fun h' hN => ?_
    obtain ⟨k1, _, k3, k4⟩ := hN
    obtain ⟨R', F'⟩ := noted_back R hX rfl g5 g6 k1 k3 k4
    exact h h' (R' s.toks) F'
  · obtain ⟨T, oT, ts, t1, t2, t3, t4, t5, t6⟩ := g7
    refine wpAny_noteFrame_againW (base := hideAll s.heap [T]) hf ⟨oe, vs, T, oT, ts, g1, ⟨g2, g4⟩, g3, t1, hideAll_none _ (.head _), t3, t4, t5, t6⟩ ?_
    exact h s.heap R ⟨oe, vs, a0, g1, g2, g3, g4, g5, g6, T, oT, ts, t1, t2, t3, t4, t5, t6⟩

theorem flight_x (R : Rel κ Φ g σ s) {e : Addr} {X : Xc} {f : Value} (F : Fly Φ g s.heap e X (some f)) {M : Model} {A : Around} {Q : Unit → Shared → Prop} {E : Value → Shared → Prop}
    (h : ∀ h', Rel κ Φ g σ { s with heap := h' } → Fly Φ g h' e X (some .none) → Q () { s with heap := h' }) : wpAny M A (setFlight (.ref e) none) Q E s := by
  obtain ⟨oe, vs, a0, g1, g2, g3, g4, g5, g6, T, oT, ts, t1, t2, t3, t4, t5, t6⟩ := F
  have hX : ∀ b ∈ [e, T], ¬ Known Φ g b := fun b hb => by
    rcases List.mem_cons.mp hb with rfl | hb
    · exact g5
    · rw [List.mem_singleton.mp hb]; exact t2
  refine wpAny_setFlight_noneW (base := hideAll s.heap ([e, T] ++ Φ.hid)) (l := []) stays_hide trivial (cls := .type X.cls) (a0 := a0) (fl := f) ⟨oe, vs, T, oT, ts, g1, ⟨g2, g4⟩, g3, t1, hideAll_none _ (List.mem_append_left _ (.tail _ (.head _))), t3, t4, t5, t6⟩ fun h' k1 _ k3 k4 => ?_
  obtain ⟨R', F'⟩ := noted_back R hX rfl g5 g6 k1 k3.at fun b o hb hn => ⟨o.slots, k4 b o hb hn⟩
  exact h h' (R' s.toks) F'

theorem leave_x (ok : Ctx.Ok κ Φ) (hfn : κ.fn = true) (R : Rel κ Φ g σ s) {e : Addr} {X : Xc} {fl : Option Value} (F : Fly Φ g s.heap e X fl) (hfl : FlOK Φ fl) {M : Model} {A : Around} (hA : A.frames = Φ.A.frames) {Q : Unit → Shared → Prop} {E : Value → Shared → Prop}
    (h : ∀ h', Rel κ Φ g σ { s with heap := h' } → Fly Φ g h' e X (some .none) → Q () { s with heap := h' }) : wpAny M A (leaving Φ.env (.ref e)) Q E s := by
  unfold leaving
  refine wpAny_bind (note_x ok hfn R F hfl hA fun h' R' F' => ?_)
  exact flight_x R' F' fun h'' R'' F'' => h h'' R'' F''
end
end Mine

open PySem PySem.W PyProof.Rows PySem.Calls
set_option Elab.async false
set_option maxRecDepth 100000
set_option linter.unusedVariables false

namespace Mine

/-! ## Code that raises -/

noncomputable abbrev NoV {α : Type} : α → Shared → Prop := fun _ _ => False
noncomputable def PX (κ : Kap) (Φ : Ctx) (g : G) (Q : Xc → St → Prop) (x : Value) (s' : Shared) : Prop := ∃ g' X σ' e fl, g.le g' ∧ Rel κ Φ g' σ' s' ∧ x = .ref e ∧ Fly Φ g' s'.heap e X fl ∧ FlOK Φ fl ∧ Q X σ'
noncomputable def XE (κ : Kap) (e : Expr) (f : W Xc) : Prop :=
  ∀ Φ, Ctx.Ok κ Φ → ∀ g σ s Q, Rel κ Φ g σ s → f Q σ → wpAny (model κ.P.prog Φ.w) Φ.A (eval e Φ.env) NoV (PX κ Φ g Q) s
noncomputable def XEs (κ : Kap) (es : List Expr) (f : W Xc) : Prop :=
  ∀ Φ, Ctx.Ok κ Φ → ∀ pos g σ s Q, Rel κ Φ g σ s → f Q σ → wpAny (model κ.P.prog Φ.w) Φ.A (spliced (backTo pos (starEach es Φ.env))) NoV (PX κ Φ g Q) s
noncomputable def XS (κ : Kap) (st : Stmt) (f : W Xc) : Prop :=
  ∀ Φ, Ctx.Ok κ Φ → ∀ g σ s Q, Rel κ Φ g σ s → f Q σ → wpAny (model κ.P.prog Φ.w) Φ.A (exec st Φ.env) NoV (PX κ Φ g Q) s
noncomputable def XB (κ : Kap) (sts : List Stmt) (f : W Xc) : Prop :=
  ∀ Φ, Ctx.Ok κ Φ → ∀ g σ s Q, Rel κ Φ g σ s → f Q σ → wpAny (model κ.P.prog Φ.w) Φ.A (execs sts Φ.env) NoV (PX κ Φ g Q) s
noncomputable def CalX (κ : Kap) (fv : Value) (kws : List Str) (f : List V → List V → W Xc) : Prop :=
  ∀ Φ, Ctx.Ok κ Φ → ∀ g σ s vs xs kvs kxs Q, Rel κ Φ g σ s → VRs g vs xs → VRs g kvs kxs → f vs kvs Q σ → wpAny (model κ.P.prog Φ.w) Φ.A (call fv xs (kws.zip kxs)) NoV (PX κ Φ g Q) s
noncomputable def never : W Xc := fun _ _ => False

section
variable {κ : Kap}
theorem PX.le {Φ : Ctx} {g g' : G} {Q : Xc → St → Prop} {x : Value} {s : Shared} (le : g.le g') (h : PX κ Φ g' Q x s) : PX κ Φ g Q x s := by
  obtain ⟨g'', X, σ, e, fl, l, r⟩ := h; exact ⟨g'', X, σ, e, fl, le.trans l, r⟩
theorem wPX {α : Type} {Φ : Ctx} {g g' : G} {t : Sem α} {Q : Xc → St → Prop} {s : Shared} {M : Model} {A : Around} {P : α → Shared → Prop} (le : g.le g') (h : wpAny M A t NoV (PX κ Φ g' Q) s) : wpAny M A t P (PX κ Φ g Q) s :=
  wpAny_mono h (fun _ _ p => p.elim) fun _ _ e => e.le le
theorem wNE {α : Type} {t : Sem α} {s : Shared} {M : Model} {A : Around} {P P' : α → Shared → Prop} {E : Value → Shared → Prop} (h : wpAny M A t P NoE s) (k : ∀ v s, P v s → P' v s) : wpAny M A t P' E s :=
  wpAny_mono h k fun _ _ e => e.elim

theorem xs_never {st : Stmt} : XS κ st never := fun _ _ _ _ _ _ _ h => h.elim
theorem xb_never {sts : List Stmt} : XB κ sts never := fun _ _ _ _ _ _ _ h => h.elim

noncomputable def orX (f h : W Xc) : W Xc := fun Q σ => f Q σ ∨ h Q σ
noncomputable def seqX (f : W Fl) (h : W Xc) : W Xc := fun Q => f fun fl σ => match fl with
  | .next => h Q σ
  | _ => False
theorem xb_cons {st : Stmt} {rest : List Stmt} {f : W Fl} {fx h : W Xc} (hs : SS κ st f) (hx : XS κ st fx) (hr : XB κ rest h) : XB κ (st :: rest) (orX fx (seqX f h)) := fun Φ ok g σ s Q R q => by
  refine wpAny_execs_cons ?_
  rcases q with q | q
  · exact wpAny_mono (hx Φ ok g σ s Q R q) (fun _ _ p => p.elim) fun _ _ e => e
  · refine wNE (hs Φ ok g σ s _ R q) fun x s₁ p => ?_
    obtain ⟨g₁, fl, σ₁, le₁, R₁, rf, q₁⟩ := p
    cases fl with
    | next => simp only [FlR] at rf; subst rf; exact wPX le₁ (hr Φ ok g₁ σ₁ s₁ _ R₁ q₁)
    | brk => exact q₁.elim
    | cont => exact q₁.elim
    | ret v => exact q₁.elim
theorem x_If {t : Expr} {b o : List Stmt} {pos : Pos} {ft : W Bool} {fb fo : W Xc} (ht : ST κ t ft) (hb : XB κ b fb) (ho : XB κ o fo) : XS κ (.If t b o pos) (bnd ft fun c => if c then fb else fo) := fun Φ ok g σ s Q R q => by
  refine wpAny_If (wNE (ht Φ ok g σ s _ R q) fun c s₁ p => ?_)
  obtain ⟨g₁, σ₁, le₁, R₁, q₁⟩ := p
  cases c with
  | true => exact wPX le₁ (hb Φ ok g₁ σ₁ s₁ _ R₁ q₁)
  | false => exact wPX le₁ (ho Φ ok g₁ σ₁ s₁ _ R₁ q₁)
theorem x_Return {e : Expr} {pos : Pos} {f : W Xc} (he : XE κ e f) : XS κ (.Return (some e) pos) f := fun Φ ok g σ s Q R q =>
  wpAny_Return_some (wpAny_mono (he Φ ok g σ s Q R q) (fun _ _ p => p.elim) fun _ _ e => e)
theorem x_Expr {e : Expr} {pos : Pos} {f : W Xc} (he : XE κ e f) (hs : ∀ env, swapsWith e none pos.line env = pure false := by intro _; rfl) : XS κ (.Expr e pos) f := fun Φ ok g σ s Q R q =>
  wpAny_Expr_any (wpAny_mono (he Φ ok g σ s Q R q) (fun _ _ p => p.elim) fun _ _ e => e) (by simp [interactive, ok.kind]) (hs _)
theorem x_Assign {x : Str} {e : Expr} {p pos : Pos} {f : W Xc} (he : XE κ e f) (hs : ∀ env, swapsWith e (some (.Name x p)) pos.line env = pure false := by intro _; rfl) : XS κ (.Assign [.Name x p] e pos) f := fun Φ ok g σ s Q R q =>
  wpAny_Assign_Name (wpAny_mono (he Φ ok g σ s Q R q) (fun _ _ p => p.elim) fun _ _ e => e) (hs _)
theorem x_CompareL {l r : Expr} {op : CmpOp} {pos : Pos} {f : W Xc} (hl : XE κ l f) (hm : behindInMarks op r = false := by rfl) : XE κ (.Compare l [op] [r] pos) f := fun Φ ok g σ s Q R q =>
  wpAny_Compare1 (wpAny_mono (hl Φ ok g σ s Q R q) (fun _ _ p => p.elim) fun _ _ e => e) hm
theorem xs_cons {e : Expr} {rest : List Expr} {f : W V} {fx h : W Xc} (he : SE κ e f) (hx : XE κ e fx) (hr : XEs κ rest h) (hs : isStarred e = false := by rfl) : XEs κ (e :: rest) (orX fx (bnd f fun _ => h)) := fun Φ ok pos g σ s Q R q => by
  refine spliced_more ?_ (star_cons hs)
  rcases q with q | q
  · exact wpAny_mono (hx Φ ok g σ s Q R q) (fun _ _ p => p.elim) fun _ _ e => e
  · refine wNE (he Φ ok g σ s _ R q) fun x s₁ p => ?_
    obtain ⟨g₁, a, σ₁, le₁, R₁, ra, q₁⟩ := p
    exact wPX le₁ (hr Φ ok pos g₁ σ₁ s₁ _ R₁ q₁)
theorem xs_nil : XEs κ [] never := fun _ _ _ _ _ _ _ _ h => h.elim
theorem x_Tuple {es : List Expr} {k : Nat} {pos : Pos} {f : W Xc} (he : XEs κ es f) : XE κ (.Tuple es k pos) f := fun Φ ok g σ s Q R q =>
  Tuple_ (wpAny_mono (he Φ ok pos g σ s Q R q) (fun _ _ p => p.elim) fun _ _ e => e)

/-! ### calls that raise -/
theorem callWith_x {Φ : Ctx} (ok : Ctx.Ok κ Φ) {args : List Expr} {ks : List Keyword} {fa fk : W (List V)} {fv : Value} {f : List V → List V → W Xc} (ha : SEs κ args fa) (hk : SK κ ks fk) (hf : CalX κ fv (knames ks) f) (hkeep : Keep κ fv)
    (hp : plainArgs args = true) (hks : ks.all (·.arg.isSome) = true) {pos : Pos} {g : G} {σ : St} {s : Shared} {Q : Xc → St → Prop} {ws : List V} {ys : List Value} (R : Rel κ Φ g σ s) (rw : VRs g ws ys)
    (h : fa (fun vs => fk fun kvs => f (ws ++ vs) kvs Q) σ) :
    wpAny (model κ.P.prog Φ.w) Φ.A (callWith pos fv ys (backTo pos (starEach args Φ.env)) (backToKw pos (keywordEach ks Φ.env))) NoV (PX κ Φ g Q) s := by
  refine callWith_of (P := fun h => KeepsH Φ.h₀ h) (by rw [star_plain args hp, (kw_some ks hks).2]; rfl) (fun h hh => keep_looks ok hkeep _ h hh) ?_
  refine wNE (args_sound ok ha hk hp hks R h) fun a s₁ p => ?_
  obtain ⟨g', vs, xs, kvs, kxs, σ', rfl, le, R', rv, rk, q⟩ := p
  exact ⟨R'.keep, wPX le (hf Φ ok g' σ' s₁ _ _ _ _ Q R' ((VRs.mono le ws rw).append rv) rk q)⟩
theorem x_Call {x : Str} {p pos : Pos} {args : List Expr} {ks : List Keyword} {fa fk : W (List V)} {fv : Value} {f : List V → List V → W Xc} (hx : gbl κ x fv = true) (ha : SEs κ args fa) (hk : SK κ ks fk) (hf : CalX κ fv (knames ks) f) (hkeep : Keep κ fv)
    (hp : plainArgs args = true := by rfl) (hks : ks.all (·.arg.isSome) = true := by rfl) : XE κ (.Call (.Name x p) args ks pos) (bnd fa fun vs => bnd fk fun kvs => f vs kvs) := fun Φ ok g σ s Q R q => by
  refine wpAny_Call_Name_kw (wNE (r_Glob (pos := p) hx Φ ok g σ s (fun v σ' => v = .glob fv ∧ σ' = σ) R ⟨rfl, rfl⟩) fun y s₁ h => ?_)
  obtain ⟨g₁, a, σ₁, le₁, R₁, ra, rfl, rfl⟩ := h
  simp only [VR] at ra
  subst ra
  exact wPX le₁ (callWith_x ok ha hk hf hkeep hp hks R₁ .nil q)
theorem meth_form {o : Expr} {args : List Expr} {ks : List Keyword} {env : Env} {pos : Pos} (hp : plainArgs args = true) (hks : ks.all (·.arg.isSome) = true) (hn : decide (args.length + ks.length + (if ks.isEmpty then 0 else 1) < 30) = true) :
    methodCallForm (args.length + ks.length) (backTo pos (starEach args env)) (backToKw pos (keywordEach ks env)) = true := by
  unfold methodCallForm
  have h1 : (backTo pos (starEach args env)).all (!·.1) = true := by
    have := star_plain (env := env) (pos := pos) args hp
    rw [List.any_eq_false] at this
    rw [List.all_eq_true]
    intro z hz
    have := this z hz
    simpa using this
  have h2 : (backToKw pos (keywordEach ks env)).isEmpty = ks.isEmpty := by
    cases ks with
    | nil => rfl
    | cons k r => obtain ⟨a, b, c⟩ := k; rfl
  rw [h1, (kw_some ks hks).1, h2]
  simpa using of_decide_eq_true hn
theorem x_Meth {o : Expr} {name : Str} {apos pos : Pos} {args : List Expr} {ks : List Keyword} {fo : W V} {fa fk : W (List V)} {fv : Value} {gd : V → St → Prop} {f : List V → List V → W Xc}
    (ho : SE κ o fo) (hm : MethOK κ name fv gd) (ha : SEs κ args fa) (hk : SK κ ks fk) (hf : CalX κ fv (knames ks) f) (hkeep : Keep κ fv)
    (hbase : ∀ env whole, attributeBase o name env whole = whole := by intro _ _; rfl) (hline : (apos.endLine == pos.line) = true := by rfl)
    (hp : plainArgs args = true := by rfl) (hks : ks.all (·.arg.isSome) = true := by rfl) (hn : decide (args.length + ks.length + (if ks.isEmpty then 0 else 1) < 30) = true := by rfl) :
    XE κ (.Call (.Attribute o name apos) args ks pos) (bnd fo fun v => gdW (gd v) (bnd fa fun vs => bnd fk fun kvs => f (v :: vs) kvs)) := fun Φ ok g σ s Q R q => by
  rw [arm_eval_Call, hbase]
  refine wpAny_bind (wNE (ho Φ ok g σ s _ R q) fun x s₁ p => ?_)
  obtain ⟨g₁, v, σ₁, le₁, R₁, rv, hg, q₁⟩ := p
  refine wpAny_bind (wpAny_standAt ?_)
  have hpos : methodCallPos true o Φ.env apos pos = pure pos := by unfold methodCallPos; simp [hline]
  unfold methodCall
  rw [meth_form (o := o) hp hks hn]
  refine wpAny_bind (wpAny_holding (wNE (hm Φ ok g₁ σ₁ s₁ v x _ (fun r s' => r = (fv, [x]) ∧ s' = s₁) R₁ rv hg ⟨rfl, rfl⟩) fun r s' e => ?_))
  obtain ⟨rfl, rfl⟩ := e
  refine wpAny_bind (wpAny_of_eq hpos ?_)
  exact wPX le₁ (callWith_x ok ha hk hf hkeep hp hks R₁ (.one rv) q₁)

/-! ### raise C(..) -/
theorem x_Raise {cls newId initId : String} (F : ExcCallFacts cls newId initId) (G : ExcRaiseFacts cls) {x : Str} {np cpos pos : Pos} {args : List Expr} {fa : W (List V)} (hx : gbl κ x (.type cls) = true) (ha : SEs κ args fa) (hp : plainArgs args = true := by rfl) :
    XS κ (.Raise (some (.Call (.Name x np) args [] cpos)) none pos) (bnd fa fun vs Q σ => vs.length ≤ sizeLine ∧ Q ⟨cls, some vs⟩ σ) := fun Φ ok g σ s Q R q => by
  refine wpAny_Raise_call F G ok.handled (star_plain args hp) (wNE (r_Glob (pos := np) hx Φ ok g σ s (fun v σ' => v = .glob (.type cls) ∧ σ' = σ) R ⟨rfl, rfl⟩) fun y s₁ h => ?_)
  obtain ⟨g₁, a, σ₁, le₁, R₁, ra, rfl, rfl⟩ := h
  simp only [VR] at ra
  refine ⟨ra, ?_⟩
  have := args_sound ok ha rk_nil hp rfl (pos := cpos) (f := .type cls) (Q := fun vs kvs σ' => vs.length ≤ sizeLine ∧ Q ⟨cls, some vs⟩ σ') R₁ q
  refine wNE this fun a s₂ p => ?_
  obtain ⟨g', vs, xs, kvs, kxs, σ', rfl, le, R', rv, rk, hsz, q'⟩ := p
  refine ⟨rfl, by rw [rv.length]; exact hsz, fun h' e hm => ?_⟩
  have nk : ∀ b, s₂.heap.get? b = none → ¬ Known Φ g' b := fun b hb k => by
    obtain ⟨o, ho⟩ := R'.known k
    rw [hb] at ho; cases ho
  obtain ⟨t, h1, h2, h3⟩ := hm.there
  refine ⟨g', ⟨cls, some vs⟩, σ', e, none, le₁.trans le, R'.keeps (tk := s₂.toks) hm.keeps, rfl, ⟨_, _, .ref t, h1, rfl, rfl, rfl, nk e hm.new, ?_, rfl⟩, .inl rfl, q'⟩
  exact ⟨t, xs, rfl, nk t h2, ⟨_, _, h3, rfl, rfl⟩, rv⟩

/-! ### a def that raises -/
noncomputable abbrev XSpec := List V → List V → List O → (Xc → List O → Prop) → Prop
noncomputable def XPost (κ : Kap) (Φ : Ctx) (g : G) (σ : St) (Q : Xc → List O → Prop) (r : Result) (s' : Shared) : Prop := match r with
  | .error x => ∃ g' X objs' e, g.le g' ∧ Rel κ Φ g' { σ with objs := objs' } s' ∧ x = .ref e ∧ Fly Φ g' s'.heap e X (some .none) ∧ Q X objs'
  | _ => False
noncomputable def FnX (P : Prg) (D : Nat) (f : Addr) (n : Nat) (kws : List Str) (spec : XSpec) : Prop :=
  ∀ (κ : Kap) (Φ : Ctx) (A : Around), κ.P = P → D < κ.D → Ctx.Ok κ Φ → A.handled = none → A.depth ≤ Φ.A.depth + 1 → A.units ≤ Φ.A.units + 10 → A.frames = Φ.A.frames →
    ∀ g σ s vs xs kvs kxs Q, Rel κ Φ g σ s → VRs g vs xs → VRs g kvs kxs → vs.length = n → kvs.length = kws.length → spec vs kvs σ.objs Q →
      codeAny (model P.prog Φ.w) A (.call (.ref f) ⟨xs, kws.zip kxs⟩) (XPost κ Φ g σ Q) s
theorem Fly.up {Φ Φ' : Ctx} {g : G} {h : Heap} {e : Addr} {X : Xc} {fl : Option Value} (k : ∀ b, Known Φ g b → Known Φ' g b) (F : Fly Φ' g h e X fl) : Fly Φ g h e X fl := by
  obtain ⟨oe, vs, a0, g1, g2, g3, g4, g5, g6, g7⟩ := F
  refine ⟨oe, vs, a0, g1, g2, g3, g4, fun q => g5 (k e q), ?_, ?_⟩
  · unfold ArgsAt at g6 ⊢
    split at g6
    · trivial
    · obtain ⟨t, xs, e1, e2, e3, e4⟩ := g6
      exact ⟨t, xs, e1, fun q => e2 (k t q), e3, e4⟩
  · cases fl with
    | none => exact g7
    | some f =>
      obtain ⟨T, oT, ts, t1, t2, t3, t4, t5, t6⟩ := g7
      exact ⟨T, oT, ts, t1, fun q => t2 (k T q), t3, t4, t5, t6⟩
theorem fn_x {P : Prg} {D : Nat} {f : Addr} {fd : FuncData} {body : List Stmt} {vars ps : List Str} {n : Nat} {kws : List Str} {full : List V → List V → List V} {fb : W Xc} {spec : XSpec} (I : FnIs P f fd body vars ps)
    (hb : XB ⟨P, fd.scope.names, vars, D, true⟩ body fb)
    (hbind : ∀ (q : Params) (s : Shared) (xs kxs : List Value), (P.K q).In s.heap → xs.length = n → kxs.length = kws.length → ∃ fx, BindsTo s fd ⟨xs, kws.zip kxs⟩ (ps.zip fx) ∧ ∀ g vs kvs, VRs g vs xs → VRs g kvs kxs → VRs g (full vs kvs) fx)
    (hspec : ∀ vs kvs objs Q, vs.length = n → kvs.length = kws.length → spec vs kvs objs Q → fb (fun X σ => Q X σ.objs) ⟨initLoc vars ps (full vs kvs), objs⟩) :
    FnX P D f n kws spec := by
  intro κ Φ A hP hD ok hA hdep hun hfr g σ s vs xs kvs kxs Q R rv rk hn hk hs
  subst hP
  have X : (κ.P.K Φ.w.params).In s.heap := fun a o e => R.keep a o (ok.KIn a o e)
  obtain ⟨fx, hB, hfull⟩ := hbind Φ.w.params s xs kxs X (rv.length.trans hn) (rk.length.trans hk)
  refine fn_enter I rfl hD ok hA hdep hun hfr R (hB _ _ _ _ ⟨g, σ.objs, fx, full vs kvs, .refl g, R, rfl, hfull g vs kvs rv rk, fun Φ' s₃ ok' hw hA' _ _ R' back' kn => ?_⟩)
  have := hb Φ' ok' _ _ _ (fun X σ => Q X σ.objs) R' (hspec vs kvs σ.objs Q hn hk hs)
  rw [hw] at this
  refine wpAny_mono this (fun _ _ p => p.elim) fun x s₁ p => ?_
  obtain ⟨g₁, X, σ₁, e, fl, le₁, R₁, rfl, F, hfl, q⟩ := p
  refine leave_x ok' rfl R₁ F hfl rfl fun h' R₂ F₂ => ?_
  exact ⟨g₁, X, σ₁.objs, e, le₁, back' g₁ σ₁ _ le₁ R₂, rfl, F₂.up (kn g₁), q⟩
noncomputable def fnWX (n m : Nat) (spec : XSpec) (vs kvs : List V) : W Xc := fun Q σ => vs.length = n ∧ kvs.length = m ∧ spec vs kvs σ.objs fun X objs' => Q X { σ with objs := objs' }
theorem cal_fnx {f : Addr} {D n : Nat} {kws : List Str} {spec : XSpec} (hf : FnX κ.P D f n kws spec) (hD : D < κ.D) : CalX κ (.ref f) kws (fnWX n kws.length spec) := fun Φ ok g σ s vs xs kvs kxs Q R rv rk q => by
  obtain ⟨h1, h2, h3⟩ := q
  refine wpAny_call (codeAny_mono (hf κ Φ Φ.A rfl hD ok ok.handled (Nat.le_succ _) (Nat.le_add_right _ _) rfl g σ s vs xs kvs kxs _ R rv rk h1 h2 h3) fun r s' p => ?_)
  cases r with
  | ok fl => exact p.elim
  | error e =>
    obtain ⟨g', X, objs', a, le, R', rfl, F, q'⟩ := p
    exact ⟨g', X, _, a, _, le, R', rfl, F, .inr (.inl rfl), q'⟩

/-! ### try -/
theorem globA {x : Str} {v : Value} {pos : Pos} (hx : gbl κ x v = true) {Φ : Ctx} (ok : Ctx.Ok κ Φ) {g : G} {σ : St} {s : Shared} (R : Rel κ Φ g σ s) {A : Around} {Q : Value → Shared → Prop} {E : Value → Shared → Prop} (h : Q v s) :
    wpAny (model κ.P.prog Φ.w) A (eval (.Name x pos) Φ.env) Q E s := by
  simp only [gbl, Bool.and_eq_true, Bool.not_eq_true', beq_iff_eq] at hx
  obtain ⟨⟨h1, h2⟩, h3⟩ := hx
  obtain ⟨mg, mb, hg, hb, look⟩ := ok.globs
  have hg' : s.heap.Ns Φ.env.globals mg := by rw [ok.globals]; exact hg.keeps R.keep
  have hb' : s.heap.Ns Φ.env.builtins mb := by rw [ok.builtins]; exact hb.keeps R.keep
  refine Name_function_global ok.kind ((ok.kinds x).trans h1) ?_ h3
  rcases look x v h2 with e | ⟨e, e'⟩
  · exact loadGlobal_global hg' e h
  · exact loadGlobal_builtin hg' e hb' e' h
/-- a handler's suite: it runs beside the caught exception, and does not raise -/
noncomputable def SH (κ : Kap) (sts : List Stmt) (f : W Fl) : Prop :=
  ∀ Φ, Ctx.Ok κ Φ → ∀ (hd : Option Value) g σ s Q, Rel κ Φ g σ s → f Q σ → wpAny (model κ.P.prog Φ.w) (Φ.A.mark hd) (execs sts Φ.env) (PF κ Φ g Q) NoE s
noncomputable def HB (κ : Kap) (hs : List ExceptHandler) (f : Xc → W Fl) : Prop :=
  ∀ Φ, Ctx.Ok κ Φ → ∀ g σ s Q X e, Rel κ Φ g σ s → Fly Φ g s.heap e X (some .none) → f X Q σ → wpAny (model κ.P.prog Φ.w) Φ.A (handleBy (.ref e) Φ.env hs) (PF κ Φ g Q) NoE s
structure ExcName (T : String) : Prop where
  exc : isSubtype (.type T) (.type "BaseException") = pure true
  nt : isSubtype (.type ((Manifest.find? T).elim "type" fun x => x.metatype)) (.type "tuple") = pure false
noncomputable def catchW (T : String) (fh : W Fl) (fr : Xc → W Fl) (X : Xc) : W Fl := fun Q σ => ∃ b, isSubtype (.type X.cls) (.type T) = pure b ∧ if b = true then fh Q σ else fr X Q σ
theorem h_nil : HB κ [] (fun _ _ _ => False) := fun _ _ _ _ _ _ _ _ _ _ h => h.elim
theorem h_cons {T : String} {x : Str} {np pos : Pos} {b₀ : Stmt} {suite : List Stmt} {rest : List ExceptHandler} {fh : W Fl} {fr : Xc → W Fl} (N : ExcName T) (hx : gbl κ x (.type T) = true) (hh : SH κ (b₀ :: suite) fh) (hr : HB κ rest fr) :
    HB κ (.ExceptHandler (some (.Name x np)) none (b₀ :: suite) pos :: rest) (catchW T fh fr) := fun Φ ok g σ s Q X e R F q => by
  obtain ⟨b, hsub, q⟩ := q
  refine wpAny_handleBy_builtin (X := X.cls) (T := T) (b := b) N.exc N.nt hsub (globA hx ok R ?_)
  have F' := F
  obtain ⟨oe, vs, a0, g1, g2, _⟩ := F'
  refine ⟨rfl, ⟨oe, g1, g2⟩, ?_⟩
  cases b with
  | true =>
    simp only [if_true] at q ⊢
    refine flight_x R F fun h' R' F' => ?_
    exact wpAny_mono (hh Φ ok _ g σ _ _ R' q) (fun _ _ p => p) fun _ _ e => e.elim
  | false =>
    simp only [Bool.false_eq_true, if_false] at q ⊢
    exact hr Φ ok g σ s Q X e R F q
noncomputable def tryW (fb : W Fl) (fx : W Xc) (fh : Xc → W Fl) : W Fl := fun Q σ => fb Q σ ∨ fx (fun X σ' => fh X Q σ') σ
theorem s_Try {body : List Stmt} {h₀ : ExceptHandler} {hs : List ExceptHandler} {pos : Pos} {fb : W Fl} {fx : W Xc} {fh : Xc → W Fl} (hb : SB κ body fb) (hx : XB κ body fx) (hh : HB κ (h₀ :: hs) fh) (hfn : κ.fn = true := by rfl) : SS κ (.Try body (h₀ :: hs) [] [] pos) (tryW fb fx fh) := fun Φ ok g σ s Q R q => by
  refine wpAny_Try_except ?_
  rcases q with q | q
  · refine wNE (hb Φ ok g σ s _ R q) fun f s₁ p => ?_
    cases f with
    | next => exact wpAny_execs_nil p
    | brk => exact p
    | cont => exact p
    | ret v => exact p
  · refine wpAny_mono (hx Φ ok g σ s _ R q) (fun _ _ p => p.elim) fun x s₁ p => ?_
    obtain ⟨g₁, X, σ₁, e, fl, le₁, R₁, rfl, F, hfl, q₁⟩ := p
    refine note_x ok hfn R₁ F hfl rfl fun h' R₂ F₂ => ?_
    refine flight_x R₂ F₂ fun h'' R₃ F₃ => ?_
    exact wPF le₁ (hh Φ ok g₁ σ₁ _ Q X e R₃ F₃ q₁)
/-! ### suites -/
noncomputable def SHs (κ : Kap) (st : Stmt) (f : W Fl) : Prop :=
  ∀ Φ, Ctx.Ok κ Φ → ∀ (hd : Option Value) g σ s Q, Rel κ Φ g σ s → f Q σ → wpAny (model κ.P.prog Φ.w) (Φ.A.mark hd) (exec st Φ.env) (PF κ Φ g Q) NoE s
theorem hb_nil : SH κ [] (ret .next) := fun Φ ok hd g σ s Q R h => wpAny_execs_nil ⟨g, .next, σ, .refl g, R, by simp only [FlR], h⟩
theorem hb_cons {st : Stmt} {rest : List Stmt} {f h : W Fl} (hs : SHs κ st f) (hr : SH κ rest h) : SH κ (st :: rest) (seqF f h) := fun Φ ok hd g σ s Q R q => by
  refine wpAny_execs_cons (wpAny_mono (hs Φ ok hd g σ s _ R q) (fun x s₁ p => ?_) fun _ _ e => e)
  obtain ⟨g₁, fl, σ₁, le₁, R₁, rf, q₁⟩ := p
  cases fl with
  | next => simp only [FlR] at rf; subst rf; exact wPF le₁ (hr Φ ok hd g₁ σ₁ s₁ _ R₁ q₁)
  | brk => simp only [FlR] at rf; subst rf; exact ⟨g₁, .brk, σ₁, le₁, R₁, by simp only [FlR], q₁⟩
  | cont => simp only [FlR] at rf; subst rf; exact ⟨g₁, .cont, σ₁, le₁, R₁, by simp only [FlR], q₁⟩
  | ret v => simp only [FlR] at rf; obtain ⟨x, rfl, rv⟩ := rf; exact ⟨g₁, .ret v, σ₁, le₁, R₁, by simp only [FlR]; exact ⟨x, rfl, rv⟩, q₁⟩
theorem hs_AssignB {x : Str} {j : Nat} {b : Bool} {k : Nat} {cp p pos : Pos} (hx : stl κ x j = true) : SHs κ (.Assign [.Name x p] (.Constant (.bool b) k cp) pos) (bnd (setv j (.bool b)) fun _ => ret .next) := fun Φ ok hd g σ s Q R q => by
  refine wpAny_Assign_Name (wpAny_Constant_bool ?_) rfl
  refine wpAny_mono (storev ok R hx (v := .bool b) (by simp only [VR]) q) (fun _ s₂ p => ?_) fun _ _ e => e
  obtain ⟨g₂, σ₂, le₂, R₂, q₂⟩ := p
  exact ⟨g₂, .next, σ₂, le₂, R₂, by simp only [FlR], q₂⟩
theorem name_ValueError : ExcName "ValueError" := ⟨by rw [isSubtype_type]; kernel_rfl, by rw [isSubtype_type]; kernel_rfl⟩
theorem sub_VV : isSubtype (.type "ValueError") (.type "ValueError") = pure true := by rw [isSubtype_type]; kernel_rfl
end
end Mine

open PySem PySem.W PyProof.Rows PySem.Calls
set_option Elab.async false
set_option maxRecDepth 100000
set_option linter.unusedVariables false

namespace Mine
open PySem.Builtin.Re

/-! ## regex.search that finds a sign of the set -/

/-- the pattern is one set: what it takes is told by p -/
structure RxHit (code : Array Nat) (p : Nat → Bool) : Prop where
  first : ((match Sre.ops[code.getD 0 0]? with | some .INFO => true | _ => false) && code.getD 2 0 == 4) = true
  least : (Sre.header code).1 = 1
  inA : ∀ c seen, ∃ seen', Sre.inSet code c code.size 5 true seen = .ok (p c, seen')
  op0 : Sre.ops[code.getD (Sre.header code).2 0]? = some .IN
  acc : ∀ c seen, ∃ seen', Sre.accepts code (Sre.header code).2 c seen = .ok (p c, seen')
  op1 : Sre.ops[code.getD ((Sre.header code).2 + Sre.itemWidth code (Sre.header code).2) 0]? = some .SUCCESS
  lt0 : (Sre.header code).2 < code.size
  lt1 : (Sre.header code).2 + Sre.itemWidth code (Sre.header code).2 < code.size

theorem exec_in (m : Sre.M) (h0 : Sre.ops[m.word 0]? = some .IN) (hp : m.pos < m.lim) (ha : ∀ seen, ∃ seen', Sre.accepts m.code m.pc (m.text.getD m.pos 0) seen = .ok (true, seen')) :
    ∃ seen', m.exec = { m with seen := seen', pc := m.pc + Sre.itemWidth m.code m.pc, pos := m.pos + 1 } := by
  obtain ⟨seen', e⟩ := ha (m.seen.add (m.word 0))
  refine ⟨seen', ?_⟩
  unfold Sre.M.exec
  simp only [h0]
  rw [if_neg (by omega)]
  simp only [e]
theorem exec_success (m : Sre.M) (h0 : Sre.ops[m.word 0]? = some .SUCCESS) (hw : m.wholeText = false) (hm : m.mustAdvance = false) :
    m.exec = { m with seen := m.seen.add (m.word 0), handed := m.pos, answer := some true } := by
  unfold Sre.M.exec
  simp only [h0, hw, hm]
  simp [Sre.M.say]
theorem admitted_some {m : Sre.M} {p : Nat → Bool} (h : ∀ c seen, ∃ seen', Sre.inSet m.code c m.code.size 5 true seen = .ok (p c, seen')) : ∀ (fuel s : Nat) (seen : Sre.Seen), (∃ i, s ≤ i ∧ i < m.lim ∧ i < s + fuel ∧ p (m.text.getD i 0) = true) →
    ∃ i seen', i < m.lim ∧ p (m.text.getD i 0) = true ∧ m.admitted fuel s seen = .ok (some i, seen')
  | 0, s, seen, hi => by obtain ⟨i, h1, h2, h3, _⟩ := hi; exact absurd h3 (Nat.not_lt.mpr h1)
  | fuel + 1, s, seen, hi => by
    obtain ⟨i, h1, h2, h3, h4⟩ := hi
    unfold Sre.M.admitted
    rw [if_neg (by omega)]
    obtain ⟨seen', e⟩ := h (m.text.getD s 0) seen
    rw [e]
    cases q : p (m.text.getD s 0) with
    | true => exact ⟨s, seen', Nat.lt_of_le_of_lt h1 h2, q, rfl⟩
    | false =>
      have : s ≠ i := fun e => by rw [e, h4] at q; cases q
      exact admitted_some h fuel (s + 1) seen' ⟨i, Nat.lt_of_le_of_ne h1 this, h2, by rw [Nat.add_right_comm]; exact h3, h4⟩
theorem four_steps {code text : Array Nat} {p : Nat → Bool} (H : RxHit code p) (m : Sre.M) (f : Sre.Frame) (hc : m.code = code) (ht : m.text = text) (hpc : m.pc = (Sre.header code).2) (hpos : m.pos < m.lim) (hp : p (text.getD m.pos 0) = true)
    (hans : m.answer = none) (hout : m.outcome = none) (hfr : m.frames = [f]) (hw : f.wait = .nextStart) (hwt : m.wholeText = false) (hma : m.mustAdvance = false) : (m.runFor 4).outcome = some .matched := by
  have s1 : m.step = m.exec := by
    unfold Sre.M.step
    simp only [hout, Option.isSome_none, Bool.false_eq_true, if_false, hans, hpc, hc]
    rw [if_pos H.lt0]
  obtain ⟨seen1, e1⟩ := exec_in m (by unfold Sre.M.word; rw [hc, hpc]; exact H.op0) hpos fun seen => by
    obtain ⟨seen', e⟩ := H.acc (text.getD m.pos 0) seen
    rw [hp] at e
    exact ⟨seen', by rw [hc, hpc, ht]; exact e⟩
  generalize hm1 : ({ m with seen := seen1, pc := m.pc + Sre.itemWidth m.code m.pc, pos := m.pos + 1 } : Sre.M) = m1 at e1
  have a1 : m1.outcome = none := by rw [← hm1]; exact hout
  have a2 : m1.answer = none := by rw [← hm1]; exact hans
  have a3 : m1.frames = [f] := by rw [← hm1]; exact hfr
  have a4 : m1.code = code := by rw [← hm1]; exact hc
  have a5 : m1.pc = (Sre.header code).2 + Sre.itemWidth code (Sre.header code).2 := by rw [← hm1]; show m.pc + Sre.itemWidth m.code m.pc = _; rw [hpc, hc]
  have a6 : m1.wholeText = false := by rw [← hm1]; exact hwt
  have a7 : m1.mustAdvance = false := by rw [← hm1]; exact hma
  have s2 : m1.step = m1.exec := by
    unfold Sre.M.step
    simp only [a1, Option.isSome_none, Bool.false_eq_true, if_false, a2, a5, a4]
    rw [if_pos H.lt1]
  have e2 := exec_success m1 (by unfold Sre.M.word; rw [a4, a5]; exact H.op1) a6 a7
  generalize hm2 : ({ m1 with seen := m1.seen.add (m1.word 0), handed := m1.pos, answer := some true } : Sre.M) = m2 at e2
  have b1 : m2.outcome = none := by rw [← hm2]; exact a1
  have b2 : m2.answer = some true := by rw [← hm2]
  have b3 : m2.frames = [f] := by rw [← hm2]; exact a3
  have s3 : (m2.step).outcome = none ∧ (m2.step).answer = some true ∧ (m2.step).frames = [] := by
    unfold Sre.M.step
    simp only [b1, Option.isSome_none, Bool.false_eq_true, if_false, b2, b3]
    unfold Sre.M.resume
    simp only [hw, if_true]
    exact ⟨rfl, rfl, rfl⟩
  generalize hm3 : m2.step = m3 at s3
  obtain ⟨c1, c2, c3⟩ := s3
  have r1 : ∀ (n : Nat) (m : Sre.M), m.outcome = none → m.runFor (n + 1) = Sre.M.runFor n m.step := fun n m h => by
    show (if m.outcome.isSome then m else Sre.M.runFor n m.step) = _
    simp [h]
  rw [r1 3 m hout, s1, e1, r1 2 m1 a1, s2, e2, r1 1 m2 b1, hm3, r1 0 m3 c1]
  show (m3.step).outcome = _
  unfold Sre.M.step
  simp only [c1, Option.isSome_none, Bool.false_eq_true, if_false, c2, c3, if_true]
theorem attempt_some {code text : Array Nat} {p : Nat → Bool} (H : RxHit code p) (m : Sre.M) (hc : m.code = code) (ht : m.text = text) (hl : m.lim = text.size) (hpc : m.pc = (Sre.header code).2) (hw : m.weight = 0)
    (hf : m.frames = []) (hans : m.answer = none) (ho : m.outcome = none) (hwt : m.wholeText = false) (hex : ∃ i, i < text.size ∧ p (text.getD i 0) = true) : ((m.attemptFrom 0 true).runFor 4).outcome = some .matched := by
  obtain ⟨i, hi, hp⟩ := hex
  unfold Sre.M.attemptFrom
  have hf' : m.hasFirstSet = true := by unfold Sre.M.hasFirstSet; rw [hc]; exact H.first
  rw [hf']
  simp only [Bool.not_true, Bool.false_eq_true, if_false]
  obtain ⟨j, seen', hj, hpj, e⟩ := admitted_some (m := m) (p := p) (by rw [hc]; exact H.inA) (m.lim + 1 - 0) 0 m.seen ⟨i, by omega, by omega, by omega, by rw [ht]; exact hp⟩
  rw [e]
  simp only
  unfold Sre.M.attemptAt Sre.M.attempt
  simp only [hw]
  rw [if_neg (by decide)]
  refine four_steps H _ _ hc ht hpc hj (by rw [← ht]; exact hpj) hans ho (by simp only [hf]; rfl) rfl hwt rfl
theorem search_some {code text : Array Nat} {p : Nat → Bool} (H : RxHit code p) (hex : ∃ i, i < text.size ∧ p (text.getD i 0) = true) : ((Sre.forSearch code text 0 0 text.size false).runFor 4).outcome = some .matched := by
  unfold Sre.forSearch
  dsimp only
  rw [H.least, if_neg (by obtain ⟨i, hi, _⟩ := hex; intro h; simp only [Bool.or_eq_true, decide_eq_true_eq] at h; omega)]
  exact attempt_some H _ rfl rfl rfl rfl rfl rfl rfl rfl rfl hex

section
variable {κ : Kap}
/-- a match -/
noncomputable def IsMatch (o : Obj) : Prop := o.cls = .type "re.Match"
noncomputable def rxM (a : Addr) (p : Nat → Bool) (vs kvs : List V) : W V := fun Q σ => match vs with
  | [v, .str x] => v = .glob (.ref a) ∧ x.length ≤ sizeLine ∧ x.cps.toList.any p = true ∧ ∀ o, IsMatch o → Q (.fzo o) σ
  | _ => False
set_option tactic.hygienic true in
theorem cal_rxM {a : Addr} {code : Array Nat} {p : Nat → Bool} (I : RxIs κ.P a code) (H : RxHit code p) : CalOK κ (.builtin "re.Pattern.search") [] (rxM a p) := fun Φ ok g σ s vs xs kvs kxs Q R rv rk q => by
  unfold rxM at q
  split at q
  · rename_i v x
    obtain ⟨rfl, hsz, hany, q⟩ := q
    simp only [VRs, VR] at rv
    obtain ⟨_, _, rfl, rfl, _, _, rfl, ⟨t, rfl⟩, rfl⟩ := rv
    obtain ⟨v0, v1, v3, v4, tp, items, n, h1, h2, h3⟩ := I.at_ Φ.w.params
    have X : (κ.P.K Φ.w.params).In s.heap := fun a o e => R.keep a o (ok.KIn a o e)
    have H1 := X _ _ h1
    have H2 := X _ _ h2
    refine wpAny_call_entry rx_slot ⟨_, H1, rfl⟩ rx_entry ?_ (rx_args _ _)
    unfold Builtin.«re.Pattern.search»
    refine wpAny_bind ?_
    unfold reTarget
    dsimp only
    refine wpAny_bind (wpAny_of_eq (rx_named _) ?_)
    dsimp only
    refine wpAny_bind (wpAny_pure (wpAny_bind (wpAny_pure (wpAny_bind (wpAny_fieldsOf H1 rfl ?_)))))
    have e1 : reTextOf (Value.str x t) = pure (x.cps, 0) := rfl
    rw [e1]
    refine wpAny_bind (wpAny_pure ?_)
    have g6 : reRawNat ((#[v0, v1, Value.int 0 0, v3, v4, Value.ref tp, Value.int 0 0] : Array Value).getD 6 Value.none) = 0 := rfl
    have g5 : (#[v0, v1, Value.int 0 0, v3, v4, Value.ref tp, Value.int 0 0] : Array Value).getD 5 Value.none = .ref tp := rfl
    have g2 : reRawNat ((#[v0, v1, Value.int 0 0, v3, v4, Value.ref tp, Value.int 0 0] : Array Value).getD 2 Value.none) = 0 := rfl
    have e2 : reNoCollectionInside (Value.str x t) 0 = pure () := rfl
    simp only [g6, g5, g2, e2]
    simp only [beq_self_eq_true, Bool.true_and, Nat.reduceBEq, Bool.false_eq_true, if_false, Bool.and_false, Bool.false_and]
    refine wpAny_bind (wpAny_pure ?_)
    unfold reRawItems
    refine wpAny_bind (wpAny_bind (wpAny_seqItems H2 rfl (wpAny_pure (wpAny_pure ?_))))
    have hlim : min (2 ^ 63 - 1 : Int).toNat x.cps.size = x.cps.size := by
      have : x.cps.size ≤ 16777216 := by rw [sizeLine_eq] at hsz; exact hsz
      exact Nat.min_eq_right (Nat.le_trans this (by decide))
    have hpos : min (Int.toNat 0) x.cps.size = 0 := by simp
    simp only [Option.getD_some, h3, hlim, hpos]
    have hex : ∃ i, i < x.cps.size ∧ p (x.cps.getD i 0) = true := by
      obtain ⟨c, hc, hpc⟩ := List.any_eq_true.mp hany
      obtain ⟨i, hi, e⟩ := List.getElem_of_mem hc
      have hi' : i < x.cps.size := by simpa using hi
      refine ⟨i, hi', ?_⟩
      rw [Array.getD_eq_getD_getElem?, Array.getElem?_eq_getElem hi', Option.getD_some]
      have : x.cps[i] = c := by rw [← e]; simp
      rw [this]; exact hpc
    have hend := search_some H hex
    unfold reAnswer
    refine wpAny_bind ?_
    unfold reRunToEnd
    refine wpAny_bind ?_
    have e3 : reDrive (2 ^ 64) (Sre.forSearch code x.cps 0 0 x.cps.size false) = pure ((Sre.forSearch code x.cps 0 0 x.cps.size false).runFor 4) := by
      show (if ((Sre.forSearch code x.cps 0 0 x.cps.size false).runFor reTurnSteps).outcome.isSome then pure ((Sre.forSearch code x.cps 0 0 x.cps.size false).runFor reTurnSteps) else _) = _
      rw [show reTurnSteps = 4 from rfl, hend]; rfl
    refine wpAny_of_eq e3 ?_
    refine wpAny_bind (rules_run (fun i u Q' hq => ?_) ?_ _ _)
    · split
      · exact wpAny_bind (wpAny_rule (wpAny_pure hq))
      · exact wpAny_pure hq
    · simp only [hend]
      refine wpAny_pure ?_
      unfold reNewMatch
      simp only [List.range_zero, List.flatMap_nil, List.any_nil, Bool.false_eq_true, if_false]
      unfold newTuple newFields
      refine wpAny_bind (wpAny_bind (wpAny_newObj_type (hd := ?_) (wpAny_newObj_type (hd := ?_) ?_)))
      · refine wpAny_pure ⟨_, rfl, ?_⟩
        have key : ∀ o1 o : Obj, o.isFreed = false → IsMatch o → PE κ Φ g Q (.ref (s.heap.push o1).objs.size) { s with heap := (s.heap.push o1).push o } := fun o1 o hf hm => by
          have R1 := R.keeps (tk := s.toks) (h' := s.heap.push o1) fun b o e => Heap.get?_push_of_some _ e
          have nk := R1.fresh
          obtain ⟨R3, le⟩ := Rel.freeze (R1.keeps (tk := s.toks) (h' := (s.heap.push o1).push o) fun b o e => Heap.get?_push_of_some _ e) (Heap.get?_push_size _ hf) nk
          exact ⟨_, .fzo _, σ, le, R3, by simp only [VR]; exact ⟨_, rfl, .head _⟩, q _ hm⟩
        exact key _ _ rfl rfl
      · first | trivial | (simp [sizeOk]; decide)
      · first | trivial | (simp [sizeOk]; decide)
  · exact q.elim

/-- a test of what a search gives -/
noncomputable def truthM (v : V) : W Bool := fun Q σ => match v with
  | .none => Q false σ
  | .fzo o => IsMatch o ∧ Q true σ
  | _ => False
theorem noBool_match : typeLookup (.type "re.Match") "__bool__" = pure none := by rw [typeLookup_type, builtinLookup_eq_fast]; kernel_rfl
theorem noLen_match : typeLookup (.type "re.Match") "__len__" = pure none := by rw [typeLookup_type, builtinLookup_eq_fast]; kernel_rfl
theorem truthM_sound {Φ : Ctx} {g : G} {σ : St} {s : Shared} (R : Rel κ Φ g σ s) {a : V} {x : Value} (ha : VR g a x) {Q : Bool → St → Prop} (h : truthM a Q σ) :
    wpAny (model κ.P.prog Φ.w) Φ.A (truthy x) (PB κ Φ g Q) NoE s := by
  unfold truthM at h
  split at h
  · simp only [VR] at ha; subst ha; exact truthy_none ⟨g, σ, .refl g, R, h⟩
  · simp only [VR] at ha
    obtain ⟨ad, rfl, hm⟩ := ha
    obtain ⟨hc, q⟩ := h
    have hT : s.TypeIs (.ref ad) "re.Match" := ⟨_, R.fz _ hm, hc⟩
    unfold truthy
    first
      | refine wpAny_bind (wpAny_callSpecial?_none (name := Str.ofString "__bool__") hT noBool_match ?_)
      | refine wpAny_bind (wpAny_pure (wpAny_bind (wpAny_callSpecial?_none (name := Str.ofString "__bool__") hT noBool_match ?_)))
    first
      | refine wpAny_bind (wpAny_specialOf (name := Str.ofString "__len__") hT noLen_match ?_)
      | refine wpAny_bind (wpAny_pure (wpAny_bind (wpAny_specialOf (name := Str.ofString "__len__") hT noLen_match ?_)))
    exact wpAny_pure ⟨g, σ, .refl g, R, q⟩
  · exact h.elim
theorem t_match {e : Expr} {f : W V} (hx : SE κ e f) (he : ∀ env whole, isTrue e env whole = (do let v ← whole; standAt e.pos; holding [v] (truthy v)) := by intro _ _; rfl) : ST κ e (bnd f truthM) := fun Φ ok g σ s Q R q => by
  refine wpAny_isTrue_value (wpAny_mono (hx Φ ok g σ s _ R q) (fun x s₁ p => ?_) fun _ _ e => e) (he _ _)
  obtain ⟨g₁, a, σ₁, le₁, R₁, ra, q₁⟩ := p
  exact wPB le₁ (truthM_sound R₁ ra q₁)
end

/-! ## the two patterns of the text -/
noncomputable def badN (c : Nat) : Bool := decide (c ≤ 31) || c == 127
noncomputable def badV (c : Nat) : Bool := (decide (c ≤ 31) && c != 9) || c == 127
theorem setN (c i : Nat) (hi : i = 5 ∨ i = 13) (seen : Sre.Seen) : ∃ seen', Sre.inSet codeN c codeN.size i true seen = .ok (badN c, seen') := by
  have main : ∀ seen : Sre.Seen, ∃ seen', (if (decide (0 ≤ c) && decide (c ≤ 31)) = true then (Except.ok (true, seen.add 22) : Except String (Bool × Sre.Seen)) else if (c == 127) = true then .ok (true, (seen.add 22).add 16) else .ok (false, ((seen.add 22).add 16).add 0)) = .ok (badN c, seen') := fun seen => by
    unfold badN
    by_cases h1 : c ≤ 31
    · exact ⟨seen.add 22, by simp [h1]⟩
    · by_cases h2 : c = 127
      · exact ⟨(seen.add 22).add 16, by simp [h2]⟩
      · exact ⟨((seen.add 22).add 16).add 0, by simp [h1, h2]⟩
  rcases hi with rfl | rfl
  · exact main seen
  · exact main seen
theorem hitN : RxHit codeN badN where
  first := by decide +kernel
  least := by decide +kernel
  inA := fun c seen => setN c 5 (.inl rfl) seen
  op0 := by rfl
  acc := fun c seen => setN c 13 (.inr rfl) seen
  op1 := by rfl
  lt0 := by decide +kernel
  lt1 := by decide +kernel
theorem bitV (c i : Nat) (hi : i = 5 ∨ i = 17) : (decide (c < 256) && (codeV.getD (i + (1 + c / 32)) 0).testBit (c % 32)) = badV c := by
  by_cases hlt : c < 256
  · have key : ∀ c : Fin 256, (codeV.getD (5 + (1 + c.val / 32)) 0).testBit (c.val % 32) = badV c.val ∧ (codeV.getD (17 + (1 + c.val / 32)) 0).testBit (c.val % 32) = badV c.val := by decide +kernel
    have := key ⟨c, hlt⟩
    rcases hi with rfl | rfl
    · rw [this.1]; simp [hlt]
    · rw [this.2]; simp [hlt]
  · have : badV c = false := by
      unfold badV
      have h1 : ¬ c ≤ 31 := by omega
      have h2 : ¬ c = 127 := by omega
      simp [h1, h2]
    rw [this]; simp [hlt]
theorem setV (c i : Nat) (hi : i = 5 ∨ i = 17) (seen : Sre.Seen) : ∃ seen', Sre.inSet codeV c codeV.size i true seen = .ok (badV c, seen') := by
  have e := bitV c i hi
  have main : ∃ seen', (if (decide (c < 256) && (codeV.getD (i + (1 + c / 32)) 0).testBit (c % 32)) = true then (Except.ok (true, seen.add 9) : Except String (Bool × Sre.Seen)) else .ok (false, (seen.add 9).add 0)) = .ok (badV c, seen') := by
    rw [e]
    cases badV c with
    | true => exact ⟨_, rfl⟩
    | false => exact ⟨_, rfl⟩
  rcases hi with rfl | rfl
  · exact main
  · exact main
theorem hitV : RxHit codeV badV where
  first := by decide +kernel
  least := by decide +kernel
  inA := fun c seen => setV c 5 (.inl rfl) seen
  op0 := by rfl
  acc := fun c seen => setV c 17 (.inr rfl) seen
  op1 := by rfl
  lt0 := by decide +kernel
  lt1 := by decide +kernel
end Mine

open PySem PySem.W PyProof.Rows PySem.Calls
set_option Elab.async false
set_option maxRecDepth 100000
set_option linter.unusedVariables false

namespace Mine
/-! ## enumerate of a text -/
section
variable {κ : Kap}
end
end Mine

open PySem PySem.W PyProof.Rows PySem.Calls
set_option Elab.async false
set_option maxRecDepth 100000
set_option linter.unusedVariables false

namespace Mine
section
variable {κ : Kap}

/-! ## More code that raises: the special methods, a class, a loop -/
noncomputable def PXo (κ : Kap) (Φ : Ctx) (g : G) (σ : St) (Q : Xc → List O → Prop) (x : Value) (s' : Shared) : Prop := ∃ g' X objs' e, g.le g' ∧ Rel κ Φ g' { σ with objs := objs' } s' ∧ x = .ref e ∧ Fly Φ g' s'.heap e X (some .none) ∧ Q X objs'
theorem PXo.toPX {Φ : Ctx} {g : G} {σ : St} {Q : Xc → St → Prop} {x : Value} {s' : Shared} (p : PXo κ Φ g σ (fun X objs' => Q X { σ with objs := objs' }) x s') : PX κ Φ g Q x s' := by
  obtain ⟨g', X, objs', e, le, R', rfl, F, q⟩ := p
  exact ⟨g', X, _, e, _, le, R', rfl, F, .inr (.inl rfl), q⟩
theorem fnx_call {f : Addr} {D n : Nat} {kws : List Str} {spec : XSpec} (hf : FnX κ.P D f n kws spec) (hD : D < κ.D) {Φ : Ctx} (ok : Ctx.Ok κ Φ) {A : Around} (hA : A.handled = none) (hd : A.depth ≤ Φ.A.depth + 1) (hu : A.units ≤ Φ.A.units + 10) (hfr : A.frames = Φ.A.frames)
    {g : G} {σ : St} {s : Shared} {vs kvs : List V} {xs kxs : List Value} {Q : Xc → List O → Prop} {P : Value → Shared → Prop} (R : Rel κ Φ g σ s) (rv : VRs g vs xs) (rk : VRs g kvs kxs) (h1 : vs.length = n) (h2 : kvs.length = kws.length) (h3 : spec vs kvs σ.objs Q) :
    wpAny (model κ.P.prog Φ.w) A (call (.ref f) xs (kws.zip kxs)) P (PXo κ Φ g σ Q) s := by
  refine wpAny_call (codeAny_mono (hf κ Φ A rfl hD ok hA hd hu hfr g σ s vs xs kvs kxs _ R rv rk h1 h2 h3) fun r s' p => ?_)
  cases r with
  | error e => exact p
  | ok fl => exact p.elim
noncomputable def instX (C : Nat) (n : Nat) (spec : XSpec) (v : V) (args : List V) : W Xc := fun Q σ => match v with
  | .inst c i => c = C ∧ (∃ l, σ.objs[i]? = some (.attrs l)) ∧ (v :: args).length = n ∧ spec (v :: args) [] σ.objs fun u objs' => Q u { σ with objs := objs' }
  | _ => False
theorem inst_openX {Φ : Ctx} {g : G} {σ : St} {s : Shared} {C n : Nat} {spec : XSpec} {v : V} {x : Value} {args : List V} {Q : Xc → St → Prop} (R : Rel κ Φ g σ s) (rv : VR g v x) (q : instX C n spec v args Q σ) :
    ∃ a ox od, x = .ref a ∧ InstAt s.heap a ox C (some od) ∧ (v :: args).length = n ∧ spec (v :: args) [] σ.objs fun u objs' => Q u { σ with objs := objs' } := by
  unfold instX at q
  split at q
  · obtain ⟨rfl, ⟨l, hl⟩, hn, hs⟩ := q
    obtain ⟨a, dx, sl, es, n, rfl, hi, hd, ha, I, _⟩ := R.inst_at rv hl
    exact ⟨a, _, _, rfl, I, hn, hs⟩
  · exact q.elim
theorem x_SubInst {value slice : Expr} {pos : Pos} {f h : W V} {C n D : Nat} {fa : Addr} {spec : XSpec} (hv : SE κ value f) (hi : SE κ slice h) (S : SpecIs κ.P C "__getitem__" fa) (hf : FnX κ.P D fa n [] spec) (hD : D < κ.D) (hs : noSlice slice = true := by rfl) :
    XE κ (.Subscript value slice pos) (bnd f fun v => bnd h fun i => instX C n spec v [i]) := fun Φ ok g σ s Q R q => by
  refine Subscript_ (wNE (hv Φ ok g σ s _ R q) fun x s₁ p => ?_)
  obtain ⟨g₁, a, σ₁, le₁, R₁, ra, q₁⟩ := p
  refine wNE (hi Φ ok g₁ σ₁ s₁ _ R₁ q₁) fun y s₂ p => ?_
  obtain ⟨g₂, b, σ₂, le₂, R₂, rb, q₂⟩ := p
  replace ra := VR.mono le₂ a ra
  obtain ⟨ad, ox, od, rfl, I, hn, hsp⟩ := inst_openX R₂ ra q₂
  obtain ⟨m, news, F, N, back⟩ := R₂.ledger ok.above
  have hsl : subscripted slice true (.ref ad) y = runValue (.builtin "lifetime.subscript" ⟨[.ref ad, y], []⟩) := by cases slice <;> first | rfl | cases hs
  exact sub_K F ok.KIn I (S.find _) (S.fnI _) (S.fn _) (wpAny_mono (fnx_call (P := NoV) (A := Φ.A.in1) hf hD ok ok.handled (Nat.le_succ _) (Nat.add_le_add_left (by decide) _) rfl R₂ (.cons ra (.one rb)) .nil hn rfl hsp) (fun _ _ p => p.elim) fun _ _ e => (PXo.toPX e).le (le₁.trans le₂)) hsl
theorem x_DelInst {value slice : Expr} {p pos : Pos} {f h : W V} {C n D : Nat} {fa : Addr} {spec : XSpec} (hv : SE κ value f) (hi : SE κ slice h) (S : SpecIs κ.P C "__delitem__" fa) (hf : FnX κ.P D fa n [] spec) (hD : D < κ.D) :
    XS κ (.Delete [.Subscript value slice p] pos) (bnd f fun v => bnd h fun i => instX C n spec v [i]) := fun Φ ok g σ s Q R q => by
  refine wpAny_Delete (wpAny_deleteEach_cons (wpAny_delete_Subscript (wNE (hv Φ ok g σ s _ R q) fun x s₁ p => ?_)))
  obtain ⟨g₁, a, σ₁, le₁, R₁, ra, q₁⟩ := p
  refine wNE (hi Φ ok g₁ σ₁ s₁ _ R₁ q₁) fun y s₂ p => ?_
  obtain ⟨g₂, b, σ₂, le₂, R₂, rb, q₂⟩ := p
  replace ra := VR.mono le₂ a ra
  obtain ⟨ad, ox, od, rfl, I, hn, hsp⟩ := inst_openX R₂ ra q₂
  have X : (κ.P.K Φ.w.params).In s₂.heap := fun a o e => R₂.keep a o (ok.KIn a o e)
  unfold delItem sequenceKey
  refine wpAny_holding (wpAny_bind (wpAny_bind (I.type.here ?_)))
  refine wpAny_bind ((anyM_none X (S.noSeq _)).here ?_)
  rw [if_pos (show (!false) = true from rfl)]
  exact wpAny_pure (wpAny_bind (special_fn X I (S.find _) (beq_iff_eq.mp (S.fn _)) (wpAny_mono (fnx_call (P := NoV) (A := Φ.A) hf hD ok ok.handled (Nat.le_succ _) (Nat.le_add_right _ _) rfl R₂ (.cons ra (.one rb)) .nil hn rfl hsp) (fun _ _ p => p.elim) fun _ _ e => (PXo.toPX e).le (le₁.trans le₂))))
/-- a target that raises when it takes a value -/
noncomputable def XA (κ : Kap) (t : Expr) (f : V → W Xc) : Prop :=
  ∀ Φ, Ctx.Ok κ Φ → ∀ g σ s Q v x, Rel κ Φ g σ s → VR g v x → f v Q σ → wpAny (model κ.P.prog Φ.w) Φ.A (assign t Φ.env x) NoV (PX κ Φ g Q) s
theorem xa_SubInst {value slice : Expr} {p : Pos} {f h : W V} {C n D : Nat} {fa : Addr} {spec : XSpec} (hv : SE κ value f) (hi : SE κ slice h) (S : SpecIs κ.P C "__setitem__" fa) (hf : FnX κ.P D fa n [] spec) (hD : D < κ.D) :
    XA κ (.Subscript value slice p) (fun u => bnd f fun v => bnd h fun i => instX C n spec v [i, u]) := fun Φ ok g σ s Q u yu R ru q => by
  rw [arm_assign_Subscript]
  refine wpAny_bind (wpAny_holding (wNE (hv Φ ok g σ s _ R q) fun x s₁ p => ?_))
  obtain ⟨g₁, a, σ₁, le₁, R₁, ra, q₁⟩ := p
  refine wpAny_bind (wpAny_holding (wNE (hi Φ ok g₁ σ₁ s₁ _ R₁ q₁) fun y s₂ p => ?_))
  obtain ⟨g₂, b, σ₂, le₂, R₂, rb, q₂⟩ := p
  replace ra := VR.mono le₂ a ra
  obtain ⟨ad, ox, od, rfl, I, hn, hsp⟩ := inst_openX R₂ ra q₂
  obtain ⟨m, news, F, N, back⟩ := R₂.ledger ok.above
  exact wpAny_bind (wpAny_standAt (wpAny_bind (wpAny_holding (ksp_setItem F ok.KIn I (S.noSeq _) (S.find _) (S.fn _) (wpAny_mono (fnx_call (P := NoV) (A := Φ.A) hf hD ok ok.handled (Nat.le_succ _) (Nat.le_add_right _ _) rfl R₂ (.cons ra (.cons rb (.one (VR.mono (le₁.trans le₂) u ru)))) .nil hn rfl hsp) (fun _ _ p => p.elim) fun _ _ e => (PXo.toPX e).le (le₁.trans le₂))))))
/-! ### arguments that raise -/
theorem args_x {Φ : Ctx} (ok : Ctx.Ok κ Φ) {e : Expr} {rest : List Expr} {fx : W Xc} (ha : XEs κ (e :: rest) fx) (hp : plainArgs (e :: rest) = true) {pos : Pos} {f : Value} {g : G} {σ : St} {s : Shared} {Q : Xc → St → Prop} (R : Rel κ Φ g σ s) (h : fx Q σ) {P : Args → Shared → Prop} :
    wpAny (model κ.P.prog Φ.w) Φ.A (evalArgs f true (backTo pos (starEach (e :: rest) Φ.env)) (backToKw pos (keywordEach [] Φ.env))) P (PX κ Φ g Q) s := by
  have main := ha Φ ok pos g σ s Q R h
  simp only [plainArgs, List.all_cons, Bool.and_eq_true, Bool.not_eq_true'] at hp
  rw [star_cons hp.1] at main ⊢
  exact evalArgs_kw (kw_some [] rfl).1 (wpAny_mono main (fun _ _ p => p.elim) fun _ _ e => e)
theorem x_MethA {o : Expr} {name : Str} {apos pos : Pos} {e : Expr} {rest : List Expr} {fo : W V} {fx : W Xc} {fv : Value} {gd : V → St → Prop}
    (ho : SE κ o fo) (hm : MethOK κ name fv gd) (ha : XEs κ (e :: rest) fx) (hkeep : Keep κ fv)
    (hbase : ∀ env whole, attributeBase o name env whole = whole := by intro _ _; rfl) (hline : (apos.endLine == pos.line) = true := by rfl)
    (hp : plainArgs (e :: rest) = true := by rfl) (hn : decide ((e :: rest).length + ([] : List Keyword).length + 0 < 30) = true := by rfl) :
    XE κ (.Call (.Attribute o name apos) (e :: rest) [] pos) (bnd fo fun v => gdW (gd v) fx) := fun Φ ok g σ s Q R q => by
  rw [arm_eval_Call, hbase]
  refine wpAny_bind (wNE (ho Φ ok g σ s _ R q) fun x s₁ p => ?_)
  obtain ⟨g₁, v, σ₁, le₁, R₁, rv, hg, q₁⟩ := p
  refine wpAny_bind (wpAny_standAt ?_)
  have hpos : methodCallPos true o Φ.env apos pos = pure pos := by unfold methodCallPos; simp [hline]
  unfold methodCall
  rw [meth_form (o := o) hp rfl hn]
  refine wpAny_bind (wpAny_holding (wNE (hm Φ ok g₁ σ₁ s₁ v x _ (fun r s' => r = (fv, [x]) ∧ s' = s₁) R₁ rv hg ⟨rfl, rfl⟩) fun r s' e => ?_))
  obtain ⟨rfl, rfl⟩ := e
  refine wpAny_bind (wpAny_of_eq hpos ?_)
  refine callWith_of (P := fun h => KeepsH Φ.h₀ h) (by rw [star_plain _ hp, (kw_some [] rfl).2]; rfl) (fun h hh => keep_looks ok hkeep _ h hh) ?_
  exact wpAny_mono (args_x ok ha hp (P := NoV) R₁ q₁) (fun _ _ p => p.elim) fun _ _ e => e.le le₁
theorem x_MethO {o : Expr} {name : Str} {apos pos : Pos} {args : List Expr} {ks : List Keyword} {fx : W Xc} (ho : XE κ o fx) (hbase : ∀ env whole, attributeBase o name env whole = whole := by intro _ _; rfl) :
    XE κ (.Call (.Attribute o name apos) args ks pos) fx := fun Φ ok g σ s Q R q => by
  rw [arm_eval_Call, hbase]
  exact wpAny_bind (wpAny_mono (ho Φ ok g σ s Q R q) (fun _ _ p => p.elim) fun _ _ e => e)

theorem x_AssignT {t e : Expr} {pos : Pos} {f : W V} {fx : V → W Xc} (he : SE κ e f) (ht : XA κ t fx) (hs : ∀ env, swapsWith e (some t) pos.line env = pure false := by intro _; rfl)
    (hw : ∀ env, swappedStores [t] e env = pure none := by intro _; rfl) (hst : isStarred t = false := by rfl) : XS κ (.Assign [t] e pos) (bnd f fx) := fun Φ ok g σ s Q R q => by
  refine wpAny_Assign_stores (wNE (he Φ ok g σ s _ R q) fun y s₁ p => ?_) (hs _) (hw _)
  obtain ⟨g₁, a, σ₁, le₁, R₁, ra, q₁⟩ := p
  have e : (assignEach [t] Φ.env).map (·.2) = [assign t Φ.env] := by cases t <;> first | rfl | cases hst
  rw [e]
  exact wpAny_mono (ht Φ ok g₁ σ₁ s₁ _ a y R₁ ra q₁) (fun _ _ p => p.elim) fun _ _ e => e.le le₁

/-! ### a class whose __init__ raises -/
noncomputable def newX (C : Nat) (n m : Nat) (spec : XSpec) (vs kvs : List V) : W Xc := fun Q σ => vs.length + 1 = n ∧ kvs.length = m ∧
  spec (.inst C σ.objs.length :: vs) kvs (σ.objs ++ [.attrs []]) fun X objs' => Q X { σ with objs := objs' }
theorem cal_classX {C fI : Nat} {D n : Nat} {kws : List Str} {spec : XSpec} (I : ClsIs κ.P C fI) (hf : FnX κ.P D fI n kws spec) (hD : D < κ.D) : CalX κ (.ref C) kws (newX C n kws.length spec) := fun Φ ok g σ s vs xs kvs kxs Q R rv rk q => by
  obtain ⟨h1, h2, h3⟩ := q
  have X : (κ.P.K Φ.w.params).In s.heap := fun a o e => R.keep a o (ok.KIn a o e)
  obtain ⟨m, news, F, N, back, kn⟩ := R.ledgerK ok.above
  refine wpAny_call (make_K F N X (I.makes _) (I.init _) (I.fn _) fun x dx h' F' N' hlt hxd => ?_)
  have R1 : Rel κ Φ g σ { s with heap := h' } := back h' s.toks F' fun p hp => N' p (.tail _ (.tail _ hp))
  have hold : ∀ b, Known Φ g b → b ≠ dx ∧ b ≠ x := by
    intro b kb
    have n1 := N' _ (.tail _ (.head _))
    have n2 := N' _ (.head _)
    rcases kn b kb with e | e | ⟨o, e⟩
    · exact ⟨fun q => n1.2.1 (q ▸ e), fun q => n2.2.1 (q ▸ e)⟩
    · exact ⟨fun q => (by rw [q, n1.2.2] at e; cases e), fun q => (by rw [q, n2.2.2] at e; cases e)⟩
    · have := hlt _ e
      exact ⟨Nat.ne_of_lt this, Nat.ne_of_lt (Nat.lt_trans this hxd)⟩
  obtain ⟨g₁, le, Z1, rx⟩ := class_rel R R1 hold (N' _ (.head _)).1 (N' _ (.tail _ (.head _))).1 hxd
  have hA : (Φ.A.under (.builtin "type.__call__" ⟨.ref C :: xs, kws.zip kxs⟩)).handled = none := ok.handled
  refine codeAny_mono (hf κ Φ _ rfl hD ok hA ?_ ?_ rfl _ _ _ (.inst C σ.objs.length :: vs) (.ref x :: xs) kvs kxs _ Z1 (.cons rx (VRs.mono le vs rv)) (VRs.mono le kvs rk) h1 h2 h3) fun r s' p => ?_
  · have e : Code.weight (.builtin "type.__call__" ⟨.ref C :: xs, kws.zip kxs⟩) = 1 := by rfl
    show Φ.A.depth + Code.weight (.builtin "type.__call__" ⟨.ref C :: xs, kws.zip kxs⟩) ≤ _
    rw [e]; exact Nat.le_refl _
  · have e : Code.cUnits (.builtin "type.__call__" ⟨.ref C :: xs, kws.zip kxs⟩) = 1 := by rfl
    show Φ.A.units + Code.cUnits (.builtin "type.__call__" ⟨.ref C :: xs, kws.zip kxs⟩) ≤ _
    omega
  · cases r with
    | ok fl => exact p.elim
    | error e =>
      obtain ⟨g', X', objs', a, le', R', rfl, F', q'⟩ := p
      exact ⟨g', X', _, a, _, le.trans le', R', rfl, F', .inr (.inl rfl), q'⟩

/-! ### a loop, a turn of which raises -/
theorem came_x {Φ : Ctx} {g : G} {σ : St} {s : Shared} (hf : Φ.env.frame = some Φ.env.locals) (R : Rel κ Φ g σ s) {e : Addr} {X : Xc} {f : Value} (F : Fly Φ g s.heap e X (some f)) {M : Model} {A : Around} {E : Value → Shared → Prop}
    (h : ∀ h', Rel κ Φ g σ { s with heap := h' } → Fly Φ g h' e X (some (rawInt Φ.env.locals)) → E (.ref e) { s with heap := h' }) : cameBackBy M A Φ.env E (.ref e) s := by
  obtain ⟨oe, vs, a0, g1, g2, g3, g4, g5, g6, T, oT, ts, t1, t2, t3, t4, t5, t6⟩ := F
  have hsz : 3 < ts.size := (Array.getElem?_eq_some_iff.mp t6).1
  unfold cameBackBy
  refine wpAny_bind (wpAny_field g1 g3 t1 ?_)
  rw [if_neg (show ¬ ((Value.ref T == Value.none) = true) from by simp)]
  unfold setFlight
  refine wpAny_bind (wpAny_field g1 g3 t1 ?_)
  rw [if_pos (show (Value.ref T != Value.none) = true from by simp), hf]
  refine wpAny_setField t4 t5 hsz ?_
  have hTe : ∀ b, b ≠ T → (s.heap.update T (Obj.mapFields (·.setIfInBounds 3 (rawInt Φ.env.locals)))).get? b = s.heap.get? b := fun b hb => Heap.get?_update_other _ _ (Ne.symm hb)
  have R' : Rel κ Φ g σ { s with heap := s.heap.update T (Obj.mapFields (·.setIfInBounds 3 (rawInt Φ.env.locals))) } := R.sameBut t2 (tk := s.toks) fun b o hb e => (hTe b hb).trans e
  have hself := Heap.get?_update_self (Obj.mapFields (·.setIfInBounds 3 (rawInt Φ.env.locals))) t4 (Obj.isFreed_of_fields (Obj.data_mapFields t5 _))
  refine h _ R' ⟨oe, vs, a0, (hTe e (Ne.symm t3)).trans g1, g2, g3, g4, g5, ?_, T, _, _, t1, t2, t3, hself, Obj.data_mapFields t5 _, by simp [Array.getElem?_setIfInBounds, hsz]⟩
  unfold ArgsAt at g6 ⊢
  split at g6
  · trivial
  · obtain ⟨t, xs, e1, e2, ⟨o, n, o1, o2, o3⟩, e4⟩ := g6
    refine ⟨t, xs, e1, e2, ⟨o, n, (hTe t fun q => ?_).trans o1, o2, o3⟩, e4⟩
    rw [q, t4] at o1; cases o1
    rw [t5] at o3; cases o3
theorem pin_known {Φ : Ctx} {g : G} {ps : List (Addr × Obj)} {b : Addr} (k : Known Φ g b) : Known (Φ.pin ps) g b := by
  rcases k with k | k | ⟨p, hp, e⟩ | k
  · exact .inl k
  · exact .inr (.inl k)
  · exact .inr (.inr (.inl ⟨p, List.mem_append_right _ hp, e⟩))
  · exact .inr (.inr (.inr k))
noncomputable def forX (chk : St → Prop) (tgt : V → W Unit) (tx : V → W Xc) (fb : W Fl) (fx : W Xc) : List V → W Xc
  | [], _, _ => False
  | v :: vs, Q, σ => chk σ ∧ (tx v Q σ ∨ tgt v (fun _ σ₁ => fx Q σ₁ ∨ fb (fun fl σ₂ => match fl with
    | .next => forX chk tgt tx fb fx vs Q σ₂
    | .cont => forX chk tgt tx fb fx vs Q σ₂
    | _ => False) σ₁) σ)
noncomputable def neverA : V → W Xc := fun _ => never
theorem xa_never {t : Expr} : XA κ t neverA := fun _ _ _ _ _ _ _ _ _ _ h => h.elim
theorem for_x {Φ : Ctx} (ok : Ctx.Ok κ Φ) (hfn : κ.fn = true) {g : G} {σ : St} {s : Shared} {target : Expr} {it : Value} {Is : List Addr} {S : Nat → Heap → Prop} {items : List V} {chk : St → Prop} {tgt : V → W Unit} {tx : V → W Xc} {body : List Stmt} {fb : W Fl} {fx : W Xc} {Q : Xc → St → Prop}
    (src : Src κ Φ g target it Is S items chk) (ht : SA κ target tgt) (htx : XA κ target tx) (hb : SB κ body fb) (hx : XB κ body fx) (R : Rel κ Φ g σ s) (h0 : S 0 s.heap) (hI : ∀ I ∈ Is, ¬ Known Φ g I) (h : forX chk tgt tx fb fx items Q σ) :
    codeAny (model κ.P.prog Φ.w) Φ.A (.forLoop target it body [] Φ.env) (fun r s' => match r with
      | .ok _ => False
      | .error x => ∃ g' X σ' e, g.le g' ∧ Rel κ Φ g' σ' s' ∧ x = .ref e ∧ Fly Φ g' s'.heap e X (some (rawInt Φ.env.locals)) ∧ Q X σ') s := by
  refine codeAny_forLoop_any (fun n s => ∃ j g' σ', n + j = items.length ∧ g.le g' ∧ Rel κ Φ g' σ' s ∧ S j s.heap ∧ (∀ I ∈ Is, ¬ Known Φ g' I) ∧ forX chk tgt tx fb fx (items.drop j) Q σ') (fun n s₁ hn => ?_) items.length ⟨0, g, σ, Nat.add_zero _, .refl g, R, h0, hI, by simpa using h⟩
  obtain ⟨j, g₁, σ₁, hj, le₁, R₁, hS, hI₁, hf⟩ := hn
  have noted : ∀ {x : Value} {s' : Shared} {g₂ : G} {ps : List (Addr × Obj)}, g.le g₂ → (∀ p ∈ ps, ∀ q ∈ Φ.pins, q.1 ≠ p.1) → PX κ (Φ.pin ps) g₂ Q x s' → notedBy (model κ.P.prog Φ.w) Φ.A Φ.env (fun x s' => ∃ g' X σ' e, g.le g' ∧ Rel κ Φ g' σ' s' ∧ x = .ref e ∧ Fly Φ g' s'.heap e X (some (rawInt Φ.env.locals)) ∧ Q X σ') x s' := fun {x s' g₂ ps} le hd p => by
    obtain ⟨g₃, X, σ₃, e, fl, le₃, R₃, rfl, F, hfl, q⟩ := p
    obtain ⟨R₄, _, _⟩ := R₃.unpin hd
    exact note_x ok hfn R₄ (F.up fun b k => pin_known k) hfl rfl fun h' R₅ F₅ => ⟨g₃, X, σ₃, e, le.trans le₃, R₅, rfl, F₅, q⟩
  cases n with
  | zero =>
    have hj' : j = items.length := (Nat.zero_add j).symm.trans hj
    subst hj'
    rw [List.drop_length] at hf
    exact hf.elim
  | succ n =>
    have hjl : j < items.length := by rw [← hj]; exact Nat.lt_add_of_pos_left (Nat.succ_pos n)
    have hd : items.drop j = items[j] :: items.drop (j + 1) := List.drop_eq_getElem_cons hjl
    rw [hd] at hf
    obtain ⟨hck, hf⟩ := hf
    refine wpAny_mono (src.next j items[j] g₁ σ₁ s₁ _ (List.getElem?_eq_getElem hjl) le₁ R₁ hck hS hI₁ fun x s' hgo => ?_) (fun _ _ p => p) fun _ _ e => e.elim
    refine wpAny_mono (hgo (fun _ s'' => wpAny (model κ.P.prog Φ.w) Φ.A (assign target Φ.env x) (fun _ s₂ => wpAny (model κ.P.prog Φ.w) Φ.A (execs body Φ.env) (fun f s₃ => match f with
        | .next | .cont => ∃ m, m < n + 1 ∧ ∃ j g' σ', m + j = items.length ∧ g.le g' ∧ Rel κ Φ g' σ' s₃ ∧ S j s₃.heap ∧ (∀ I ∈ Is, ¬ Known Φ g' I) ∧ forX chk tgt tx fb fx (items.drop j) Q σ'
        | .brk => False
        | .ret v => False) (notedBy (model κ.P.prog Φ.w) Φ.A Φ.env (fun x s' => ∃ g' X σ' e, g.le g' ∧ Rel κ Φ g' σ' s' ∧ x = .ref e ∧ Fly Φ g' s'.heap e X (some (rawInt Φ.env.locals)) ∧ Q X σ')) s₂) (notedBy (model κ.P.prog Φ.w) Φ.A Φ.env (fun x s' => ∃ g' X σ' e, g.le g' ∧ Rel κ Φ g' σ' s' ∧ x = .ref e ∧ Fly Φ g' s'.heap e X (some (rawInt Φ.env.locals)) ∧ Q X σ')) s'') fun g₂ h' tk le₂ rx R₂ hI₂ hS₂ => ?_) (fun _ s'' p => wpAny_mono p (fun _ s₂ p => wpAny_mono p (fun f s₃ p => ?_) fun _ _ e => e) fun _ _ e => e) fun _ _ e => e.elim
    · let ps := pinsOf h' Is
      have hp1 : ∀ p ∈ ps, h'.get? p.1 = some p.2 := fun p hp => (mem_pinsOf.mp hp).2
      have hp2 : ∀ p ∈ ps, ¬ Known Φ g₂ p.1 := fun p hp => hI₂ _ (mem_pinsOf.mp hp).1
      have hd' : ∀ p ∈ ps, ∀ q ∈ Φ.pins, q.1 ≠ p.1 := fun p hp q hq e => hp2 p hp (.inr (.inr (.inl ⟨q, hq, e⟩)))
      have RP := R₂.pin hp1 hp2
      rcases hf with hf | hf
      · exact wpAny_mono (htx (Φ.pin ps) (ok.pin ps) g₂ σ₁ _ _ _ _ RP rx hf) (fun _ _ p => p.elim) fun _ _ e => noted (le₁.trans le₂) hd' e
      refine wNE (ht (Φ.pin ps) (ok.pin ps) g₂ σ₁ _ _ _ _ RP rx hf) fun _ s₂ p => ?_
      obtain ⟨g₃, σ₃, le₃, R₃, q₃⟩ := p
      rcases q₃ with q₃ | q₃
      · exact wpAny_mono (hx (Φ.pin ps) (ok.pin ps) g₃ σ₃ s₂ _ R₃ q₃) (fun _ _ p => p.elim) fun _ _ e => noted ((le₁.trans le₂).trans le₃) hd' e
      refine wNE (hb (Φ.pin ps) (ok.pin ps) g₃ σ₃ s₂ _ R₃ q₃) fun f s₃ p => ?_
      obtain ⟨g₄, fl, σ₄, le₄, R₄, rf, q₄⟩ := p
      obtain ⟨R₅, k1, k2⟩ := R₄.unpin hd'
      have le := ((le₁.trans le₂).trans le₃).trans le₄
      have cont : forX chk tgt tx fb fx (items.drop (j + 1)) Q σ₄ → ∃ m, m < n + 1 ∧ ∃ j g' σ', m + j = items.length ∧ g.le g' ∧ Rel κ Φ g' σ' s₃ ∧ S j s₃.heap ∧ (∀ I ∈ Is, ¬ Known Φ g' I) ∧ forX chk tgt tx fb fx (items.drop j) Q σ' := fun hq => by
        refine ⟨n, Nat.lt_succ_self n, j + 1, g₄, σ₄, (Nat.succ_add_eq_add_succ n j).symm.trans hj, le, R₅, ?_, fun I hI => ?_, hq⟩
        · refine src.frame (j + 1) g₂ σ₁ _ g₄ σ₄ s₃ R₂ R₅ (le₁.trans le₂) (le₃.trans le₄) hS₂ fun I hI o ho => k1 (I, o) (mem_pinsOf.mpr ⟨hI, ho⟩)
        · obtain ⟨o, ho⟩ := src.here _ _ hS₂ I hI
          exact k2 (I, o) (mem_pinsOf.mpr ⟨hI, ho⟩)
      cases fl with
      | next => simp only [FlR] at rf; subst rf; exact cont q₄
      | cont => simp only [FlR] at rf; subst rf; exact cont q₄
      | brk => exact q₄.elim
      | ret v => exact q₄.elim
    · cases f <;> first | exact p | exact p.elim
theorem x_For {target iter : Expr} {body : List Stmt} {pos : Pos} {fi : W (List V × (List O → Prop))} {tgt : V → W Unit} {tx : V → W Xc} {fb : W Fl} {fx : W Xc} (hi : SI κ target iter fi) (ht : SA κ target tgt) (htx : XA κ target tx) (hb : SB κ body fb) (hx : XB κ body fx) (hn : noSet iter = true := by rfl) (hfn : κ.fn = true := by rfl) :
    XS κ (.For target iter body [] pos) (bnd fi fun p => forX (fun σ => p.2 σ.objs) tgt tx fb fx p.1) := fun Φ ok g σ s Q R q => by
  refine wpAny_For (wNE (hi Φ ok g σ s _ R q) fun x s₁ p => wNE p fun it s₂ p => ?_) (fun _ => noSet_fold hn)
  obtain ⟨g', ⟨items, chk⟩, σ', Is, S, le, R', src, h0, hI, q'⟩ := p
  refine codeAny_mono (for_x ok hfn (src κ Φ rfl rfl rfl) ht htx hb hx R' h0 hI q') fun r s' p => ?_
  cases r with
  | ok f => exact p.elim
  | error x =>
    obtain ⟨g₁, X, σ₁, e, le₁, R₁, rfl, F, q₁⟩ := p
    obtain ⟨l, hl, hfo, htop⟩ := ok.frames
    exact came_x (htop hfn).1 R₁ F fun h' R₂ F₂ => ⟨g₁, X, σ₁, e, _, le.trans le₁, R₂, rfl, F₂, .inr (.inr rfl), q₁⟩
end
end Mine

open PySem PySem.W PyProof.Rows PySem.Calls
set_option Elab.async false
set_option maxRecDepth 100000
set_option linter.unusedVariables false

namespace Mine
section
variable {κ : Kap}

/-! ## x in o, by __contains__ -/
theorem r_InInst {l r : Expr} {pos : Pos} {f h : W V} {C n D : Nat} {fa : Addr} {spec : Spec} (hl : SE κ l f) (hr : SE κ r h) (S : SpecIs κ.P C "__contains__" fa) (hf : FnOK κ.P D fa n [] spec) (hD : D < κ.D) (hm : behindInMarks .In r = false := by rfl) :
    SE κ (.Compare l [.In] [r] pos) (bnd f fun a => bnd h fun b => instW C n spec b [a] |> fun w Q σ => w (fun u σ' => ∃ t, u = .bool t ∧ Q (.bool t) σ') σ) := fun Φ ok g σ s Q R q => by
  refine wpAny_Compare1 (wpAny_mono (hl Φ ok g σ s _ R q) (fun x s₁ p => ?_) fun _ _ e => e) hm
  obtain ⟨g₁, a, σ₁, le₁, R₁, ra, q₁⟩ := p
  refine wpAny_mono (hr Φ ok g₁ σ₁ s₁ _ R₁ q₁) (fun y s₂ p => ?_) fun _ _ e => e
  obtain ⟨g₂, b, σ₂, le₂, R₂, rb, q₂⟩ := p
  replace ra := VR.mono le₂ a ra
  obtain ⟨ad, ox, od, rfl, I, hn, hsp⟩ := inst_open R₂ rb q₂
  obtain ⟨m, news, F, N, back⟩ := R₂.ledger ok.above
  refine in_K F ok.KIn I (S.find _) (S.fn _) (wpAny_mono (fn_call (A := Φ.A) hf hD ok ok.handled (Nat.le_succ _) (Nat.le_add_right _ _) rfl R₂ (.cons rb (.one ra)) .nil hn rfl hsp) (fun z s₃ p => ?_) fun _ _ e => e)
  obtain ⟨g₃, u, objs', le₃, R₃, ru, t, rfl, q₃⟩ := p
  simp only [VR] at ru
  subst ru
  exact wpAny_truthy_bool ⟨g₃, .bool t, _, (le₁.trans le₂).trans le₃, R₃, by simp only [VR], q₃⟩
theorem x_InInst {l r : Expr} {pos : Pos} {f h : W V} {C n D : Nat} {fa : Addr} {spec : XSpec} (hl : SE κ l f) (hr : SE κ r h) (S : SpecIs κ.P C "__contains__" fa) (hf : FnX κ.P D fa n [] spec) (hD : D < κ.D) (hm : behindInMarks .In r = false := by rfl) :
    XE κ (.Compare l [.In] [r] pos) (bnd f fun a => bnd h fun b => instX C n spec b [a]) := fun Φ ok g σ s Q R q => by
  refine wpAny_Compare1 (wNE (hl Φ ok g σ s _ R q) fun x s₁ p => ?_) hm
  obtain ⟨g₁, a, σ₁, le₁, R₁, ra, q₁⟩ := p
  refine wNE (hr Φ ok g₁ σ₁ s₁ _ R₁ q₁) fun y s₂ p => ?_
  obtain ⟨g₂, b, σ₂, le₂, R₂, rb, q₂⟩ := p
  replace ra := VR.mono le₂ a ra
  obtain ⟨ad, ox, od, rfl, I, hn, hsp⟩ := inst_openX R₂ rb q₂
  obtain ⟨m, news, F, N, back⟩ := R₂.ledger ok.above
  exact in_K F ok.KIn I (S.find _) (S.fn _) (wpAny_mono (fnx_call (P := NoV) (A := Φ.A) hf hD ok ok.handled (Nat.le_succ _) (Nat.le_add_right _ _) rfl R₂ (.cons rb (.one ra)) .nil hn rfl hsp) (fun _ _ p => p.elim) fun _ _ e => (PXo.toPX e).le (le₁.trans le₂))
end
end Mine

open PySem PySem.W PyProof.Rows PySem.Calls
set_option Elab.async false
set_option maxRecDepth 100000
set_option linter.unusedVariables false
set_option linter.unusedSimpArgs false

namespace Mine
/-! ## A def with a table of further keywords, called with one of them -/
noncomputable abbrev fill1 (D : Addr) (k : Str) (x : Value) : Sem PUnit := forIn [(k, x)] PUnit.unit fun (y : Str × Value) (_ : PUnit) => (nsSet D y.1 y.2 >>= fun _ => pure (ForInStep.yield PUnit.unit))
theorem enterK1 {κ : Kap} {Φ : Ctx} (ok : Ctx.Ok κ Φ) {g : G} {σ : St} {s : Shared} (R : Rel κ Φ g σ s) {A : Around} {E : Value → Shared → Prop} {k : Str} {v : V} {x : Value} (rx : VR g v x) {t : Sem (List (Str × Value))} {ps : List Str} {fx : List Value}
    {g₁ : Addr → Sem (List (Str × Value))} (hpk : peekA (κ.P.K Φ.w.params) ⟨κ.P.prog, Φ.w.params⟩ t = some (dictOf [] 0, g₁)) (hg : ∀ D, g₁ D = (fill1 D k x >>= fun _ => pure (ps.zip (fx ++ [.ref D])))) {Q : List (Str × Value) → Shared → Prop}
    (h : ∀ (g' : G) (h' : Heap) (tk : Nat) (d : Addr), g.le g' → Rel κ Φ g' { σ with objs := σ.objs ++ [.attrs [(k, v)]] } { s with heap := h', toks := tk } → VR g' (.dct σ.objs.length) (.ref d) → Q (ps.zip (fx ++ [.ref d])) { s with heap := h', toks := tk }) :
    wpAny (model κ.P.prog Φ.w) A t Q E s := by
  have X : (κ.P.K Φ.w.params).In s.heap := fun a o e => R.keep a o (ok.KIn a o e)
  obtain ⟨m, news, F, N, back, kn⟩ := R.ledgerK ok.above
  refine wp_of_peekA (M := model κ.P.prog Φ.w) F N X rfl _ _ hpk fun h' F' N' l => ?_
  rw [hg]
  refine wpAny_bind (kp_fill [(k, x)] { s with heap := h' } [] 0 F' N' (fun p hp => Nat.ne_of_lt (l p hp)) (fun _ he => nomatch he) (fun _ he => nomatch he) (by simp) fun h'' F'' N'' => wpAny_pure ?_)
  have R1 : Rel κ Φ g σ { s with heap := h'', toks := s.toks + 1 } := back h'' (s.toks + 1) F'' (fun p hp => N'' p (.tail _ hp))
  obtain ⟨R2, le⟩ := R1.track (o := .attrs [(k, v)]) (N'' _ (.head _)).1 R.fresh ⟨_, _, rfl, rfl, rfl, fun i k' v' e a b => by
    cases i with
    | zero =>
      simp at a
      obtain ⟨rfl, rfl⟩ := a
      simp [kwEs] at b
      subst b
      exact ⟨⟨_, rfl⟩, rfl, rx⟩
    | succ i => simp at a⟩
  refine h _ h'' _ _ le R2 ?_
  simp only [VR]
  exact ⟨_, rfl, by rw [← R.tr.1]; simp, modules_low (ok.nolim.keeps R.keep)⟩
theorem fn_okK1 {P : Prg} {D : Nat} {f : Addr} {fd : FuncData} {body : List Stmt} {vars ps : List Str} {n : Nat} {k : Str} {full : List V → List V} {fb : W Fl} {spec : Spec} (I : FnIs P f fd body vars ps)
    (hb : SB ⟨P, fd.scope.names, vars, D, true⟩ body fb)
    (hp : ∀ (q : Params) (xs : List Value) (x : Value), xs.length = n → ∃ fx g₁, peekA (P.K q) ⟨P.prog, q⟩ (bindArgs fd ⟨xs, [(k, x)]⟩) = some (dictOf [] 0, g₁) ∧ (∀ D, g₁ D = (fill1 D k x >>= fun _ => pure (ps.zip (fx ++ [.ref D])))) ∧ ∀ g vs, VRs g vs xs → VRs g (full vs) fx)
    (hspec : ∀ vs v objs Q, vs.length = n → spec vs [v] objs Q → fb (retQ Q) ⟨initLoc vars ps (full vs ++ [.dct objs.length]), objs ++ [.attrs [(k, v)]]⟩) :
    FnOK P D f n [k] spec := by
  intro κ Φ A hP hD ok hA hdep hun hfr g σ s vs xs kvs kxs Q R rv rk hn hk hs
  subst hP
  obtain ⟨v, rfl⟩ : ∃ v, kvs = [v] := by match kvs, hk with | [v], _ => exact ⟨v, rfl⟩
  simp only [VRs] at rk
  obtain ⟨x, _, rfl, rx, rfl⟩ := rk
  obtain ⟨fx, g₁, hpk, hg, hfx⟩ := hp Φ.w.params xs x (rv.length.trans hn)
  refine fn_enter I rfl hD ok hA hdep hun hfr R ?_
  refine enterK1 ok R rx hpk hg fun g' h' tk d le R2 rd => ?_
  refine ⟨_, _, fx ++ [.ref d], full vs ++ [.dct σ.objs.length], le, R2, rfl, (hfx _ _ (VRs.mono le _ rv)).append (.one rd), fun Φ' s₃ ok' hw hA' _ _ R' back' _ => ?_⟩
  have := hb Φ' ok' _ _ _ (retQ Q) R' (hspec vs v σ.objs Q hn hs)
  rw [hw] at this
  exact wpAny_mono this (fun fl s' p => by have := post_of le back' p; cases fl <;> exact this) fun _ _ e => e.elim
theorem fn_xK1 {P : Prg} {D : Nat} {f : Addr} {fd : FuncData} {body : List Stmt} {vars ps : List Str} {n : Nat} {k : Str} {full : List V → List V} {fb : W Xc} {spec : XSpec} (I : FnIs P f fd body vars ps)
    (hb : XB ⟨P, fd.scope.names, vars, D, true⟩ body fb)
    (hp : ∀ (q : Params) (xs : List Value) (x : Value), xs.length = n → ∃ fx g₁, peekA (P.K q) ⟨P.prog, q⟩ (bindArgs fd ⟨xs, [(k, x)]⟩) = some (dictOf [] 0, g₁) ∧ (∀ D, g₁ D = (fill1 D k x >>= fun _ => pure (ps.zip (fx ++ [.ref D])))) ∧ ∀ g vs, VRs g vs xs → VRs g (full vs) fx)
    (hspec : ∀ vs v objs Q, vs.length = n → spec vs [v] objs Q → fb (fun X σ => Q X σ.objs) ⟨initLoc vars ps (full vs ++ [.dct objs.length]), objs ++ [.attrs [(k, v)]]⟩) :
    FnX P D f n [k] spec := by
  intro κ Φ A hP hD ok hA hdep hun hfr g σ s vs xs kvs kxs Q R rv rk hn hk hs
  subst hP
  obtain ⟨v, rfl⟩ : ∃ v, kvs = [v] := by match kvs, hk with | [v], _ => exact ⟨v, rfl⟩
  simp only [VRs] at rk
  obtain ⟨x, _, rfl, rx, rfl⟩ := rk
  obtain ⟨fx, g₁, hpk, hg, hfx⟩ := hp Φ.w.params xs x (rv.length.trans hn)
  refine fn_enter I rfl hD ok hA hdep hun hfr R ?_
  refine enterK1 ok R rx hpk hg fun g' h' tk d le R2 rd => ?_
  refine ⟨_, _, fx ++ [.ref d], full vs ++ [.dct σ.objs.length], le, R2, rfl, (hfx _ _ (VRs.mono le _ rv)).append (.one rd), fun Φ' s₃ ok' hw hA' _ _ R' back' kn => ?_⟩
  have := hb Φ' ok' _ _ _ (fun X σ => Q X σ.objs) R' (hspec vs v σ.objs Q hn hs)
  rw [hw] at this
  refine wpAny_mono this (fun _ _ p => p.elim) fun x s₁ p => ?_
  obtain ⟨g₁, X, σ₁, e, fl, le₁, R₁, rfl, F, hfl, q⟩ := p
  refine leave_x ok' rfl R₁ F hfl rfl fun h' R₂ F₂ => ?_
  exact ⟨g₁, X, σ₁.objs, e, le.trans le₁, back' g₁ σ₁ _ le₁ R₂, rfl, F₂.up (kn g₁), q⟩
/-- a def with a table of further keywords, called without any, that raises -/
theorem fn_xK0 {P : Prg} {D : Nat} {f : Addr} {fd : FuncData} {body : List Stmt} {vars ps : List Str} {n : Nat} {full : List V → List V} {fb : W Xc} {spec : XSpec} (I : FnIs P f fd body vars ps)
    (hb : XB ⟨P, fd.scope.names, vars, D, true⟩ body fb)
    (hp : ∀ (q : Params) (xs : List Value), xs.length = n → ∃ fx, peekA (P.K q) ⟨P.prog, q⟩ (bindArgs fd ⟨xs, []⟩) = some (dictOf [] 0, fun D => pure (ps.zip (fx ++ [.ref D]))) ∧ ∀ g vs, VRs g vs xs → VRs g (full vs) fx)
    (hspec : ∀ vs objs Q, vs.length = n → spec vs [] objs Q → fb (fun X σ => Q X σ.objs) ⟨initLoc vars ps (full vs ++ [.dct objs.length]), objs ++ [.attrs []]⟩) :
    FnX P D f n [] spec := by
  intro κ Φ A hP hD ok hA hdep hun hfr g σ s vs xs kvs kxs Q R rv rk hn hk hs
  subst hP
  have X : (κ.P.K Φ.w.params).In s.heap := fun a o e => R.keep a o (ok.KIn a o e)
  have hkv : kvs = [] := List.eq_nil_of_length_eq_zero hk
  subst hkv
  obtain ⟨fx, hpk, hfx⟩ := hp Φ.w.params xs (rv.length.trans hn)
  obtain ⟨m, news, F, N, back, kn⟩ := R.ledgerK ok.above
  refine fn_enter I rfl hD ok hA hdep hun hfr R ?_
  refine wp_of_peekA (M := model κ.P.prog Φ.w) F N X rfl _ _ hpk fun h' F' N' l => wpAny_pure ?_
  have R1 : Rel κ Φ g σ { s with heap := h' } := back h' s.toks F' (fun p hp => N' p (.tail _ hp))
  obtain ⟨R2, le⟩ := R1.track (o := .attrs []) (N' _ (.head _)).1 R.fresh ⟨[], 0, rfl, rfl, rfl, fun i k v e a => by simp at a⟩
  refine ⟨_, _, fx ++ [.ref s.heap.objs.size], full vs ++ [.dct σ.objs.length], le, R2, rfl, ?_, fun Φ' s₃ ok' hw hA' _ _ R' back' kn => ?_⟩
  · exact (hfx _ _ (VRs.mono le _ rv)).append (.one (by simp only [VR]; exact ⟨_, rfl, by rw [← R.tr.1]; simp, modules_low (ok.nolim.keeps R.keep)⟩))
  · have := hb Φ' ok' _ _ _ (fun X σ => Q X σ.objs) R' (hspec vs σ.objs Q hn hs)
    rw [hw] at this
    refine wpAny_mono this (fun _ _ p => p.elim) fun x s₁ p => ?_
    obtain ⟨g₁, X, σ₁, e, fl, le₁, R₁, rfl, F, hfl, q⟩ := p
    refine leave_x ok' rfl R₁ F hfl rfl fun h' R₂ F₂ => ?_
    exact ⟨g₁, X, σ₁.objs, e, le.trans le₁, back' g₁ σ₁ _ le₁ R₂, rfl, F₂.up (kn g₁), q⟩
end Mine

open PySem PySem.W PyProof.Rows PySem.Calls
set_option Elab.async false
set_option maxRecDepth 100000
set_option linter.unusedVariables false
set_option linter.unusedSimpArgs false

namespace Mine
section
variable {prog : Program} {w : World} {A : Around} {E : Value → Shared → Prop} {s : Shared}
theorem sub_dict_dict : isSubtype (.type "dict") (.type "dict") = pure true := by rw [isSubtype_type]; kernel_rfl
theorem merge_one {d a : Addr} {o : Obj} {ep : Nat} {hsh : Int} {k : Str} {t : Tok} {x : Value} {Q : Unit → Shared → Prop} (hd : s.heap.get? d = some (dictOf [] 0)) (ha : s.heap.get? a = some o) (hc : o.cls = .type "dict")
    (hdata : o.data = .dict #[⟨hsh, .str k t, x⟩] ep) (hne : a ≠ d) (hm : (a == sysModules) = false)
    (h : ∀ h', h'.get? d = some (dictOf [⟨hsh, .str k t, x⟩] 1) → (∀ b o, b ≠ d → s.heap.get? b = some o → h'.get? b = some o) → Q () { s with heap := h' }) :
    wpAny (model prog w) A (mergeMapping d (.ref a) true) Q E s := by
  have hT : s.TypeIs (.ref a) "dict" := ⟨o, ha, hc⟩
  unfold mergeMapping
  refine wpAny_bind (wpAny_isInstance hT sub_dict_dict ?_)
  simp only [if_true]
  refine wpAny_bind (wpAny_specialOf hT F.slot_dict_iter.lookup (wpAny_bind (wpAny_pure ?_)))
  have e0 : (some (Value.builtin "dict.__iter__") == some (Value.builtin "dict.__iter__")) = true := by simp
  rw [e0]
  dsimp only
  rw [hm]
  simp only [Bool.false_eq_true, if_false]
  refine wpAny_bind (wpAny_dictEntries hd rfl ?_)
  have e1 : (([] : List DictEntry).toArray).isEmpty = true := rfl
  rw [if_pos e1]
  refine wpAny_bind (wpAny_dictEntries ha hdata ?_)
  refine wpAny_bind ?_
  rw [show forIn (m := Sem) (#[(⟨hsh, .str k t, x⟩ : DictEntry)]) PUnit.unit = fun f => forIn [(⟨hsh, .str k t, x⟩ : DictEntry)] PUnit.unit f from by funext f; simp]
  simp only [List.forIn_cons, List.forIn_nil]
  refine wpAny_bind (wpAny_pure (wpAny_pure ?_))
  refine wpAny_bind (wpAny_dictEntries ha hdata ?_)
  refine wpAny_bind (wpAny_dictEpoch ha hdata ?_)
  refine wpAny_bind ?_
  have e2 : List.range (#[(⟨hsh, .str k t, x⟩ : DictEntry)]).size = [0] := rfl
  rw [e2]
  simp only [List.forIn_cons, List.forIn_nil]
  refine wpAny_bind (wpAny_bind (wpAny_dictEntries ha hdata ?_))
  have e3 : (#[(⟨hsh, .str k t, x⟩ : DictEntry)])[0]? = some ⟨hsh, .str k t, x⟩ := rfl
  simp only [e3]
  have none' : ∀ {Q' : Option Nat → Shared → Prop}, Q' none s → wpAny (model prog w) A (dictFind d (.str k t) hsh) Q' E s := fun q => KTD.kt_dictFind_strs (es := #[]) hd rfl (by simp) (by simpa using q)
  refine wpAny_bind (wpAny_holding (wpAny_bind (none' ?_)))
  simp only [Option.isSome_none, Bool.false_eq_true, if_false]
  unfold dictPut
  refine wpAny_bind (none' ?_)
  dsimp only
  refine wpAny_updateDictKeys hd rfl ?_ (by show 0 ≤ sizeLine; omega) (by simp)
  have hself := Heap.get?_update_self (Obj.mapDictKeys (·.push (⟨hsh, .str k t, x⟩ : DictEntry))) hd rfl
  have hoth : ∀ b, b ≠ d → (s.heap.update d (Obj.mapDictKeys (·.push (⟨hsh, .str k t, x⟩ : DictEntry)))).get? b = s.heap.get? b := fun b hb => Heap.get?_update_other _ _ (Ne.symm hb)
  refine wpAny_bind (wpAny_dictEpoch (s := { s with heap := s.heap.update d (Obj.mapDictKeys (·.push (⟨hsh, .str k t, x⟩ : DictEntry))) }) ((hoth a hne).trans ha) hdata ?_)
  rw [if_neg (by simp)]
  refine wpAny_pure (wpAny_pure (wpAny_pure ?_))
  exact h _ hself fun b o hb e => (hoth b hb).trans e
/-- what the tree of a mapping behind ** has given -/
noncomputable def OneDict (D : Addr) (Q : Str → Value → Shared → Prop) (m : Value) (s₂ : Shared) : Prop := ∃ a o ep hsh k tk x, m = .ref a ∧ s₂.heap.get? D = some (dictOf [] 0) ∧ s₂.heap.get? a = some o ∧ o.cls = .type "dict" ∧ o.data = .dict #[⟨hsh, .str k tk, x⟩] ep ∧ a ≠ D ∧ (a == sysModules) = false ∧
  ∀ h', (∀ b o, b ≠ D → s₂.heap.get? b = some o → h'.get? b = some o) → Q k x { s₂ with heap := h' }
theorem evalArgs_dict {f : Value} {t : Sem Value} {r : List (Bool × Sem Value)} {kx : Sem Value} {Q : Args → Shared → Prop}
    (h : wpAny (model prog w) A (spliced ((false, t) :: r)) (fun xs s₁ => wpAny (model prog w) A kx (OneDict s₁.heap.objs.size fun k x s₂ => Q ⟨xs, [(k, x)]⟩ s₂) E { s₁ with heap := s₁.heap.push (dictOf [] 0) }) E s) :
    wpAny (model prog w) A (evalArgs f true ((false, t) :: r) [(none, kx)]) Q E s := by
  unfold evalArgs
  dsimp only
  refine wpAny_bind (wpAny_mono h (fun xs s₁ h₁ => ?_) fun _ _ e => e)
  refine wpAny_bind (wpAny_pure ?_)
  refine wpAny_holding ?_
  rw [if_neg (by simp)]
  refine wpAny_bind ?_
  unfold mergedKeywords
  dsimp only
  refine wpAny_bind (wpAny_alloc ?_)
  refine wpAny_bind (wpAny_holding ?_)
  refine wpAny_bind ?_
  rw [List.forIn_cons]
  refine wpAny_bind ?_
  dsimp only
  refine wpAny_bind ?_
  rw [if_pos (show ([] : List (Str × Sem Value)).isEmpty = true from rfl)]
  refine wpAny_pure ?_
  refine wpAny_bind (wpAny_mono h₁ (fun m s₂ p => ?_) fun _ _ e => e)
  obtain ⟨a, o, ep, hsh, k, tk, x, rfl, hD, ha, hc, hdata, hne, hm, hQ⟩ := p
  refine wpAny_bind (wpAny_onRaise (wpAny_holding (wpAny_tryCatch (wpAny_onRaise (merge_one hD ha hc hdata hne hm fun h' hd' hk => ?_)))))
  refine wpAny_pure ?_
  dsimp only
  rw [List.forIn_nil]
  refine wpAny_pure ?_
  rw [if_pos (show ([] : List (Str × Sem Value)).isEmpty = true from rfl)]
  refine wpAny_pure (wpAny_pure ?_)
  refine wpAny_bind (wpAny_pure ?_)
  refine wpAny_bind (wpAny_holding ?_)
  unfold keywordsIn
  refine wpAny_bind (wpAny_dictEntries (s := { s₂ with heap := h' }) hd' rfl ?_)
  refine wpAny_bind ?_
  rw [← Array.forIn_toList]
  show wpAny _ _ (forIn [(⟨hsh, .str k tk, x⟩ : DictEntry)] _ _) _ _ _
  rw [List.forIn_cons]
  refine wpAny_bind ?_
  dsimp only
  refine wpAny_pure ?_
  dsimp only
  rw [List.forIn_nil]
  refine wpAny_pure (wpAny_pure (wpAny_pure ?_))
  exact hQ h' hk
theorem callWith_star {M : Model} {f : Value} {first : List Value} {pos : Pos} {Q : Value → Shared → Prop} {P : Heap → Prop} {args : List (Bool × Sem Value)} {keywords : List (Option Str × Sem Value)} (hst : (args.any (·.1) || keywords.any (·.1.isNone)) = true)
    (hk : ∀ h, P h → ∃ k, (k = Keeper.frame ∨ k = Keeper.machine ∨ k = Keeper.boundFrame) ∧ Looks M h (keeperOf f) k)
    (h : wpAny M A (evalArgs f true args keywords) (fun a s₁ => P s₁.heap ∧ wpAny M A (call f (first ++ a.pos) a.kw) Q E s₁) E s) : wpAny M A (callWith pos f first args keywords) Q E s := by
  unfold callWith
  refine wpAny_bind (wpAny_holding (wpAny_mono h (fun a s₁ h₁ => wpAny_bind (wpAny_standAt ?_)) fun _ _ x => x))
  obtain ⟨k, hk', L⟩ := hk _ h₁.1
  simp only [hst]
  refine wpAny_bind (L.here ?_)
  have tail : ∀ {t : Sem Value}, wpAny M A t Q E s₁ → wpAny M A (t >>= fun r => holding [r] point >>= fun _ => pure r) Q E s₁ :=
    fun ht => wpAny_bind (wpAny_mono ht (fun r s₂ hr => wpAny_bind (wpAny_holding (wpAny_point (wpAny_pure hr)))) fun _ _ x => x)
  have marked (mk : Value) : wpAny M A (callMarked mk f (first ++ a.pos) a.kw) Q E s₁ := by unfold callMarked; exact Calls.wpAny_keep h₁.2
  rcases hk' with rfl | rfl | rfl <;> dsimp only <;> first | exact tail (marked _) | exact tail (wpAny_operate' h₁.2)
set_option tactic.hygienic true in
theorem dict_one {h : Heap} {a : Addr} {k : Str} {x : Value} (H : h.DictOf (strKind prog w) a [(k, x)]) : ∃ o ep hsh t, h.get? a = some o ∧ o.cls = .type "dict" ∧ o.data = .dict #[⟨hsh, .str k t, x⟩] ep := by
  obtain ⟨o, es, ep, ho, hx, hd, hk, hp, _⟩ := H
  obtain ⟨l⟩ := es
  cases hp with
  | cons h1 h2 h3 =>
    cases h3
    rename_i e
    obtain ⟨t, ht⟩ := Value.isStrOf_shape h1
    obtain ⟨hh, kk, vv⟩ := e
    simp only at ht h2
    subst ht; subst h2
    exact ⟨o, ep, hh, t, ho, hx.1, hd⟩
end
section
variable {κ : Kap}
set_option tactic.hygienic true in
/-- o.m(args, **{key: value}) -/
theorem kwcall {o : Expr} {name : Str} {apos pos dpos kpos : Pos} {e0 : Expr} {rest : List Expr} {ke ve : Expr} {fo : W V} {fa : W (List V)} {fk fv : W V} {C : Nat} {f : Addr} (ho : SE κ o fo) (M : MethIs κ.P C name f) (Ag : ∀ q, hasDictIn (κ.P.K q) C = true)
    (hgf : ∀ q, specialIn (κ.P.K q) (.ref f) "__get__" = some (some (.builtin "function.__get__"))) (ht : ∀ q, takesIn (κ.P.K q) (.ref f) = some false) (hcn : copiedNames.contains name = false) (hfn : ∀ q, fnIn (κ.P.K q) f = true)
    (ha : SEs κ (e0 :: rest) fa) (hke : SE κ ke fk) (hve : SE κ ve fv) (hbase : ∀ env whole, attributeBase o name env whole = whole) (hp : plainArgs (e0 :: rest) = true)
    {Φ : Ctx} (ok : Ctx.Ok κ Φ) {g : G} {σ : St} {s : Shared} {Z : List V → Str → V → St → Prop} {Pq Eq : Value → Shared → Prop} (R : Rel κ Φ g σ s)
    (h : fo (fun v σ₁ => isInst C name v σ₁ ∧ fa (fun vs σ₂ => fk (fun kv σ₃ => fv (fun vv σ₄ => ∃ k, kv = .str k ∧ Z (v :: vs) k vv σ₄) σ₃) σ₂) σ₁) σ)
    (fin : ∀ g' σ' s' ws xs k vv vx, g.le g' → Rel κ Φ g' σ' s' → VRs g' ws xs → VR g' vv vx → Z ws k vv σ' → codeAny (model κ.P.prog Φ.w) Φ.A (.call (.ref f) ⟨xs, [(k, vx)]⟩) (fun r s'' => match r with
      | .ok (.ret x) => Pq x s''
      | .ok _ => False
      | .error e => Eq e s'') s') :
    wpAny (model κ.P.prog Φ.w) Φ.A (eval (.Call (.Attribute o name apos) (e0 :: rest) [⟨none, .Dict [some ke] [ve] dpos, kpos⟩] pos) Φ.env) Pq Eq s := by
  rw [arm_eval_Call, hbase]
  refine wpAny_bind (wNE (ho Φ ok g σ s _ R h) fun x s₁ p => ?_)
  obtain ⟨g₁, v, σ₁, le₁, R₁, rv, hg, q₁⟩ := p
  refine wpAny_bind (wpAny_standAt ?_)
  unfold methodCall
  have hform : ∀ n, methodCallForm n (backTo pos (starEach (e0 :: rest) Φ.env)) (backToKw pos (keywordEach [⟨none, .Dict [some ke] [ve] dpos, kpos⟩] Φ.env)) = false := fun n => by
    unfold methodCallForm
    have : (backToKw pos (keywordEach [⟨none, .Dict [some ke] [ve] dpos, kpos⟩] Φ.env)).all (·.1.isSome) = false := rfl
    rw [this]; simp
  rw [hform]
  have hpos : methodCallPos false o Φ.env apos pos = pure pos := by unfold methodCallPos; simp
  unfold isInst at hg
  split at hg
  case h_2 => exact hg.elim
  rename_i c i
  obtain ⟨rfl, l, hl, hn⟩ := hg
  obtain ⟨a, dx, sl, es, n, rfl, hi, hd, har, I, _⟩ := R₁.inst_at rv hl
  obtain ⟨m, news, F, N, back, kn⟩ := R₁.ledgerK ok.above
  unfold calleeOf
  simp only [Bool.false_eq_true, if_false]
  refine wpAny_bind (wpAny_holding (wpAny_bind (kbm_bound F ok.KIn N I (M.plain _) (Ag _) (M.find _) (M.fn _) (hgf _) (ht _) hcn ((har.find name).2 hn) fun q h' F' N' lt => wpAny_pure ?_)))
  refine wpAny_bind (wpAny_of_eq hpos ?_)
  have R₂ : Rel κ Φ g₁ σ₁ { s₁ with heap := h', toks := s₁.toks + 1 } := back h' _ F' fun p hp => N' p (.tail _ hp)
  have hq : h'.get? q = some (methodObj (.ref f) (.ref a)) := (N' _ (.head _)).1
  have nq : ¬ Known Φ g₁ q := fun k => by
    rcases kn q k with e | e | ⟨ob, e⟩
    · exact (N' _ (.head _)).2.1 e
    · have := (N' _ (.head _)).2.2
      simp only at this
      rw [this] at e; cases e
    · exact Nat.lt_irrefl _ (lt _ e)
  have hp' := hp
  simp only [plainArgs, List.all_cons, Bool.and_eq_true, Bool.not_eq_true'] at hp'
  have hE : wpAny (model κ.P.prog Φ.w) Φ.A (evalArgs (.ref q) true (backTo pos (starEach (e0 :: rest) Φ.env)) (backToKw pos (keywordEach [⟨none, .Dict [some ke] [ve] dpos, kpos⟩] Φ.env)))
      (fun b s' => ∃ g' σ' ws xs k vv vx, b = ⟨xs, [(k, vx)]⟩ ∧ g₁.le g' ∧ Rel κ Φ g' σ' s' ∧ VRs g' ws xs ∧ VR g' vv vx ∧ Z (.inst c i :: ws) k vv σ' ∧ s'.heap.get? q = some (methodObj (.ref f) (.ref a))) NoE { s₁ with heap := h', toks := s₁.toks + 1 } := by
    have R₃ := R₂.pin (ps := [(q, methodObj (.ref f) (.ref a))]) (fun p hp => by rw [List.mem_singleton.mp hp]; exact hq) (fun p hp => by rw [List.mem_singleton.mp hp]; exact nq)
    have dj : ∀ p ∈ [(q, methodObj (.ref f) (.ref a))], ∀ r ∈ Φ.pins, r.1 ≠ p.1 := fun p hp r hr e => nq (.inr (.inr (.inl ⟨r, hr, by rw [e, List.mem_singleton.mp hp]⟩)))
    have main := ha (Φ.pin [(q, methodObj (.ref f) (.ref a))]) (ok.pin _) pos g₁ σ₁ _ _ R₃ q₁
    have eS : backTo pos (starEach (e0 :: rest) (Φ.pin [(q, methodObj (.ref f) (.ref a))]).env) = (false, eval e0 Φ.env) :: backTo pos (starEach rest Φ.env) := by rw [star_cons hp'.1]; rfl
    have eS' : backTo pos (starEach (e0 :: rest) Φ.env) = (false, eval e0 Φ.env) :: backTo pos (starEach rest Φ.env) := by rw [star_cons hp'.1]; rfl
    rw [eS] at main
    rw [eS']
    refine evalArgs_dict (kx := do let v ← eval (.Dict [some ke] [ve] dpos) Φ.env; standAt pos; pure v) (wpAny_mono main (fun xs s₃ p => ?_) fun _ _ e => e)
    obtain ⟨g₃, vs, σ₃, le₃, R₄, rvs, q₃⟩ := p
    have fr3 : ∀ b, s₃.heap.objs.size ≤ b → ¬ Known (Φ.pin [(q, methodObj (.ref f) (.ref a))]) g₃ b := fun b hb k => by
      obtain ⟨o', ho'⟩ := R₄.known k
      exact Nat.lt_irrefl _ (Nat.lt_of_lt_of_le (Heap.lt_size ho') hb)
    let D := s₃.heap.objs.size
    let h4 := s₃.heap.push (dictOf [] 0)
    let h5 := h4.push (dictOf [] 0)
    have hD4 : h4.get? D = some (dictOf [] 0) := Heap.get?_push_size _ rfl
    have hD5 : h5.get? D = some (dictOf [] 0) := Heap.get?_push_of_some _ hD4
    have s4 : h4.objs.size = D + 1 := by simp [h4, D, Heap.push]
    have hE5 : h5.get? h4.objs.size = some (dictOf [] 0) := Heap.get?_push_size _ rfl
    have R5 : Rel κ (Φ.pin [(q, methodObj (.ref f) (.ref a))]) g₃ σ₃ { s₃ with heap := h5 } := push_pack (push_pack R₄ _) _
    have R6 := R5.pin (ps := [(D, dictOf [] 0), (h4.objs.size, dictOf [] 0)]) (fun p hp => by
      rcases List.mem_cons.mp hp with rfl | hp
      · exact hD5
      · rw [List.mem_singleton.mp hp]; exact hE5) (fun p hp => by
      rcases List.mem_cons.mp hp with rfl | hp
      · exact fr3 _ (Nat.le_refl _)
      · rw [List.mem_singleton.mp hp]; exact fr3 _ (by rw [s4]; exact Nat.le_succ _))
    have dj6 : ∀ p ∈ [(D, dictOf [] 0), (h4.objs.size, dictOf [] 0)], ∀ r ∈ (Φ.pin [(q, methodObj (.ref f) (.ref a))]).pins, r.1 ≠ p.1 := fun p hp r hr e => by
      have kr : Known (Φ.pin [(q, methodObj (.ref f) (.ref a))]) g₃ r.1 := .inr (.inr (.inl ⟨r, hr, rfl⟩))
      rw [e] at kr
      rcases List.mem_cons.mp hp with rfl | hp
      · exact fr3 _ (Nat.le_refl _) kr
      · rw [List.mem_singleton.mp hp] at kr; exact fr3 _ (by rw [s4]; exact Nat.le_succ _) kr
    refine wpAny_bind (wpAny_Dict_walk (knd := strKind κ.P.prog Φ.w) rfl rfl (by simp) (by simp) (pairTrees_cons_walk ?_))
    refine wpAny_mono (hke _ ((ok.pin _).pin _) g₃ σ₃ _ _ R6 q₃) (fun kx s₇ p => ?_) fun _ _ e => e
    obtain ⟨g₇, kv, σ₇, le₇, R₇, rkv, q₇⟩ := p
    refine wpAny_mono (hve _ ((ok.pin _).pin _) g₇ σ₇ _ _ R₇ q₇) (fun vx s₈ p => ?_) fun _ _ e => e
    obtain ⟨g₈, vv, σ₈, le₈, R₈, rvv, k, rfl, z⟩ := p
    obtain ⟨R₉, k9, nk9⟩ := R₈.unpin dj6
    obtain ⟨R₁₀, k10, nk10⟩ := R₉.unpin dj
    simp only [VR] at rkv
    obtain ⟨tk, rfl⟩ := rkv
    have c1 : s₈.heap.get? D = some (dictOf [] 0) := k9 _ (.head _)
    have c2 : s₈.heap.get? h4.objs.size = some (dictOf [] 0) := k9 _ (.tail _ (.head _))
    have c3 : s₈.heap.get? q = some (methodObj (.ref f) (.ref a)) := k10 _ (.head _)
    have hqD : q ≠ D := fun e => nk9 (D, dictOf [] 0) (.head _) (.inr (.inr (.inl ⟨_, List.mem_append_left _ (.head _), e⟩)))
    have hqE : q ≠ h4.objs.size := fun e => nk9 (h4.objs.size, dictOf [] 0) (.tail _ (.head _)) (.inr (.inr (.inl ⟨_, List.mem_append_left _ (.head _), e⟩)))
    refine evalPairs_nil ⟨[(k, vx)], ⟨strKind_is _ _ k tk, rfl, trivial⟩, ⟨_, #[], 0, c2, ⟨rfl, rfl, rfl⟩, rfl, fun e he => by simp at he, .nil, List.nodup_nil⟩, fun h₁₁ hm hs => ?_⟩
    refine wpAny_bind (wpAny_standAt (wpAny_pure ?_))
    obtain ⟨od, ep, hsh, t', d1, d2, d3⟩ := dict_one (k := k) (x := vx) hm
    have nD : ∀ b, Known Φ g₈ b → b ≠ D ∧ b ≠ h4.objs.size := fun b kb => ⟨fun e => nk9 (D, dictOf [] 0) (.head _) (e ▸ pin_known kb), fun e => nk9 (h4.objs.size, dictOf [] 0) (.tail _ (.head _)) (e ▸ pin_known kb)⟩
    have hDE : D ≠ h4.objs.size := by rw [s4]; exact Nat.ne_of_lt (Nat.lt_succ_self _)
    refine ⟨_, od, ep, hsh, k, t', vx, rfl, hs.extBut _ _ hDE c1, d1, d2, d3, Ne.symm hDE, ?_, fun h₁₂ hk => ?_⟩
    · have := modules_low (ok.nolim.keeps R₄.keep)
      refine beq_eq_false_iff_ne.mpr (Nat.ne_of_gt ?_)
      show sysModules < h4.objs.size
      rw [s4]
      exact Nat.lt_succ_of_lt this
    · refine ⟨g₈, σ₈, vs, xs, k, vv, vx, rfl, (le₃.trans le₇).trans le₈, ?_, VRs.mono (le₇.trans le₈) _ rvs, rvv, z, hk _ _ hqD (hs.extBut _ _ hqE c3)⟩
      exact R₁₀.ext fun b o kb e => hk b o (nD b kb).1 (hs.extBut b o (nD b kb).2 e)
  refine callWith_star (P := MethP (κ.P.K Φ.w.params) q f (.ref a)) (by rw [star_plain _ hp]; rfl) (fun h hh => keeps_M (hfn _) h hh) (wNE hE fun b s' p => ?_)
  obtain ⟨g', σ', ws, xs, k, vv, vx, rfl, le', R', rws, rvv, z, hq'⟩ := p
  refine ⟨⟨hq', fun a o e => R'.keep a o (ok.KIn a o e)⟩, wpAny_call (method_call hq' ?_)⟩
  exact fin g' σ' s' (.inst c i :: ws) (.ref a :: xs) k vv vx (le₁.trans le') R' (.cons (VR.mono le' _ rv) rws) rvv z
/-- static facts of a method that is fetched as an object -/
structure MethO (P : Prg) (C : Nat) (x : Str) (f : Addr) : Prop where
  is : MethIs P C x f
  dct : ∀ q, hasDictIn (P.K q) C = true
  get : ∀ q, specialIn (P.K q) (.ref f) "__get__" = some (some (.builtin "function.__get__"))
  takes : ∀ q, takesIn (P.K q) (.ref f) = some false
  free : copiedNames.contains x = false
  fn : ∀ q, fnIn (P.K q) f = true
noncomputable def kwW (good : Str → Prop) (n : Nat) (spec : Str → Spec) (ws : List V) (kv vv : V) : W V := fun Q σ => ∃ k, kv = .str k ∧ good k ∧ ws.length = n ∧ spec k ws [vv] σ.objs fun u objs' => Q u { σ with objs := objs' }
noncomputable def kwX (good : Str → Prop) (n : Nat) (spec : Str → XSpec) (ws : List V) (kv vv : V) : W Xc := fun Q σ => ∃ k, kv = .str k ∧ good k ∧ ws.length = n ∧ spec k ws [vv] σ.objs fun u objs' => Q u { σ with objs := objs' }
theorem r_MethKw {o : Expr} {name : Str} {apos pos dpos kpos : Pos} {e0 : Expr} {rest : List Expr} {ke ve : Expr} {fo : W V} {fa : W (List V)} {fk fv : W V} {C : Nat} {f : Addr} {good : Str → Prop} {D n : Nat} {spec : Str → Spec} (ho : SE κ o fo) (M : MethO κ.P C name f)
    (ha : SEs κ (e0 :: rest) fa) (hke : SE κ ke fk) (hve : SE κ ve fv) (hf : ∀ k, good k → FnOK κ.P D f n [k] (spec k)) (hD : D < κ.D) (hbase : ∀ env whole, attributeBase o name env whole = whole := by intro _ _; rfl) (hp : plainArgs (e0 :: rest) = true := by rfl) :
    SE κ (.Call (.Attribute o name apos) (e0 :: rest) [⟨none, .Dict [some ke] [ve] dpos, kpos⟩] pos) (bnd fo fun v => gdW (isInst C name v) (bnd fa fun vs => bnd fk fun kv => bnd fv fun vv => kwW good n spec (v :: vs) kv vv)) := fun Φ ok g σ s Q R q => by
  refine kwcall (Z := fun ws k vv σ' => good k ∧ ws.length = n ∧ spec k ws [vv] σ'.objs fun u objs' => Q u { σ' with objs := objs' }) ho M.is M.dct M.get M.takes M.free M.fn ha hke hve hbase hp ok R q fun g' σ' s' ws xs k vv vx le R' rw rv z => ?_
  obtain ⟨z1, z2, z3⟩ := z
  refine codeAny_mono (hf k z1 κ Φ Φ.A rfl hD ok ok.handled (Nat.le_succ _) (Nat.le_add_right _ _) rfl g' σ' s' ws xs [vv] [vx] _ R' rw (.one rv) z2 rfl z3) fun r s'' p => ?_
  cases r with
  | error e => exact p.elim
  | ok fl =>
    cases fl with
    | ret x => obtain ⟨g'', u, objs', le', R'', ru, q'⟩ := p; exact ⟨g'', u, _, le.trans le', R'', ru, q'⟩
    | next => exact p.elim
    | brk => exact p.elim
    | cont => exact p.elim
theorem x_MethKw {o : Expr} {name : Str} {apos pos dpos kpos : Pos} {e0 : Expr} {rest : List Expr} {ke ve : Expr} {fo : W V} {fa : W (List V)} {fk fv : W V} {C : Nat} {f : Addr} {good : Str → Prop} {D n : Nat} {spec : Str → XSpec} (ho : SE κ o fo) (M : MethO κ.P C name f)
    (ha : SEs κ (e0 :: rest) fa) (hke : SE κ ke fk) (hve : SE κ ve fv) (hf : ∀ k, good k → FnX κ.P D f n [k] (spec k)) (hD : D < κ.D) (hbase : ∀ env whole, attributeBase o name env whole = whole := by intro _ _; rfl) (hp : plainArgs (e0 :: rest) = true := by rfl) :
    XE κ (.Call (.Attribute o name apos) (e0 :: rest) [⟨none, .Dict [some ke] [ve] dpos, kpos⟩] pos) (bnd fo fun v => gdW (isInst C name v) (bnd fa fun vs => bnd fk fun kv => bnd fv fun vv => kwX good n spec (v :: vs) kv vv)) := fun Φ ok g σ s Q R q => by
  refine kwcall (Z := fun ws k vv σ' => good k ∧ ws.length = n ∧ spec k ws [vv] σ'.objs fun u objs' => Q u { σ' with objs := objs' }) ho M.is M.dct M.get M.takes M.free M.fn ha hke hve hbase hp ok R q fun g' σ' s' ws xs k vv vx le R' rw rv z => ?_
  obtain ⟨z1, z2, z3⟩ := z
  refine codeAny_mono (hf k z1 κ Φ Φ.A rfl hD ok ok.handled (Nat.le_succ _) (Nat.le_add_right _ _) rfl g' σ' s' ws xs [vv] [vx] _ R' rw (.one rv) z2 rfl z3) fun r s'' p => ?_
  cases r with
  | ok fl => exact p.elim
  | error e =>
    obtain ⟨g'', X, objs', b, le', R'', rfl, F, q'⟩ := p
    exact ⟨g'', X, _, b, _, le.trans le', R'', rfl, F, .inr (.inl rfl), q'⟩
end
end Mine

open PySem PySem.W PyProof.Rows PySem.Calls
set_option Elab.async false
set_option maxRecDepth 100000
set_option linter.unusedVariables false
set_option linter.unusedSimpArgs false

namespace Mine
/-! ## Tokens only grow -/
theorem runs_toks {M : Model} {Γ : PySem.Ctx} {p : Pos} {t : Sem Fin} {fs : List Frame} {s s' : Shared} {e : End} (h : Runs M Γ p t fs s e s') : s.toks ≤ s'.toks := by
  induction h <;> first | exact Nat.le_refl _ | assumption | exact Nat.le_trans ‹_› ‹_› | exact Nat.le_trans (Nat.le_succ _) ‹_›
theorem wakes_toks {M : Model} {Γ : PySem.Ctx} {p : Pos} {g : Nat} {r : Resume} {s s' : Shared} {res : GenResult} (h : Wakes M Γ p g r s res s') : s.toks ≤ s'.toks := by
  unfold Wakes at h
  split at h
  · exact h.elim
  · split at h
    · obtain ⟨e₁, s₁, h1, _, _, rfl⟩ := h
      have := runs_toks h1
      exact this
    · rw [h.2]; exact Nat.le_refl _
    · rw [h.2]; exact Nat.le_refl _
  · obtain ⟨e₁, s₁, h1, _, _, rfl⟩ := h
    have := runs_toks h1
    exact this
  · rw [h.2]; exact Nat.le_refl _
  · rw [h.2]; exact Nat.le_refl _
theorem wp_toks {α : Type} {M : Model} {Γ : PySem.Ctx} {Q : α → Pos → Shared → Prop} {E : Value → Pos → Shared → Prop} (n : Nat) : ∀ (t : Sem α) (p : Pos) (s : Shared), n ≤ s.toks → Sem.wp M Γ t Q E p s →
    Sem.wp M Γ t (fun a p' s' => n ≤ s'.toks ∧ Q a p' s') (fun e p' s' => n ≤ s'.toks ∧ E e p' s') p s := by
  intro t
  induction t with
  | pure a => intro p s hn h; exact ⟨hn, h⟩
  | raise e => intro p s hn h; exact ⟨hn, h⟩
  | unsupported _ => intro p s hn h; exact h.elim
  | finish _ => intro p s hn h; exact h.elim
  | rule _ k ih => intro p s hn h; exact ih _ p s hn h
  | «at» p' k ih => intro p s hn h; exact ih _ p' s hn h
  | load a _ k ih => intro p s hn h; obtain ⟨o, h1, h2⟩ := h; exact ⟨o, h1, ih _ p s hn h2⟩
  | update a _ f k ih => intro p s hn h; exact ⟨h.1, ih _ p _ hn h.2⟩
  | loadIfAlive a k ih => intro p s hn h; exact ih _ p s hn h
  | point _ k ih => intro p s hn h; exact ih _ p s hn h
  | register _ _ => intro p s hn h; exact h.elim
  | alloc o k ih => intro p s hn h; exact ih _ p _ hn h
  | fresh k ih => intro p s hn h; exact ih _ p _ (Nat.le_succ_of_le hn) h
  | ask k ih => intro p s hn h; exact ih _ p s hn h
  | choose src m k ih => intro p s hn h; exact ⟨h.1, ih _ p _ hn h.2⟩
  | os q _ k ih => intro p s hn h; exact ih _ p _ hn h
  | call c hd _ _ k ih =>
    intro p s hn h
    obtain ⟨r, s', h1, h2⟩ := h
    exact ⟨r, s', h1, ih _ p s' (Nat.le_trans hn (runs_toks h1)) h2⟩
  | handled own k ih => intro p s hn h; exact ih _ p s hn h
  | genState g k ih => intro p s hn h; obtain ⟨st, h1, h2⟩ := h; exact ⟨st, h1, ih _ p s hn h2⟩
  | newGen c k ih => intro p s hn h; exact ih _ p _ hn h
  | resume g r _ k ih =>
    intro p s hn h
    obtain ⟨res, s', h1, h2⟩ := h
    exact ⟨res, s', h1, ih _ p s' (Nat.le_trans hn (wakes_toks h1)) h2⟩
  | «yield» => intro p s hn h; exact h.elim
  | stack k ih => intro p s hn h; exact ih _ p s hn h
  | fork => intro p s hn h; exact h.elim
  | thread k ih => intro p s hn h; exact ih _ p s hn h
  | await => intro p s hn h; exact h.elim
theorem wpAny_toks {α : Type} {M : Model} {A : Around} {t : Sem α} {Q : α → Shared → Prop} {E : Value → Shared → Prop} {s : Shared} (h : wpAny M A t Q E s) : wpAny M A t (fun a s' => s.toks ≤ s'.toks ∧ Q a s') (fun e s' => s.toks ≤ s'.toks ∧ E e s') s :=
  fun Γ p hΓ => wp_toks s.toks t p s (Nat.le_refl _) (h Γ p hΓ)
/-- a tree that makes a token -/
noncomputable def Makes {α : Type} (t : Sem α) : Prop := ∀ (M : Model) (A : Around) (Q : α → Shared → Prop) (E : Value → Shared → Prop) (s : Shared), wpAny M A t Q E s → wpAny M A t (fun a s' => 0 < s'.toks ∧ Q a s') E s
theorem makes_nsSet (d : Addr) (k : Str) (v : Value) : Makes (nsSet d k v) := fun M A Q E s h Γ p hΓ => by
  have h := h Γ p hΓ
  obtain ⟨r, e⟩ : ∃ r : Setting → Tok → Sem Unit, nsSet d k v = .ask fun S => .fresh fun t => r S t := ⟨_, rfl⟩
  rw [e] at h ⊢
  have h : Sem.wp M Γ (r ⟨M.prog, M.w.params⟩ s.toks) (fun a _ s' => Q a s') (fun e _ s' => E e s') p { s with toks := s.toks + 1 } := h
  show Sem.wp M Γ (r ⟨M.prog, M.w.params⟩ s.toks) _ _ p { s with toks := s.toks + 1 }
  exact Sem.wp_mono M Γ _ (fun a p' s' q => ⟨Nat.lt_of_lt_of_le (Nat.succ_pos _) q.1, q.2⟩) (fun _ _ _ q => q.2) _ _ (wp_toks (s.toks + 1) _ p _ (Nat.le_refl _) h)
section
variable {κ : Kap}
theorem storev_pos {Φ : Ctx} (ok : Ctx.Ok κ Φ) {g : G} {σ : St} {s : Shared} {Q : Unit → St → Prop} {x : Str} {k : Nat} {v : V} {val : Value} (R : Rel κ Φ g σ s) (hx : stl κ x k = true) (hl : (κ.names.lookup x == some .local) = true)
    (hv : VR g v val) (h : setv k v Q σ) {A : Around} : wpAny (model κ.P.prog Φ.w) A (storeName Φ.env x val) (fun u s' => 0 < s'.toks ∧ PU κ Φ g Q u s') NoE s := by
  have h1 := storev ok R hx hv h (A := A)
  have hk : Φ.env.kindOf x = some .local := by rw [ok.kinds]; exact beq_iff_eq.mp hl
  rw [storeName_local hk (by rw [ok.kind]; rfl)] at h1 ⊢
  exact makes_nsSet _ _ _ _ _ _ _ _ h1

/-! ## Code that runs where a token has been made -/
noncomputable def SEp (κ : Kap) (e : Expr) (f : W V) : Prop :=
  ∀ Φ, Ctx.Ok κ Φ → ∀ g σ s Q, Rel κ Φ g σ s → 0 < s.toks → f Q σ → wpAny (model κ.P.prog Φ.w) Φ.A (eval e Φ.env) (PE κ Φ g Q) NoE s
noncomputable def SEsp (κ : Kap) (es : List Expr) (f : W (List V)) : Prop :=
  ∀ Φ, Ctx.Ok κ Φ → ∀ pos g σ s Q, Rel κ Φ g σ s → 0 < s.toks → f Q σ → wpAny (model κ.P.prog Φ.w) Φ.A (spliced (backTo pos (starEach es Φ.env))) (PEs κ Φ g Q) NoE s
noncomputable def SSp (κ : Kap) (st : Stmt) (f : W Fl) : Prop :=
  ∀ Φ, Ctx.Ok κ Φ → ∀ g σ s Q, Rel κ Φ g σ s → 0 < s.toks → f Q σ → wpAny (model κ.P.prog Φ.w) Φ.A (exec st Φ.env) (PF κ Φ g Q) NoE s
noncomputable def SBp (κ : Kap) (sts : List Stmt) (f : W Fl) : Prop :=
  ∀ Φ, Ctx.Ok κ Φ → ∀ g σ s Q, Rel κ Φ g σ s → 0 < s.toks → f Q σ → wpAny (model κ.P.prog Φ.w) Φ.A (execs sts Φ.env) (PF κ Φ g Q) NoE s
/-- a test behind whose yes a token has been made -/
noncomputable def STq (κ : Kap) (e : Expr) (f : W Bool) : Prop :=
  ∀ Φ, Ctx.Ok κ Φ → ∀ g σ s Q, Rel κ Φ g σ s → f Q σ → wpAny (model κ.P.prog Φ.w) Φ.A (isTrue e Φ.env (eval e Φ.env)) (fun b s' => (b = true → 0 < s'.toks) ∧ PB κ Φ g Q b s') NoE s
theorem p_of {e : Expr} {f : W V} (h : SE κ e f) : SEp κ e f := fun Φ ok g σ s Q R _ q => h Φ ok g σ s Q R q
theorem pb_of {sts : List Stmt} {f : W Fl} (h : SB κ sts f) : SBp κ sts f := fun Φ ok g σ s Q R _ q => h Φ ok g σ s Q R q
theorem p_cons {st : Stmt} {rest : List Stmt} {f h : W Fl} (hs : SSp κ st f) (hr : SB κ rest h) : SBp κ (st :: rest) (seqF f h) := fun Φ ok g σ s Q R ht q => by
  refine wpAny_execs_cons (wpAny_mono (hs Φ ok g σ s _ R ht q) (fun x s₁ p => ?_) fun _ _ e => e)
  obtain ⟨g₁, fl, σ₁, le₁, R₁, rf, q₁⟩ := p
  cases fl with
  | next => simp only [FlR] at rf; subst rf; exact wPF le₁ (hr Φ ok g₁ σ₁ s₁ _ R₁ q₁)
  | brk => simp only [FlR] at rf; subst rf; exact ⟨g₁, .brk, σ₁, le₁, R₁, by simp only [FlR], q₁⟩
  | cont => simp only [FlR] at rf; subst rf; exact ⟨g₁, .cont, σ₁, le₁, R₁, by simp only [FlR], q₁⟩
  | ret v => simp only [FlR] at rf; obtain ⟨x, rfl, rv⟩ := rf; exact ⟨g₁, .ret v, σ₁, le₁, R₁, by simp only [FlR]; exact ⟨x, rfl, rv⟩, q₁⟩
theorem p_Expr {e : Expr} {pos : Pos} {f : W V} (he : SEp κ e f) (hs : ∀ env, swapsWith e none pos.line env = pure false := by intro _; rfl) : SSp κ (.Expr e pos) (bnd f fun _ => ret .next) := fun Φ ok g σ s Q R ht q => by
  refine wpAny_Expr_any (wpAny_mono (he Φ ok g σ s _ R ht q) (fun x s₁ p => ?_) fun _ _ e => e) (by simp [interactive, ok.kind]) (hs _)
  obtain ⟨g₁, a, σ₁, le₁, R₁, ra, q₁⟩ := p
  exact ⟨g₁, .next, σ₁, le₁, R₁, by simp only [FlR], q₁⟩
theorem p_Assign {x : Str} {k : Nat} {e : Expr} {p pos : Pos} {f : W V} (he : SEp κ e f) (hx : stl κ x k = true) (hs : ∀ env, swapsWith e (some (.Name x p)) pos.line env = pure false := by intro _; rfl) :
    SSp κ (.Assign [.Name x p] e pos) (bnd f fun v => bnd (setv k v) fun _ => ret .next) := fun Φ ok g σ s Q R ht q => by
  refine wpAny_Assign_Name (wpAny_mono (he Φ ok g σ s _ R ht q) (fun x s₁ p => ?_) fun _ _ e => e) (hs _)
  obtain ⟨g₁, a, σ₁, le₁, R₁, ra, q₁⟩ := p
  refine wpAny_mono (storev ok R₁ hx ra q₁) (fun _ s₂ p => ?_) fun _ _ e => e
  obtain ⟨g₂, σ₂, le₂, R₂, q₂⟩ := p
  exact ⟨g₂, .next, σ₂, le₁.trans le₂, R₂, by simp only [FlR], q₂⟩
theorem p_If {t : Expr} {b o : List Stmt} {pos : Pos} {ft : W Bool} {fb fo : W Fl} (ht : ST κ t ft) (hb : SBp κ b fb) (ho : SBp κ o fo) : SSp κ (.If t b o pos) (bnd ft fun c => if c then fb else fo) := fun Φ ok g σ s Q R hz q => by
  refine wpAny_If (wpAny_mono (wpAny_toks (ht Φ ok g σ s _ R q)) (fun c s₁ p => ?_) fun _ _ e => e.2)
  obtain ⟨hle, g₁, σ₁, le₁, R₁, q₁⟩ := p
  have hz1 := Nat.lt_of_lt_of_le hz hle
  cases c with
  | true => exact wPF le₁ (hb Φ ok g₁ σ₁ s₁ _ R₁ hz1 q₁)
  | false => exact wPF le₁ (ho Φ ok g₁ σ₁ s₁ _ R₁ hz1 q₁)
theorem q_If {t : Expr} {b o : List Stmt} {pos : Pos} {ft : W Bool} {fb fo : W Fl} (ht : STq κ t ft) (hb : SBp κ b fb) (ho : SB κ o fo) : SS κ (.If t b o pos) (bnd ft fun c => if c then fb else fo) := fun Φ ok g σ s Q R q => by
  refine wpAny_If (wpAny_mono (ht Φ ok g σ s _ R q) (fun c s₁ p => ?_) fun _ _ e => e)
  obtain ⟨hle, g₁, σ₁, le₁, R₁, q₁⟩ := p
  cases c with
  | true => exact wPF le₁ (hb Φ ok g₁ σ₁ s₁ _ R₁ (hle rfl) q₁)
  | false => exact wPF le₁ (ho Φ ok g₁ σ₁ s₁ _ R₁ q₁)
theorem q_CompareI {l : Expr} {i : Int} {k : Nat} {cp : Pos} {op : CmpOp} {pos : Pos} {f : W V} (hl : SE κ l f) (hm : behindInMarks op (.Constant (.int i) k cp) = false := by rfl) :
    STq κ (.Compare l [op] [.Constant (.int i) k cp] pos) (bnd f fun a => bnd (ret (.int i)) fun b => cmpA op a b) := fun Φ ok g σ s Q R q => by
  refine wpAny_isTrue_Compare1 (wpAny_mono (hl Φ ok g σ s _ R q) (fun x s₁ p => ?_) fun _ _ e => e) hm
  obtain ⟨g₁, a, σ₁, le₁, R₁, ra, q₁⟩ := p
  refine wpAny_Constant_int ?_
  refine wpAny_mono (wpAny_toks (cmp_sound ok (R₁.tok _) ra (b := .int i) (by simp only [VR]; exact ⟨_, rfl⟩) q₁)) (fun z s₃ p => ?_) fun _ _ e => e.2
  obtain ⟨hle, g₃, c, σ₃, le₃, R₃, rc, r, rfl, q₃⟩ := p
  simp only [VR] at rc
  subst rc
  exact wpAny_truthy_bool ⟨fun _ => Nat.lt_of_lt_of_le (Nat.succ_pos _) hle, g₃, σ₃, le₁.trans le₃, R₃, q₃⟩
theorem q_and1 {x : Expr} {pos : Pos} {f : W Bool} (hx : STq κ x f) : STq κ (.BoolOp .And [x] pos) f := fun Φ ok g σ s Q R q => by
  refine isTrue_and (wpAny_mono (hx Φ ok g σ s _ R q) (fun c s₁ p => ?_) fun _ _ e => e)
  cases c with
  | true => exact isTrue_and_nil p
  | false => exact p
theorem q_and {x y : Expr} {rest : List Expr} {pos : Pos} {f h : W Bool} (hx : ST κ x f) (hy : STq κ (.BoolOp .And (y :: rest) pos) h) : STq κ (.BoolOp .And (x :: y :: rest) pos) (bnd f fun b => if b then h else ret false) := fun Φ ok g σ s Q R q => by
  refine isTrue_and (wpAny_mono (hx Φ ok g σ s _ R q) (fun c s₁ p => ?_) fun _ _ e => e)
  obtain ⟨g₁, σ₁, le₁, R₁, q₁⟩ := p
  cases c with
  | true => exact wpAny_mono (hy Φ ok g₁ σ₁ s₁ _ R₁ q₁) (fun _ _ p => ⟨p.1, p.2.le le₁⟩) fun _ _ e => e
  | false => exact ⟨(fun e => by cases e), g₁, σ₁, le₁, R₁, q₁⟩
/-- x = e, and then code that wants a token -/
theorem b_consA {x : Str} {k : Nat} {e : Expr} {p pos : Pos} {f : W V} {rest : List Stmt} {h : W Fl} (he : SE κ e f) (hx : stl κ x k = true) (hl : (κ.names.lookup x == some .local) = true) (hr : SBp κ rest h) (hs : ∀ env, swapsWith e (some (.Name x p)) pos.line env = pure false := by intro _; rfl) :
    SB κ (.Assign [.Name x p] e pos :: rest) (seqF (bnd f fun v => bnd (setv k v) fun _ => ret .next) h) := fun Φ ok g σ s Q R q => by
  refine wpAny_execs_cons (wpAny_Assign_Name (wpAny_mono (he Φ ok g σ s _ R q) (fun x s₁ p => ?_) fun _ _ e => e) (hs _))
  obtain ⟨g₁, a, σ₁, le₁, R₁, ra, q₁⟩ := p
  refine wpAny_mono (storev_pos ok R₁ hx hl ra q₁) (fun _ s₂ p => ?_) fun _ _ e => e
  obtain ⟨hz, g₂, σ₂, le₂, R₂, q₂⟩ := p
  exact wPF (le₁.trans le₂) (hr Φ ok g₂ σ₂ s₂ _ R₂ hz q₂)
theorem ps_cons {e : Expr} {rest : List Expr} {f : W V} {h : W (List V)} (he : SEp κ e f) (hr : SEs κ rest h) (hs : isStarred e = false := by rfl) : SEsp κ (e :: rest) (bnd f fun v => bnd h fun vs => ret (v :: vs)) := fun Φ ok pos g σ s Q R hz q => by
  refine spliced_more ?_ (star_cons hs)
  refine wpAny_mono (he Φ ok g σ s _ R hz q) (fun x s₁ p => ?_) fun _ _ e => e
  obtain ⟨g₁, a, σ₁, le₁, R₁, ra, q₁⟩ := p
  refine wpAny_mono (hr Φ ok pos g₁ σ₁ s₁ _ R₁ q₁) (fun xs s₂ p => ?_) fun _ _ e => e
  obtain ⟨g₂, vs, σ₂, le₂, R₂, rv, q₂⟩ := p
  exact ⟨g₂, a :: vs, σ₂, le₁.trans le₂, R₂, .cons (VR.mono le₂ a ra) rv, q₂⟩
theorem callWith_p {Φ : Ctx} (ok : Ctx.Ok κ Φ) {e0 : Expr} {rest : List Expr} {fa : W (List V)} {fv : Value} {f : List V → List V → W V} (ha : SEsp κ (e0 :: rest) fa) (hf : CalOK κ fv [] f) (hkeep : Keep κ fv)
    (hp : plainArgs (e0 :: rest) = true) {pos : Pos} {g : G} {σ : St} {s : Shared} {Q : V → St → Prop} {ws : List V} {ys : List Value} (R : Rel κ Φ g σ s) (hz : 0 < s.toks) (rw : VRs g ws ys)
    (h : fa (fun vs => f (ws ++ vs) [] Q) σ) :
    wpAny (model κ.P.prog Φ.w) Φ.A (callWith pos fv ys (backTo pos (starEach (e0 :: rest) Φ.env)) (backToKw pos (keywordEach [] Φ.env))) (PE κ Φ g Q) NoE s := by
  refine callWith_of (P := fun h => KeepsH Φ.h₀ h) (by rw [star_plain _ hp, (kw_some [] rfl).2]; rfl) (fun h hh => keep_looks ok hkeep _ h hh) ?_
  have main := ha Φ ok pos g σ s _ R hz h
  simp only [plainArgs, List.all_cons, Bool.and_eq_true, Bool.not_eq_true'] at hp
  rw [star_cons hp.1] at main ⊢
  refine evalArgs_kw (kw_some [] rfl).1 (wpAny_mono main (fun xs s₁ p => kws_nil ?_) fun _ _ e => e)
  obtain ⟨g', vs, σ', le, R', rv, q⟩ := p
  exact ⟨R'.keep, wPE le (hf Φ ok g' σ' s₁ _ _ _ _ Q R' ((VRs.mono le ws rw).append rv) .nil q)⟩
theorem p_Call {x : Str} {p pos : Pos} {e0 : Expr} {rest : List Expr} {fa : W (List V)} {fv : Value} {f : List V → List V → W V} (hx : gbl κ x fv = true) (ha : SEsp κ (e0 :: rest) fa) (hf : CalOK κ fv [] f) (hkeep : Keep κ fv)
    (hp : plainArgs (e0 :: rest) = true := by rfl) : SEp κ (.Call (.Name x p) (e0 :: rest) [] pos) (bnd fa fun vs => f vs []) := fun Φ ok g σ s Q R hz q => by
  refine wpAny_Call_Name_kw (wpAny_mono (wpAny_toks (r_Glob (pos := p) hx Φ ok g σ s (fun v σ' => v = .glob fv ∧ σ' = σ) R ⟨rfl, rfl⟩)) (fun y s₁ h => ?_) fun _ _ e => e.2)
  obtain ⟨hle, g₁, a, σ₁, le₁, R₁, ra, rfl, rfl⟩ := h
  simp only [VR] at ra
  subst ra
  exact wPE le₁ (callWith_p ok ha hf hkeep hp R₁ (Nat.lt_of_lt_of_le hz hle) .nil q)
theorem p_Meth {o : Expr} {name : Str} {apos pos : Pos} {e0 : Expr} {rest : List Expr} {fo : W V} {fa : W (List V)} {fv : Value} {gd : V → St → Prop} {f : List V → List V → W V}
    (ho : SE κ o fo) (hm : MethOK κ name fv gd) (ha : SEsp κ (e0 :: rest) fa) (hf : CalOK κ fv [] f) (hkeep : Keep κ fv)
    (hbase : ∀ env whole, attributeBase o name env whole = whole := by intro _ _; rfl) (hline : (apos.endLine == pos.line) = true := by rfl)
    (hp : plainArgs (e0 :: rest) = true := by rfl) (hn : decide ((e0 :: rest).length + ([] : List Keyword).length + 0 < 30) = true := by rfl) :
    SEp κ (.Call (.Attribute o name apos) (e0 :: rest) [] pos) (bnd fo fun v => gdW (gd v) (bnd fa fun vs => f (v :: vs) [])) := fun Φ ok g σ s Q R hz q => by
  rw [arm_eval_Call, hbase]
  refine wpAny_bind (wpAny_mono (wpAny_toks (ho Φ ok g σ s _ R q)) (fun x s₁ p => ?_) fun _ _ e => e.2)
  obtain ⟨hle, g₁, v, σ₁, le₁, R₁, rv, hg, q₁⟩ := p
  refine wpAny_bind (wpAny_standAt ?_)
  have hpos : methodCallPos true o Φ.env apos pos = pure pos := by unfold methodCallPos; simp [hline]
  unfold methodCall
  rw [meth_form (o := o) hp rfl hn]
  refine wpAny_bind (wpAny_holding (hm Φ ok g₁ σ₁ s₁ v x _ _ R₁ rv hg ?_))
  refine wpAny_bind (wpAny_of_eq hpos ?_)
  exact wPE le₁ (callWith_p ok ha hf hkeep hp R₁ (Nat.lt_of_lt_of_le hz hle) (.one rv) q₁)
/-! ### o.replace('..', '..') -/
noncomputable def replW (y z : Str) (v : V) : W V := fun Q σ => match v with
  | .str x => x.length ≤ 1048576 ∧ (y == z) = false ∧ z.length ≤ 14 ∧ Q (.str (Txt.replace x y z)) σ
  | _ => False
set_option tactic.hygienic true in
theorem p_Repl {o : Expr} {y z : Str} {k1 k2 : Nat} {p1 p2 apos pos : Pos} {fo : W V} (ho : SEp κ o fo) (hbase : ∀ env whole, attributeBase o "replace" env whole = whole := by intro _ _; rfl) (hline : (apos.endLine == pos.line) = true := by rfl) :
    SEp κ (.Call (.Attribute o "replace" apos) [.Constant (.str y) k1 p1, .Constant (.str z) k2 p2] [] pos) (bnd fo (replW y z)) := fun Φ ok g σ s Q R hz q => by
  rw [arm_eval_Call, hbase]
  refine wpAny_bind (wpAny_mono (wpAny_toks (ho Φ ok g σ s _ R hz q)) (fun x s₁ p => ?_) fun _ _ e => e.2)
  obtain ⟨hle, g₁, v, σ₁, le₁, R₁, rv, q₁⟩ := p
  have hz1 := Nat.lt_of_lt_of_le hz hle
  refine wpAny_bind (wpAny_standAt ?_)
  have hpos : methodCallPos true o Φ.env apos pos = pure pos := by unfold methodCallPos; simp [hline]
  unfold methodCall
  rw [meth_form (o := o) (args := [.Constant (.str y) k1 p1, .Constant (.str z) k2 p2]) (ks := []) rfl rfl rfl]
  have q₁ : replW y z v Q σ₁ := q₁
  unfold replW at q₁
  split at q₁
  · rename_i xx _
    obtain ⟨b1, b2, b3, q₁⟩ := q₁
    simp only [VR] at rv
    obtain ⟨t, rfl⟩ := rv
    refine wpAny_bind (wpAny_holding ((meth_str (κ := κ) F.slot_str_replace F.type_str_replace) Φ ok g₁ σ₁ s₁ (.str xx) _ _ _ R₁ (by simp only [VR]; exact ⟨_, rfl⟩) trivial ?_))
    refine wpAny_bind (wpAny_of_eq hpos ?_)
    refine callWith_of (P := fun h => KeepsH Φ.h₀ h) rfl (fun h hh => keep_looks ok keep_builtin _ h hh) ?_
    have main : wpAny (model κ.P.prog Φ.w) Φ.A (spliced (backTo pos (starEach [.Constant (.str y) k1 p1, .Constant (.str z) k2 p2] Φ.env))) (fun xs s₂ => xs = [.str y s₁.toks, .str z (s₁.toks + 1)] ∧ Rel κ Φ g₁ σ₁ s₂) NoE s₁ :=
      spliced_more (wpAny_Constant_str (spliced_more (wpAny_Constant_str (s := { s₁ with toks := s₁.toks + 1 }) (spliced_none ⟨rfl, R₁.tok _⟩)) rfl)) rfl
    rw [star_cons rfl] at main ⊢
    refine evalArgs_kw (kw_some [] rfl).1 (wpAny_mono main (fun xs s₂ p => kws_nil ?_) fun _ _ e => e)
    obtain ⟨rfl, R₂⟩ := p
    have hne : s₁.toks ≠ s₁.toks + 1 := Nat.ne_of_lt (Nat.lt_succ_self _)
    exact ⟨R₂.keep, SC.replaceW (Nat.ne_of_gt hz1) (Nat.succ_ne_zero _) hne b2 b1 b3 fun t' k => ⟨g₁, .str _, σ₁, le₁, R₂.tok _, by simp only [VR]; exact ⟨_, rfl⟩, q₁⟩⟩
  · exact q₁.elim
end
end Mine

open PySem PySem.W PyProof.Rows PySem.Calls
set_option Elab.async false
set_option maxRecDepth 100000
set_option linter.unusedVariables false
set_option linter.unusedSimpArgs false

namespace Mine
section
variable {κ : Kap}
/-! ## a = b = .. = e -/
noncomputable def setAll : List (V → W Unit) → V → W Unit
  | [], _ => ret ()
  | f :: fs, v => bnd (f v) fun _ => setAll fs v
noncomputable def SAll (κ : Kap) (ts : List Expr) (fs : List (V → W Unit)) : Prop :=
  ∀ Φ, Ctx.Ok κ Φ → ∀ g σ s Q v x, Rel κ Φ g σ s → VR g v x → setAll fs v Q σ → wpAny (model κ.P.prog Φ.w) Φ.A (assignAll x ((assignEach ts Φ.env).map (·.2))) (PU κ Φ g Q) NoE s
theorem each_cons {t : Expr} {ts : List Expr} {env : Env} (h : isStarred t = false) : (assignEach (t :: ts) env).map (·.2) = assign t env :: (assignEach ts env).map (·.2) := by cases t <;> first | rfl | cases h
theorem sal_one {t : Expr} {f : V → W Unit} (ht : SA κ t f) (hst : isStarred t = false := by rfl) : SAll κ [t] [f] := fun Φ ok g σ s Q v x R rv q => by
  rw [each_cons hst]
  exact ht Φ ok g σ s Q v x R rv q
theorem sal_cons {t u : Expr} {ts : List Expr} {f : V → W Unit} {fs : List (V → W Unit)} (ht : SA κ t f) (hr : SAll κ (u :: ts) fs) (hst : isStarred t = false := by rfl) (hsu : isStarred u = false := by rfl) : SAll κ (t :: u :: ts) (f :: fs) := fun Φ ok g σ s Q v x R rv q => by
  have hr' := fun g σ s Q R rv q => hr Φ ok g σ s Q v x R rv q
  rw [each_cons hsu] at hr'
  rw [each_cons hst, each_cons hsu]
  refine wpAny_bind (wpAny_holding (wpAny_mono (ht Φ ok g σ s _ v x R rv q) (fun _ s₁ p => ?_) fun _ _ e => e))
  obtain ⟨g₁, σ₁, le₁, R₁, q₁⟩ := p
  exact wPU le₁ (hr' g₁ σ₁ s₁ Q R₁ (VR.mono le₁ v rv) q₁)
theorem s_AssignM {ts : List Expr} {e : Expr} {pos : Pos} {f : W V} {fs : List (V → W Unit)} (he : SE κ e f) (ht : SAll κ ts fs) (hs : ∀ env, swapsWithSole ts e pos.line env = pure false := by intro _; rfl)
    (hw : ∀ env, swappedStores ts e env = pure none := by intro _; rfl) : SS κ (.Assign ts e pos) (bnd f fun v => bnd (setAll fs v) fun _ => ret .next) := fun Φ ok g σ s Q R q => by
  refine wpAny_Assign_stores (wpAny_mono (he Φ ok g σ s _ R q) (fun y s₁ p => ?_) fun _ _ e => e) (hs _) (hw _)
  obtain ⟨g₁, a, σ₁, le₁, R₁, ra, q₁⟩ := p
  refine wpAny_mono (ht Φ ok g₁ σ₁ s₁ _ a y R₁ ra q₁) (fun _ s₂ p => ?_) fun _ _ e => e
  obtain ⟨g₂, σ₂, le₂, R₂, q₂⟩ := p
  exact ⟨g₂, .next, σ₂, le₁.trans le₂, R₂, by simp only [FlR], q₂⟩
/-! ## xs * n as a list that may change -/
noncomputable def mulT (a b : V) : W V := fun Q σ => match b with
  | .int n => (match seqOf σ.objs a with
    | some l => 0 ≤ n ∧ l.length * n.toNat ≤ 256 ∧ n < 1000 ∧ Q (.ref σ.objs.length) { σ with objs := σ.objs ++ [.list (List.replicate n.toNat l).flatten] }
    | none => False)
  | _ => False
set_option tactic.hygienic true in
theorem r_MulLT {l r : Expr} {pos : Pos} {f h : W V} (hl : SE κ l f) (hr : SE κ r h) : SE κ (.BinOp l .Mult r pos) (bnd f fun a => bnd h fun b => mulT a b) := fun Φ ok g σ s Q R q => by
  refine wpAny_BinOp (wpAny_mono (hl Φ ok g σ s _ R q) (fun x s₁ p => ?_) fun _ _ e => e)
  obtain ⟨g₁, a, σ₁, le₁, R₁, ra, q₁⟩ := p
  refine wpAny_mono (hr Φ ok g₁ σ₁ s₁ _ R₁ q₁) (fun y s₂ p => ?_) fun _ _ e => e
  obtain ⟨g₂, b, σ₂, le₂, R₂, rb, q₂⟩ := p
  refine wPE (le₁.trans le₂) ?_
  have ra := VR.mono le₂ a ra
  have q₂ : mulT a b Q σ₂ := q₂
  unfold mulT at q₂
  split at q₂
  · rename_i n _
    split at q₂
    · rename_i l hl
      obtain ⟨h0, hsz, hn, q₂⟩ := q₂
      simp only [VR] at rb
      obtain ⟨u, rfl⟩ := rb
      obtain ⟨a1, xs, k, rfl, h1, h2⟩ := R₂.seq_at ra hl
      obtain ⟨mm, news, F, N, back, kn⟩ := R₂.ledgerK ok.above
      refine KMa.mul F N (isList_of h1) (by omega) (by omega) (by rw [h2.length]; exact hsz) rfl fun D h' F' N' hlt => ?_
      have R' := back h' s₂.toks F' (ntail N')
      have hD := N' _ (.head _)
      have hnk : ¬ Known Φ g₂ D := fun kb => by
        rcases kn D kb with e | e | ⟨o, e⟩
        · exact hD.2.1 e
        · rw [hD.2.2] at e; cases e
        · exact absurd (hlt _ e) (Nat.lt_irrefl _)
      obtain ⟨R3, le3⟩ := R'.track (o := .list (List.replicate n.toNat l).flatten) hD.1 hnk ⟨_, _, rfl, vrs_flat h2 _⟩
      refine ⟨_, .ref σ₂.objs.length, _, le3, R3, ?_, q₂⟩
      simp only [VR]
      exact ⟨D, rfl, by rw [← R₂.tr.1]; simp⟩
    · exact q₂.elim
  · exact q₂.elim
/-! ## '%s="%s"' % (a, b), which the compiler has made a joined text -/
noncomputable def fmtW (v : V) : W V := fun Q σ => match v with
  | .str x => x.length ≤ sizeLine ∧ Q (.str x) σ
  | _ => False
theorem r_Fmt {value : Expr} {pos : Pos} {f : W V} (hv : SE κ value f) : SE κ (.FormattedValue value 115 none pos) (bnd f fmtW) := fun Φ ok g σ s Q R q => by
  rw [arm_eval_FormattedValue]
  refine wpAny_bind (wpAny_mono (hv Φ ok g σ s _ R q) (fun x s₁ p => ?_) fun _ _ e => e)
  obtain ⟨g₁, v, σ₁, le₁, R₁, rv, q₁⟩ := p
  have q₁ : fmtW v Q σ₁ := q₁
  unfold fmtW at q₁
  split at q₁
  · obtain ⟨hz, q₁⟩ := q₁
    simp only [VR] at rv
    obtain ⟨t, rfl⟩ := rv
    refine wpAny_bind (wpAny_standAt ?_)
    have fin : ∀ t tk, PE κ Φ g Q (.str _ t) { s₁ with toks := tk } := fun t tk => ⟨g₁, .str _, σ₁, le₁, R₁.tok _, by simp only [VR]; exact ⟨_, rfl⟩, q₁⟩
    have two : ∀ t tk, wpAny (model κ.P.prog Φ.w) Φ.A (formatted pos (.str _ t) (evalOpt none Φ.env)) (PE κ Φ g Q) NoE { s₁ with toks := tk } := fun t tk => wpAny_formatField_str (fin _ _) (fin _ _) hz
    exact wpAny_bind (wpAny_holding (wpAny_habitSame_str (two _ _) (two _ _) hz))
  · exact q₁.elim
noncomputable def joinW : List (W V) → Str → W V
  | [], acc => fun Q σ => acc.length ≤ sizeLine ∧ Q (.str acc) σ
  | f :: fs, acc => fun Q σ => f (fun v σ' => ∃ y, v = .str y ∧ (acc ++ y).length ≤ sizeLine ∧ joinW fs (acc ++ y) Q σ') σ
noncomputable def SJ (κ : Kap) : List Expr → List (W V) → Prop
  | [], [] => True
  | e :: es, f :: fs => SE κ e f ∧ SJ κ es fs
  | _, _ => False
theorem j_nil : SJ κ [] [] := trivial
theorem j_cons {e : Expr} {es : List Expr} {f : W V} {fs : List (W V)} (h : SE κ e f) (hr : SJ κ es fs) : SJ κ (e :: es) (f :: fs) := ⟨h, hr⟩
theorem join_sound {Φ : Ctx} (ok : Ctx.Ok κ Φ) {Q : V → St → Prop} {g₀ : G} : ∀ (es : List Expr) (fs : List (W V)) (acc : Str) (g : G) (σ : St) (s : Shared), SJ κ es fs → g₀.le g → Rel κ Φ g σ s → joinW fs acc Q σ →
    Joins (model κ.P.prog Φ.w) Φ.A NoE (evalEach es Φ.env) acc (fun out s₁ => out.length ≤ sizeLine ∧ PE κ Φ g₀ Q (.str out s₁.toks) { s₁ with toks := s₁.toks + 1 }) s
  | [], [], acc, g, σ, s, _, le, R, q => ⟨q.1, g, .str acc, σ, le, R.tok _, by simp only [VR]; exact ⟨_, rfl⟩, q.2⟩
  | e :: es, f :: fs, acc, g, σ, s, h, le, R, q => by
    refine wpAny_mono (h.1 Φ ok g σ s _ R q) (fun x s₁ p => ?_) fun _ _ e => e
    obtain ⟨g₁, v, σ₁, le₁, R₁, rv, y, rfl, hz, q₁⟩ := p
    simp only [VR] at rv
    obtain ⟨t, rfl⟩ := rv
    exact ⟨y, t, rfl, hz, join_sound ok es fs _ g₁ σ₁ s₁ h.2 (le.trans le₁) R₁ q₁⟩
  | [], _ :: _, _, _, _, _, h, _, _, _ => h.elim
  | _ :: _, [], _, _, _, _, h, _, _, _ => h.elim
theorem r_Joined {e1 e2 : Expr} {es : List Expr} {fs : List (W V)} {pos : Pos} (h : SJ κ (e1 :: e2 :: es) fs) : SE κ (.JoinedStr (e1 :: e2 :: es) pos) (joinW fs Str.empty) := fun Φ ok g σ s Q R q =>
  wpAny_JoinedStr (join_sound ok _ fs _ g σ s h (.refl g) R q)
end
/-! ## replace, plainly -/
noncomputable def rep (c : Nat) (z l : List Nat) : List Nat := l.flatMap fun k => if k = c then z else [k]
theorem rep_append (c : Nat) (z a b : List Nat) : rep c z (a ++ b) = rep c z a ++ rep c z b := by simp [rep]
theorem rep_free (c : Nat) (z : List Nat) : ∀ l : List Nat, c ∉ l → rep c z l = l
  | [], _ => rfl
  | k :: r, h => by
    have h1 : ¬ k = c := fun e => h (e ▸ List.mem_cons_self ..)
    have h2 : c ∉ r := fun m => h (List.mem_cons_of_mem _ m)
    have := rep_free c z r h2
    unfold rep at this ⊢
    rw [List.flatMap_cons, if_neg h1, this]; rfl
theorem rep_one (c : Nat) (z : List Nat) : rep c z [c] = z := by simp [rep]
theorem rep_join (c : Nat) (z : List Nat) : ∀ parts : List Str, (∀ p ∈ parts, c ∉ p.cps.toList) → rep c z (Str.join ⟨#[c]⟩ parts).cps.toList = (Str.join (S z) parts).cps.toList
  | [], _ => rfl
  | [p], h => rep_free c z _ (h p (List.mem_singleton.mpr rfl))
  | p :: q :: r, h => by
    have ih := rep_join c z (q :: r) fun a ha => h a (List.mem_cons_of_mem _ ha)
    show rep c z (p ++ ⟨#[c]⟩ ++ Str.join ⟨#[c]⟩ (q :: r)).cps.toList = (p ++ S z ++ Str.join (S z) (q :: r)).cps.toList
    simp only [Str.cps_append, Array.toList_append]
    rw [rep_append, rep_append, ih, rep_free c z _ (h p (List.mem_cons_self ..))]
    show p.cps.toList ++ rep c z [c] ++ _ = _
    rw [rep_one]
theorem replace_S (l : List Nat) (c : Nat) (z : List Nat) : Txt.replace (S l) ⟨#[c]⟩ (S z) = S (rep c z l) := by
  have h : (Txt.replace (S l) ⟨#[c]⟩ (S z)).cps.toList = rep c z l := by
    rw [StrLaws.replace_one, ← rep_join c z _ (StrLaws.split_free (S l) c), StrLaws.join_split]
  rw [str_S (Txt.replace (S l) ⟨#[c]⟩ (S z)), h]
end Mine
/-! ## steps whose side conditions are found by themselves (short: a rule that names them costs the compiled file little) -/
namespace Mine
section
variable {α : Type} {loc loc' : List (Option V)} {objs : List O} {σ : St}
theorem gv {k : Nat} {v : V} {Q : V → St → Prop} (h : Q v ⟨loc, objs⟩) (e : lget loc k = some v := by with_unfolding_all rfl) : getv k Q ⟨loc, objs⟩ := getv_i e h
theorem sv {k : Nat} {v : V} {Q : Unit → St → Prop} (h : Q () ⟨loc', objs⟩) (hk : decide (k < loc.length) = true := by with_unfolding_all rfl) (e : lset loc k v = loc' := by simp only [Mine.lset]; rfl) : setv k v Q ⟨loc, objs⟩ := setv_i hk e h
theorem tt {n : Nat} {h : List V → W Unit} {l : List V} {Q : Unit → St → Prop} (q : h l Q σ) (hn : l.length = n := by with_unfolding_all rfl) : tupT n h (.tup l) Q σ := ⟨hn, q⟩
theorem jt {c : Bool} {f g : W α} {Q : α → St → Prop} (h : f Q σ) (hc : c = true := by with_unfolding_all rfl) : (if c = true then f else g) Q σ := if_t hc h
theorem jf {c : Bool} {f g : W α} {Q : α → St → Prop} (h : g Q σ) (hc : c = false := by with_unfolding_all rfl) : (if c = true then f else g) Q σ := if_f hc h
theorem pt {c : Bool} {p q : Prop} (h : p) (hc : c = true := by with_unfolding_all rfl) : if c = true then p else q := ifp_t hc h
theorem pf {c : Bool} {p q : Prop} (h : q) (hc : c = false := by with_unfolding_all rfl) : if c = true then p else q := ifp_f hc h
theorem fw {n m : Nat} {spec : Spec} {vs kvs : List V} {Q : V → St → Prop} (h : spec vs kvs objs fun v objs' => Q v ⟨loc, objs'⟩) (h1 : vs.length = n := by with_unfolding_all rfl) (h2 : kvs.length = m := by with_unfolding_all rfl) : fnW n m spec vs kvs Q ⟨loc, objs⟩ := ⟨h1, h2, h⟩
theorem gd {p : St → Prop} {f : W α} {Q : α → St → Prop} (h : f Q σ) (hp : p σ := by with_unfolding_all exact trivial) : gdW p f Q σ := ⟨hp, h⟩
theorem tu {l : List V} {Q : V → St → Prop} (h : Q (.tup l) σ) (hl : l.length ≤ sizeLine := by simp only [List.length]; decide) : tupW l Q σ := ⟨hl, h⟩
theorem ls {l : List V} {Q : V → St → Prop} (h : Q (.lst l) σ) (hl : l.length ≤ sizeLine := by simp only [List.length]; decide) : lstW l Q σ := ⟨hl, h⟩
theorem rf {l : List V} {Q : V → St → Prop} (h : Q (.ref objs.length) ⟨loc, objs ++ [.list l]⟩) (hl : l.length ≤ sizeLine := by simp only [List.length]; decide) : refW l Q ⟨loc, objs⟩ := ⟨hl, h⟩
theorem md {i j : Int} {Q : V → St → Prop} (h : Q (.int (i.fmod j)) σ) (hj : j ≠ 0 := by decide) : binA .Mod (.int i) (.int j) Q σ := ⟨hj, h⟩
theorem dv {i j : Int} {Q : V → St → Prop} (h : Q (.int (i.fdiv j)) σ) (hj : j ≠ 0 ∧ j.natAbs < 1000 := by decide) : binA .FloorDiv (.int i) (.int j) Q σ := ⟨hj, h⟩
end
end Mine

open PySem PySem.W PyProof.Rows
set_option Elab.async false
set_option maxRecDepth 100000
set_option maxHeartbeats 8000000
open_top hd for PySem.Challenge.rw_dn0263_06

noncomputable def Mine.glob : List (PySem.Str × PySem.Value) := [("_name_disallowed_re", .ref 41), ("_value_disallowed_re", .ref 46), ("Headers", .ref 175), ("_law_sign", .ref 186), ("_law_door", .ref 193), ("_formatparam", .ref 54), ("tspecials", .ref 36), ("len", .builtin "len"), ("str", .type "str"), ("list", .type "list"), ("type", .type "type"), ("range", .type "range"), ("ord", .builtin "ord"), ("chr", .builtin "chr"), ("ValueError", .type "ValueError"), ("TypeError", .type "TypeError")]
open PySem PySem.W PyProof.Rows PySem.Calls
set_option Elab.async false
set_option maxRecDepth 100000
set_option maxHeartbeats 4000000
set_option linter.unusedVariables false
set_option linter.unusedSimpArgs false
local macro_rules | `(tactic| walk_at "mine gn") => do let xs := ("bnd_i ret_i gv sv boolV_i tt tgts_i tgtN_i add_i sub_i md dv int_i lst_i' itm_s comp_i tr_b is_n isnt_n jt jf fw gd tu ls rf pt pf".splitOn " ").toArray.map fun s => Lean.mkIdent (.str `Mine s); `(tactic| repeat with_reducible (first $[| refine $xs:ident ?_]*))
local macro_rules | `(tactic| walk_at "mine go") => do let xs := ("bnd_i ret_i gv sv seqF_i boolV_i tt tgts_i tgtN_i add_i sub_i md dv int_i lst_i' itm_s comp_i tr_b is_n isnt_n jt jf fw gd tu ls rf pt pf".splitOn " ").toArray.map fun s => Lean.mkIdent (.str `Mine s); `(tactic| repeat with_reducible (first $[| refine $xs:ident ?_]*))

namespace Mine
noncomputable def fdO (a : Addr) : Option FuncData := ((hd.heap_39 q0).lookup a).bind objFd
noncomputable def PG : Prg := ⟨PySem.Challenge.rw_dn0263_06.row.prog, hd.heap_39, glob⟩
noncomputable abbrev C : Nat := 175

theorem at_headers : AttrIs PG C "_headers" := ⟨fun q => by kernel_rfl, fun q => by kernel_rfl, fun q => by kernel_rfl⟩
theorem se_headers : SetIs PG C "_headers" := ⟨fun q => by kernel_rfl, fun q => by kernel_rfl, fun q => by kernel_rfl, fun q => by kernel_rfl⟩
theorem me_conv : MethIs PG C "_convert_string_type" 76 := ⟨fun q => by kernel_rfl, fun q => by kernel_rfl, fun q => by kernel_rfl⟩
theorem me_get : MethIs PG C "get" 122 := ⟨fun q => by kernel_rfl, fun q => by kernel_rfl, fun q => by kernel_rfl⟩
theorem me_items : MethIs PG C "items" 139 := ⟨fun q => by kernel_rfl, fun q => by kernel_rfl, fun q => by kernel_rfl⟩
theorem sp_getitem : SpecIs PG C "__getitem__" 102 := ⟨fun q => by kernel_rfl, fun q => by kernel_rfl, fun q => by kernel_rfl, fun q => by kernel_rfl⟩
theorem sp_setitem : SpecIs PG C "__setitem__" 90 := ⟨fun q => by kernel_rfl, fun q => by kernel_rfl, fun q => by kernel_rfl, fun q => by kernel_rfl⟩
theorem sp_delitem : SpecIs PG C "__delitem__" 95 := ⟨fun q => by kernel_rfl, fun q => by kernel_rfl, fun q => by kernel_rfl, fun q => by kernel_rfl⟩
theorem cls_is : ClsIs PG C 69 := ⟨fun q => by kernel_rfl, fun q => by kernel_rfl, fun q => by kernel_rfl, fun q => by kernel_rfl⟩
theorem rxN : RxIs PG 41 codeN := ⟨fun q => ⟨_, _, _, _, _, _, _, rfl, rfl, by kernel_rfl⟩, by kernel_rfl⟩
theorem rxV : RxIs PG 46 codeV := ⟨fun q => ⟨_, _, _, _, _, _, _, rfl, rfl, by kernel_rfl⟩, by kernel_rfl⟩

noncomputable def fd_conv : FuncData := (fdO 76).get (by decide +kernel)
theorem is_conv : FnIs PG 76 fd_conv (stmtsOf fd_conv.body) ["self", "value", "name", "regex"] ["self", "value", "name"] := by
  refine ⟨fun q => fnAt_of (by kernel_rfl), fun q => by kernel_rfl, by kernel_rfl, by kernel_rfl, by kernel_rfl, by kernel_rfl, by kernel_rfl, by kernel_rfl, by kernel_rfl, ?_, ?_, ?_⟩ <;> decide +kernel
noncomputable def spec_conv : Spec := fun vs kvs objs Q => ∃ v x b, vs = [v, .str x] ∧ kvs = [.bool b] ∧ (if b = true then okN x else okV x) ∧ Q (.str x) objs
theorem meth_rx2 {κ : Kap} (h : κ.P = PG) : MethOK κ "search" (.builtin "re.Pattern.search") (fun v σ => isRx 41 v σ ∨ isRx 46 v σ) := meth_or (meth_rx (h ▸ rxN)) (meth_rx (h ▸ rxV))
theorem cal_rx2 {κ : Kap} (h : κ.P = PG) : CalOK κ (.builtin "re.Pattern.search") [] (fun vs kvs Q σ => rxA 41 codeN vs kvs Q σ ∨ rxA 46 codeV vs kvs Q σ) := cal_or (cal_rx (h ▸ rxN)) (cal_rx (h ▸ rxV))
theorem ok_conv : FnOK PG 1 76 2 ["name"] spec_conv := by
  refine fn_ok (full := fun vs kvs => vs ++ kvs) is_conv (b_cons (s_If (t_Compare (r_Call (by kernel_rfl) (rs_cons (r_Name (k := 1) (by kernel_rfl)) rs_nil) rk_nil cal_type keep_type) (r_Glob (v := .type "str") (by kernel_rfl))) (b_cons (s_Assign (k := 3) (r_IfExp (t_plain (r_Name (k := 2) (by kernel_rfl))) (r_Glob (v := .ref 41) (by kernel_rfl)) (r_Glob (v := .ref 46) (by kernel_rfl))) (by kernel_rfl)) (b_cons (s_If (t_plain (r_Meth (r_Name (k := 3) (by kernel_rfl)) (meth_rx2 rfl) (rs_cons (r_Name (k := 1) (by kernel_rfl)) rs_nil) rk_nil (cal_rx2 rfl) keep_builtin)) b_dead b_nil) (b_cons (s_Return (r_Name (k := 1) (by kernel_rfl))) b_nil))) b_nil) b_dead) ?_ ?_
  · intro q s xs kxs X h1 h2
    obtain ⟨a, b, rfl⟩ := len2 h1
    obtain ⟨c, rfl⟩ := len1 h2
    exact ⟨[a, b, c], kp_binds X (fun _ => by kernel_rfl), fun g vs kvs rv rk => rv.append rk⟩
  · intro vs kvs objs Q h1 h2 h
    obtain ⟨v, x, b, rfl, rfl, hx, hQ⟩ := h
    rw [show initLoc ["self", "value", "name", "regex"] ["self", "value", "name"] ([v, .str x] ++ [.bool b]) = [some v, some (.str x), some (.bool b), none] from by kernel_rfl]
    cases b
    · simp only [Bool.false_eq_true, if_false] at hx
      simp [seqF, bnd, ret, getv, setv, gdW, lget, lset, cmpA, eqA, isA, isN, retQ, truthA, attrA, attrAt, handed, itemsW, seqOf, tupT, tgts, tgtN, nrm, veq, typeA, isRx, rxA]
      exact ⟨by rw [sizeLine_eq]; have := hx.1; omega, clearV hx.2, hQ⟩
    · simp only [if_true] at hx
      simp [seqF, bnd, ret, getv, setv, gdW, lget, lset, cmpA, eqA, isA, isN, retQ, truthA, attrA, attrAt, handed, itemsW, seqOf, tupT, tgts, tgtN, nrm, veq, typeA, isRx, rxA]
      exact ⟨by rw [sizeLine_eq]; have := hx.1; omega, clearN hx.2, hQ⟩

theorem conv_i {v : V} {x : Str} {b : Bool} {objs : List O} {Q : V → List O → Prop} (h : if b = true then okN x else okV x) (q : Q (.str x) objs) : spec_conv [v, .str x] [.bool b] objs Q := ⟨v, x, b, rfl, rfl, h, q⟩
noncomputable def fd_get : FuncData := (fdO 122).get (by decide +kernel)
theorem is_get : FnIs PG 122 fd_get (stmtsOf fd_get.body) ["self", "name", "default", "k", "v"] ["self", "name", "default"] := by
  refine ⟨fun q => fnAt_of (by kernel_rfl), fun q => by kernel_rfl, by kernel_rfl, by kernel_rfl, by kernel_rfl, by kernel_rfl, by kernel_rfl, by kernel_rfl, by kernel_rfl, ?_, ?_, ?_⟩ <;> decide +kernel
theorem low_ok {x : Str} (h : okK x) : x.length ≤ 5592405 := Nat.le_trans h.1.1 (by decide)
theorem attr_j {i j : Nat} {loc : List (Option V)} {objs : List O} {Q : V → St → Prop} {l : List V} (h : TB objs i j l) (q : Q (.ref j) ⟨loc, objs⟩) : attrA C "_headers" (.inst C i) Q ⟨loc, objs⟩ := by
  unfold attrA
  refine ⟨rfl, ?_⟩
  have : attrAt objs i "_headers" = some (.ref j) := by unfold attrAt; rw [h.1]; rfl
  simp only [this]
  exact ⟨rfl, q⟩
theorem noKey_j {i j : Nat} {objs : List O} {l : List V} {x : Str} {loc : List (Option V)} (h : TB objs i j l) (hx : (x == ("_headers" : Str)) = false) : isInst C x (.inst C i) ⟨loc, objs⟩ :=
  ⟨rfl, _, h.1, by simp only [List.lookup_cons, hx]; rfl⟩
theorem type_j {j : Nat} {l : List V} {kvs : List V} {loc : List (Option V)} {objs : List O} {Q : V → St → Prop} (hl : lstAt objs j = some l) (h : Q (.glob (.type "list")) ⟨loc, objs⟩) : typeA [.ref j] kvs Q ⟨loc, objs⟩ := by
  unfold typeA
  have : seqOf objs (.ref j) = some l := hl
  simp only [this]; exact h
theorem isnt_j {t u : String} {Q : Bool → St → Prop} {σ : St} (h : Q (!(u == t)) σ) : cmpA .IsNot (.glob (.type u)) (.glob (.type t)) Q σ := h
theorem setAttr_j {i : Nat} {x : Str} {v : V} {loc : List (Option V)} {objs : List O} {Q : Unit → St → Prop} (hi : objs[i]? = some (.attrs [])) (h : Q () ⟨loc, objs.set i (.attrs [(x, v)])⟩) : setAttrA C x v (.inst C i) Q ⟨loc, objs⟩ := ⟨rfl, hi, h⟩
theorem unp_pr {p : Str × Str} {h : List V → W Unit} {Q : Unit → St → Prop} {σ : St} (q : h [.str p.1, .str p.2] Q σ) : tupT 2 h (prV p) Q σ := ⟨rfl, q⟩
theorem sub0_pr {p : Str × Str} {Q : V → St → Prop} {σ : St} (q : Q (.str p.1) σ) : subA (prV p) (.int 0) Q σ := sub_t (l := [.str p.1, .str p.2]) (by decide) rfl q
theorem sub1_pr {p : Str × Str} {Q : V → St → Prop} {σ : St} (q : Q (.str p.2) σ) : subA (prV p) (.int 1) Q σ := sub_t (l := [.str p.1, .str p.2]) (by decide) rfl q
theorem le1k {n : Nat} (h : n ≤ 1000) : n ≤ sizeLine := Nat.le_trans h (by decide)
theorem lm1k {L : List (Str × Str)} (h : L.length ≤ 1000) : (L.map prV).length ≤ sizeLine := by rw [List.length_map]; exact le1k h
noncomputable def spec_getD : Spec := fun vs kvs objs Q => ∃ (i j : Nat) (L : List (Str × Str)) (x : Str) (d : V), vs = [.inst C i, .str x, d] ∧ TB objs i j (L.map prV) ∧ Tab L ∧ okK x ∧ Q (match L.find? (same x) with | some p => .str p.2 | none => d) objs
theorem get_body : ∃ fb, SB ⟨PG, fd_get.scope.names, ["self", "name", "default", "k", "v"], 2, true⟩ (stmtsOf fd_get.body) fb ∧ ∀ vs objs Q, spec_getD vs [] objs Q → fb (retQ Q) ⟨initLoc ["self", "name", "default", "k", "v"] ["self", "name", "default"] vs, objs⟩ := by
  refine ⟨_, (b_cons (s_Assign (k := 1) (r_Meth (r_Name (k := 0) (by kernel_rfl)) (meth_inst me_conv) (rs_cons (r_Meth (r_Name (k := 1) (by kernel_rfl)) (meth_str F.slot_str_lower F.type_str_lower) rs_nil rk_nil cal_lower keep_builtin) rs_nil) (rk_cons r_bool rk_nil) (cal_fn ok_conv (by decide)) (.inr fun q => by kernel_rfl)) (by kernel_rfl)) (b_cons (s_For (i_seq (r_Attr (r_Name (k := 0) (by kernel_rfl)) at_headers)) (a_Tuple (as_cons (a_Name (k := 3) (by kernel_rfl)) (as_cons (a_Name (k := 4) (by kernel_rfl)) as_nil))) (b_cons (s_If (t_Compare (r_Meth (r_Name (k := 3) (by kernel_rfl)) (meth_str F.slot_str_lower F.type_str_lower) rs_nil rk_nil cal_lower keep_builtin) (r_Name (k := 1) (by kernel_rfl))) (b_cons (s_Return (r_Name (k := 4) (by kernel_rfl))) b_nil) b_nil) b_nil)) (b_cons (s_Return (r_Name (k := 2) (by kernel_rfl))) b_nil))), ?_⟩
  intro vs objs Q h
  obtain ⟨i, j, L, x, d, rfl, hTB, hT, hx, hQ⟩ := h
  rw [show initLoc ["self", "name", "default", "k", "v"] ["self", "name", "default"] [.inst C i, .str x, d] = [some (.inst C i), some (.str x), some d, none, none] from by kernel_rfl]
  refine seqF_of (fun σ => σ = ⟨[some (.inst C i), some (.str (Txt.lower x)), some d, none, none], objs⟩) (fun K hK => ?_) ?_
  · walk_at "mine go"
    refine gdW_i (noKey_j hTB (by decide +kernel)) ?_
    walk_at "mine go"
    refine strF_i (low_ok hx) ?_
    walk_at "mine go"
    refine conv_i (hx.2) ?_
    walk_at "mine go"
    exact hK _ rfl
  rintro _ rfl
  refine seqF_ret (fun σ => L.find? (same x) = none ∧ ∃ a b, σ = ⟨[some (.inst C i), some (.str (Txt.lower x)), some d, a, b], objs⟩) (fun K hK hR => ?_) ?_
  · walk_at "mine go"
    refine attr_j hTB ?_
    refine itm_l hTB.2 ?_
    refine forL_over prV (fun p l σ => (∀ e ∈ p, same x e = false) ∧ p ++ l = L ∧ ∃ a b, σ = ⟨[some (.inst C i), some (.str (Txt.lower x)), some d, a, b], objs⟩) (fun p l σ h => by obtain ⟨_, _, a, b, rfl⟩ := h; exact hTB.2) (fun p e l σ K₁ hI hn _ _ hr => ?_) (fun p σ hI => ?_) L [] _ ⟨(fun e he => by cases he), rfl, _, _, rfl⟩
    · obtain ⟨hp, hpl, a, b, rfl⟩ := hI
      have he := (hT.2 e (hpl ▸ List.mem_append_right _ (.head _))).1
      refine unp_pr ?_
      walk_at "mine go"
      refine strF_i (low_ok he) ?_
      walk_at "mine go"
      refine eq_s (fun hs => ?_) (fun hs => ?_)
      · walk_at "mine go"
        refine hr _ _ (hR _ _ ?_)
        have hf : L.find? (same x) = some e := by
          rw [← hpl, List.find?_append, List.find?_eq_none.mpr fun q hq => by rw [hp q hq]; decide, List.find?_cons]
          have : same x e = true := by unfold same; rw [hs]; simp
          rw [this]; rfl
        rw [hf] at hQ
        exact hQ
      · walk_at "mine go"
        refine hn _ ⟨fun q hq => ?_, by rw [List.append_assoc]; exact hpl, _, _, rfl⟩
        rcases List.mem_append.mp hq with hq | hq
        · exact hp q hq
        · rw [List.mem_singleton.mp hq]; unfold same; rw [beq_eq_false_iff_ne]; exact hs
    · obtain ⟨hp, hpl, a, b, rfl⟩ := hI
      rw [List.append_nil] at hpl
      subst hpl
      exact hK _ ⟨List.find?_eq_none.mpr fun q hq => by rw [hp q hq]; decide, a, b, rfl⟩
  rintro _ ⟨hf, a, b, rfl⟩
  walk_at "mine go"
  rw [hf] at hQ
  exact hQ
noncomputable def spec_get1 : Spec := fun vs kvs objs Q => ∃ i j L x, vs = [.inst C i, .str x] ∧ TB objs i j (L.map prV) ∧ Tab L ∧ okK x ∧ Q (getL L x) objs
theorem ok_get1 : FnOK PG 2 122 2 [] spec_get1 := by
  obtain ⟨fb, hb, hrun⟩ := get_body
  refine fn_ok (full := fun vs _ => vs ++ [.none]) is_get hb ?_ ?_
  · intro q s xs kxs X h1 h2
    obtain ⟨a, b, rfl⟩ := len2 h1
    obtain rfl := len0 h2
    exact ⟨[a, b, .none], kp_binds X (fun _ => by kernel_rfl), fun g vs kvs rv rk => rv.append (.one (by simp only [VR]))⟩
  · intro vs kvs objs Q h1 h2 h
    obtain ⟨i, j, L, x, rfl, hTB, hT, hx, hQ⟩ := h
    exact hrun _ _ _ ⟨i, j, L, x, .none, rfl, hTB, hT, hx, hQ⟩

noncomputable def fd_getitem : FuncData := (fdO 102).get (by decide +kernel)
theorem is_getitem : FnIs PG 102 fd_getitem (stmtsOf fd_getitem.body) ["self", "name"] ["self", "name"] := by
  refine ⟨fun q => fnAt_of (by kernel_rfl), fun q => by kernel_rfl, by kernel_rfl, by kernel_rfl, by kernel_rfl, by kernel_rfl, by kernel_rfl, by kernel_rfl, by kernel_rfl, ?_, ?_, ?_⟩ <;> decide +kernel
theorem ok_getitem : FnOK PG 3 102 2 [] spec_get1 := by
  refine fn_ok (full := fun vs _ => vs) is_getitem (b_cons (s_Return (r_Meth (r_Name (k := 0) (by kernel_rfl)) (meth_inst me_get) (rs_cons (r_Name (k := 1) (by kernel_rfl)) rs_nil) rk_nil (cal_fn ok_get1 (by decide)) (.inr fun q => by kernel_rfl))) b_nil) ?_ ?_
  · intro q s xs kxs X h1 h2
    obtain ⟨a, b, rfl⟩ := len2 h1
    obtain rfl := len0 h2
    exact ⟨[a, b], kp_binds X (fun _ => by kernel_rfl), fun g vs kvs rv rk => rv⟩
  · intro vs kvs objs Q h1 h2 h
    obtain ⟨i, j, L, x, rfl, ⟨hi, hj⟩, hT, hx, hQ⟩ := h
    rw [show initLoc ["self", "name"] ["self", "name"] [.inst C i, .str x] = [some (.inst C i), some (.str x)] from by kernel_rfl]
    simp [seqF, bnd, ret, getv, setv, gdW, lget, lset, cmpA, eqA, isA, isN, retQ, truthA, attrA, attrAt, handed, itemsW, seqOf, tupT, tgts, tgtN, nrm, veq, hi, isInst, List.lookup, fnW]
    exact ⟨by decide +kernel, rfl, i, j, L, x, rfl, ⟨hi, hj⟩, hT, hx, hQ⟩

noncomputable def fd_delitem : FuncData := (fdO 95).get (by decide +kernel)
theorem is_delitem : FnIs PG 95 fd_delitem (stmtsOf fd_delitem.body) ["self", "name"] ["self", "name"] := by
  refine ⟨fun q => fnAt_of (by kernel_rfl), fun q => by kernel_rfl, by kernel_rfl, by kernel_rfl, by kernel_rfl, by kernel_rfl, by kernel_rfl, by kernel_rfl, by kernel_rfl, ?_, ?_, ?_⟩ <;> decide +kernel
noncomputable def spec_del : Spec := fun vs kvs objs Q => ∃ i j L x, vs = [.inst C i, .str x] ∧ TB objs i j (L.map prV) ∧ Tab L ∧ okK x ∧ Q .none (objs.set j (.list ((delL L x).map prV)))
theorem ok_delitem : FnOK PG 2 95 2 [] spec_del := by
  refine fn_ok (full := fun vs _ => vs) is_delitem (b_cons (s_Assign (k := 1) (r_Meth (r_Name (k := 0) (by kernel_rfl)) (meth_inst me_conv) (rs_cons (r_Meth (r_Name (k := 1) (by kernel_rfl)) (meth_str F.slot_str_lower F.type_str_lower) rs_nil rk_nil cal_lower keep_builtin) rs_nil) (rk_cons r_bool rk_nil) (cal_fn ok_conv (by decide)) (.inr fun q => by kernel_rfl)) (by kernel_rfl)) (b_cons (s_AssignT (r_ListComp (caps := [none, some 1]) ["kv", "name"] (i_seq (r_Attr (r_Name (k := 0) (by kernel_rfl)) at_headers)) (a_Name (k := 0) (by kernel_rfl)) (ts_one (t_Compare (r_Meth (r_Sub (r_Name (k := 0) (by kernel_rfl)) r_int) (meth_str F.slot_str_lower F.type_str_lower) rs_nil rk_nil cal_lower keep_builtin) (r_Name (k := 1) (by kernel_rfl)))) (r_Name (k := 0) (by kernel_rfl)) (by kernel_rfl)) (a_SliceAll (r_Attr (r_Name (k := 0) (by kernel_rfl)) at_headers))) b_nil)) ?_ ?_
  · intro q s xs kxs X h1 h2
    obtain ⟨a, b, rfl⟩ := len2 h1
    obtain rfl := len0 h2
    exact ⟨[a, b], kp_binds X (fun _ => by kernel_rfl), fun g vs kvs rv rk => rv⟩
  · intro vs kvs objs Q h1 h2 h
    obtain ⟨i, j, L, x, rfl, hTB, hT, hx, hQ⟩ := h
    rw [show initLoc ["self", "name"] ["self", "name"] [.inst C i, .str x] = [some (.inst C i), some (.str x)] from by kernel_rfl]
    walk_at "mine go"
    refine gdW_i (noKey_j hTB (by decide +kernel)) ?_
    walk_at "mine go"
    refine strF_i (low_ok hx) ?_
    walk_at "mine go"
    refine conv_i (hx.2) ?_
    walk_at "mine go"
    refine attr_j hTB ?_
    refine itm_l hTB.2 ⟨lm1k hT.1, ?_⟩
    refine compL_pure prV (fun p => !same x p) prV (fun σ => σ.objs = objs ∧ ∃ a, σ.loc = [a, some (.str (Txt.lower x))]) (fun σ h => by rw [h.1]; exact hTB.2) (fun e he σ Q' hJ hQ' => ?_) ⟨rfl, _, rfl⟩ fun σ' hJ => ?_
    · obtain ⟨ho, a, hl⟩ := hJ
      obtain ⟨loc, os⟩ := σ
      cases ho; cases hl
      have hq := hQ' ⟨[some (prV e), some (.str (Txt.lower x))], os⟩ ⟨rfl, _, rfl⟩
      walk_at "mine go"
      refine sub0_pr ?_
      walk_at "mine go"
      refine strF_i (low_ok (hT.2 e he).1) ?_
      walk_at "mine go"
      refine ne_s (fun hs => ?_) (fun hs => ?_)
      · walk_at "mine go"
        have : same x e = true := by unfold same; rw [hs]; simp
        rw [this] at hq
        exact hq
      · walk_at "mine go"
        have : same x e = false := by unfold same; rw [beq_eq_false_iff_ne]; exact hs
        rw [this] at hq
        exact hq
    · obtain ⟨ho, _⟩ := hJ
      rw [ho, List.nil_append]
      have := List.length_filter_le (fun e => !same x e) L
      simp [seqF, bnd, ret, getv, setv, gdW, lget, lset, cmpA, eqA, isA, isN, retQ, truthA, attrA, attrAt, handed, itemsW, seqOf, tupT, tgts, tgtN, nrm, veq, hTB.1, hTB.2, lstW', sliceSetA, List.lookup]
      exact ⟨by have h2 := hT.1; rw [sizeLine_eq]; omega, hQ⟩

noncomputable def fd_setitem : FuncData := (fdO 90).get (by decide +kernel)
theorem is_setitem : FnIs PG 90 fd_setitem (stmtsOf fd_setitem.body) ["self", "name", "val"] ["self", "name", "val"] := by
  refine ⟨fun q => fnAt_of (by kernel_rfl), fun q => by kernel_rfl, by kernel_rfl, by kernel_rfl, by kernel_rfl, by kernel_rfl, by kernel_rfl, by kernel_rfl, by kernel_rfl, ?_, ?_, ?_⟩ <;> decide +kernel
noncomputable def spec_set : Spec := fun vs kvs objs Q => ∃ i j L x y, vs = [.inst C i, .str x, .str y] ∧ TB objs i j (L.map prV) ∧ Tab L ∧ okK x ∧ okV y ∧ Q .none (objs.set j (.list ((delL L x ++ [(x, y)]).map prV)))
theorem ok_setitem : FnOK PG 3 90 3 [] spec_set := by
  refine fn_ok (full := fun vs _ => vs) is_setitem (b_cons (s_DelInst (r_Name (k := 0) (by kernel_rfl)) (r_Name (k := 1) (by kernel_rfl)) sp_delitem ok_delitem (by decide)) (b_cons (s_Expr (r_Meth (r_Attr (r_Name (k := 0) (by kernel_rfl)) at_headers) (meth_lst F.slot_list_append F.type_list_append) (rs_cons (r_Tuple (rs_cons (r_Meth (r_Name (k := 0) (by kernel_rfl)) (meth_inst me_conv) (rs_cons (r_Name (k := 1) (by kernel_rfl)) rs_nil) (rk_cons r_bool rk_nil) (cal_fn ok_conv (by decide)) (.inr fun q => by kernel_rfl)) (rs_cons (r_Meth (r_Name (k := 0) (by kernel_rfl)) (meth_inst me_conv) (rs_cons (r_Name (k := 2) (by kernel_rfl)) rs_nil) (rk_cons r_bool rk_nil) (cal_fn ok_conv (by decide)) (.inr fun q => by kernel_rfl)) rs_nil))) rs_nil) rk_nil cal_append keep_builtin)) b_nil)) ?_ ?_
  · intro q s xs kxs X h1 h2
    obtain ⟨a, b, c, rfl⟩ := len3 h1
    obtain rfl := len0 h2
    exact ⟨[a, b, c], kp_binds X (fun _ => by kernel_rfl), fun g vs kvs rv rk => rv⟩
  · intro vs kvs objs Q h1 h2 h
    obtain ⟨i, j, L, x, y, rfl, hTB, hT, hx, hy, hQ⟩ := h
    rw [show initLoc ["self", "name", "val"] ["self", "name", "val"] [.inst C i, .str x, .str y] = [some (.inst C i), some (.str x), some (.str y)] from by kernel_rfl]
    walk_at "mine go"
    refine instW_i hTB.1 rfl ⟨i, j, L, x, rfl, hTB, hT, hx, ?_⟩
    have hB := hTB.set (l' := (delL L x).map prV)
    walk_at "mine go"
    refine attr_j hB ?_
    refine gdW_i (isLst_of hB.2) ?_
    walk_at "mine go"
    refine gdW_i (noKey_j hB (by decide +kernel)) ?_
    walk_at "mine go"
    refine conv_i (hx.1) ?_
    walk_at "mine go"
    refine gdW_i (noKey_j hB (by decide +kernel)) ?_
    walk_at "mine go"
    refine conv_i (hy) ?_
    walk_at "mine go"
    refine app_i hB.2 (lm1k (Nat.le_trans (List.length_filter_le _ _) hT.1)) ?_
    rw [List.set_set]
    walk_at "mine go"
    have e : (delL L x).map prV ++ [V.tup [.str x, .str y]] = (delL L x ++ [(x, y)]).map prV := by rw [List.map_append]; rfl
    rw [e]
    exact hQ

noncomputable def fd_items : FuncData := (fdO 139).get (by decide +kernel)
theorem is_items : FnIs PG 139 fd_items (stmtsOf fd_items.body) ["self"] ["self"] := by
  refine ⟨fun q => fnAt_of (by kernel_rfl), fun q => by kernel_rfl, by kernel_rfl, by kernel_rfl, by kernel_rfl, by kernel_rfl, by kernel_rfl, by kernel_rfl, by kernel_rfl, ?_, ?_, ?_⟩ <;> decide +kernel
noncomputable def spec_items : Spec := fun vs _ objs Q => ∃ i j, ∃ L : List (Str × Str), vs = [.inst C i] ∧ TB objs i j (L.map prV) ∧ L.length ≤ 1000 ∧ Q (.lst (L.map prV)) objs
theorem ok_items : FnOK PG 1 139 1 [] spec_items := by
  refine fn_ok (full := fun vs _ => vs) is_items (b_cons (s_Return (r_Slice false (r_Attr (r_Name (k := 0) (by kernel_rfl)) at_headers) o_none o_none)) b_nil) ?_ ?_
  · intro q s xs kxs X h1 h2
    obtain ⟨a, rfl⟩ := len1 h1
    obtain rfl := len0 h2
    exact ⟨[a], kp_binds X (fun _ => by kernel_rfl), fun g vs kvs rv rk => rv⟩
  · intro vs kvs objs Q h1 h2 h
    obtain ⟨i, j, L, rfl, hTB, hL, hQ⟩ := h
    rw [show initLoc ["self"] ["self"] [.inst C i] = [some (.inst C i)] from by kernel_rfl]
    walk_at "mine go"
    refine attr_j hTB ?_
    walk_at "mine go"
    refine slc_l hTB.2 (lm1k hL) rfl ?_
    walk_at "mine go"
    exact hQ

noncomputable def fd_init : FuncData := (fdO 69).get (by decide +kernel)
theorem is_init : FnIs PG 69 fd_init (stmtsOf fd_init.body) ["self", "headers", "k", "v"] ["self", "headers"] := by
  refine ⟨fun q => fnAt_of (by kernel_rfl), fun q => by kernel_rfl, by kernel_rfl, by kernel_rfl, by kernel_rfl, by kernel_rfl, by kernel_rfl, by kernel_rfl, by kernel_rfl, ?_, ?_, ?_⟩ <;> decide +kernel
noncomputable def spec_init1 : Spec := fun vs _ objs Q => ∃ i j L, vs = [.inst C i, .ref j] ∧ objs[i]? = some (.attrs []) ∧ lstAt objs j = some (L.map prV) ∧ Tab L ∧ Q .none (objs.set i (.attrs [("_headers", .ref j)]))
theorem ok_init1 : FnOK PG 2 69 2 [] spec_init1 := by
  refine fn_ok (full := fun vs _ => vs) is_init (b_cons (s_Assign (k := 1) (r_IfExp (t_Compare (r_Name (k := 1) (by kernel_rfl)) r_none) (r_Name (k := 1) (by kernel_rfl)) (r_ListT rs_nil)) (by kernel_rfl)) (b_cons (s_If (t_Compare (r_Call (by kernel_rfl) (rs_cons (r_Name (k := 1) (by kernel_rfl)) rs_nil) rk_nil cal_type keep_type) (r_Glob (v := .type "list") (by kernel_rfl))) b_dead b_nil) (b_cons (s_AssignT (r_Name (k := 1) (by kernel_rfl)) (a_Attr (r_Name (k := 0) (by kernel_rfl)) se_headers)) (b_cons (s_If (t_plain r_bool) (b_cons (s_For (i_seq (r_Name (k := 1) (by kernel_rfl))) (a_Tuple (as_cons (a_Name (k := 2) (by kernel_rfl)) (as_cons (a_Name (k := 3) (by kernel_rfl)) as_nil))) (b_cons (s_Expr (r_Meth (r_Name (k := 0) (by kernel_rfl)) (meth_inst me_conv) (rs_cons (r_Name (k := 2) (by kernel_rfl)) rs_nil) (rk_cons r_bool rk_nil) (cal_fn ok_conv (by decide)) (.inr fun q => by kernel_rfl))) (b_cons (s_Expr (r_Meth (r_Name (k := 0) (by kernel_rfl)) (meth_inst me_conv) (rs_cons (r_Name (k := 3) (by kernel_rfl)) rs_nil) (rk_cons r_bool rk_nil) (cal_fn ok_conv (by decide)) (.inr fun q => by kernel_rfl))) b_nil))) b_nil) b_nil) b_nil)))) ?_ ?_
  · intro q s xs kxs X h1 h2
    obtain ⟨a, b, rfl⟩ := len2 h1
    obtain rfl := len0 h2
    exact ⟨[a, b], kp_binds X (fun _ => by kernel_rfl), fun g vs kvs rv rk => rv⟩
  · intro vs kvs objs Q h1 h2 h
    obtain ⟨i, j, L, rfl, hi, hj, hT, hQ⟩ := h
    rw [show initLoc ["self", "headers", "k", "v"] ["self", "headers"] [.inst C i, .ref j] = [some (.inst C i), some (.ref j), none, none] from by kernel_rfl]
    have hne : i ≠ j := fun e => by subst e; unfold lstAt at hj; rw [hi] at hj; cases hj
    have hget : (objs.set i (.attrs [("_headers", .ref j)]))[i]? = some (.attrs [("_headers", .ref j)]) := List.getElem?_set_self (List.getElem?_eq_some_iff.mp hi).1
    have hB : TB (objs.set i (.attrs [("_headers", .ref j)])) i j (L.map prV) := ⟨hget, by rw [lst_set_ne hne]; exact hj⟩
    walk_at "mine go"
    refine type_j hj ?_
    walk_at "mine go"
    refine isnt_j ?_
    walk_at "mine go"
    refine setAttr_j hi ?_
    walk_at "mine go"
    refine itm_l hB.2 ?_
    refine forL_over prV (fun d l σ => (∀ e ∈ l, okK e.1 ∧ okV e.2) ∧ ∃ a b, σ = ⟨[some (.inst C i), some (.ref j), a, b], objs.set i (.attrs [("_headers", .ref j)])⟩) (fun d l σ h => by obtain ⟨_, a, b, rfl⟩ := h; exact hB.2) (fun d e l σ K hI hn _ _ _ => ?_) (fun d σ hI => ?_) L [] _ ⟨hT.2, _, _, rfl⟩
    · obtain ⟨hl, a, b, rfl⟩ := hI
      have he := hl e (.head _)
      refine unp_pr ?_
      walk_at "mine go"
      refine gdW_i (noKey_j hB (by decide +kernel)) ?_
      walk_at "mine go"
      refine conv_i (he.1.1) ?_
      walk_at "mine go"
      refine gdW_i (noKey_j hB (by decide +kernel)) ?_
      walk_at "mine go"
      refine conv_i (he.2) ?_
      walk_at "mine go"
      exact hn _ ⟨fun q hq => hl q (.tail _ hq), _, _, rfl⟩
    · obtain ⟨_, a, b, rfl⟩ := hI
      walk_at "mine go"
      exact hQ
end Mine

namespace Mine
theorem cal_rx3 {κ : Kap} (h : κ.P = PG) : CalOK κ (.builtin "re.Pattern.search") [] (fun vs kvs Q σ => rxM 41 badN vs kvs Q σ ∨ rxM 46 badV vs kvs Q σ) := cal_or (cal_rxM (h ▸ rxN) hitN) (cal_rxM (h ▸ rxV) hitV)
noncomputable def ctl : Str := "Control characters not allowed in headers"
noncomputable def xspec_conv : XSpec := fun vs kvs objs Q => ∃ v x b, vs = [v, .str x] ∧ kvs = [.bool b] ∧ x.length ≤ 100000 ∧ x.cps.toList.any (if b = true then badN else badV) = true ∧ Q ⟨"ValueError", some [.str ctl]⟩ objs
theorem x_conv : FnX PG 1 76 2 ["name"] xspec_conv := by
  refine fn_x (full := fun vs kvs => vs ++ kvs) is_conv (xb_cons s_dead (x_If (t_Compare (r_Call (by kernel_rfl) (rs_cons (r_Name (k := 1) (by kernel_rfl)) rs_nil) rk_nil cal_type keep_type) (r_Glob (v := .type "str") (by kernel_rfl))) (xb_cons (s_Assign (k := 3) (r_IfExp (t_plain (r_Name (k := 2) (by kernel_rfl))) (r_Glob (v := .ref 41) (by kernel_rfl)) (r_Glob (v := .ref 46) (by kernel_rfl))) (by kernel_rfl)) xs_never (xb_cons s_dead (x_If (t_match (r_Meth (r_Name (k := 3) (by kernel_rfl)) (meth_rx2 rfl) (rs_cons (r_Name (k := 1) (by kernel_rfl)) rs_nil) rk_nil (cal_rx3 rfl) keep_builtin)) (xb_cons s_dead (x_Raise F.excCall_ValueError F.excRaise_ValueError (by kernel_rfl) (rs_cons r_str rs_nil)) xb_never) xb_never) xb_never)) xb_never) xb_never) ?_ ?_
  · intro q s xs kxs X h1 h2
    obtain ⟨a, b, rfl⟩ := len2 h1
    obtain ⟨c, rfl⟩ := len1 h2
    exact ⟨[a, b, c], kp_binds X (fun _ => by kernel_rfl), fun g vs kvs rv rk => rv.append rk⟩
  · intro vs kvs objs Q h1 h2 h
    obtain ⟨v, x, b, rfl, rfl, hx, hany, hQ⟩ := h
    rw [show initLoc ["self", "value", "name", "regex"] ["self", "value", "name"] ([v, .str x] ++ [.bool b]) = [some v, some (.str x), some (.bool b), none] from by kernel_rfl]
    have hsz : x.length ≤ sizeLine := by rw [sizeLine_eq]; omega
    cases b
    · simp only [Bool.false_eq_true, if_false] at hany
      simp [seqF, bnd, ret, getv, setv, gdW, lget, lset, cmpA, eqA, isA, isN, retQ, truthA, attrA, attrAt, handed, itemsW, seqOf, tupT, tgts, tgtN, nrm, veq, orX, seqX, never, typeA, isRx, rxM, truthM]
      refine ⟨hsz, ?_, fun o ho => ⟨ho, by decide, hQ⟩⟩
      simpa using hany
    · simp only [if_true] at hany
      simp [seqF, bnd, ret, getv, setv, gdW, lget, lset, cmpA, eqA, isA, isN, retQ, truthA, attrA, attrAt, handed, itemsW, seqOf, tupT, tgts, tgtN, nrm, veq, orX, seqX, never, typeA, isRx, rxM, truthM]
      refine ⟨hsz, ?_, fun o ho => ⟨ho, by decide, hQ⟩⟩
      simpa using hany
end Mine

namespace Mine
noncomputable abbrev PS := Str × Str
noncomputable def tabO (objs : List O) (L : List PS) : List O := objs ++ [.list (L.map prV), .attrs [("_headers", .ref objs.length)]]
theorem tb_new (objs : List O) (L : List PS) : TB (tabO objs L) (objs.length + 1) objs.length (L.map prV) := by
  unfold tabO
  refine ⟨?_, ?_⟩
  · rw [List.getElem?_append_right (by omega)]; simp
  · unfold lstAt; rw [List.getElem?_append_right (by omega)]; simp
theorem set_new (objs : List O) (L M : List PS) : (tabO objs L).set objs.length (.list (M.map prV)) = tabO objs M := by
  unfold tabO
  rw [List.set_append_right _ _ (Nat.le_refl _)]; simp
set_option tactic.hygienic true in
theorem tb_keep {objs more : List O} {i j : Nat} {l : List V} (h : TB objs i j l) : TB (objs ++ more) i j l := by
  refine ⟨?_, ?_⟩
  · rw [List.getElem?_append_left (List.getElem?_eq_some_iff.mp h.1).1]; exact h.1
  · have := h.2
    unfold lstAt at this ⊢
    split at this
    · rename_i l' e
      rw [List.getElem?_append_left (List.getElem?_eq_some_iff.mp e).1, e]; exact this
    · cases this
noncomputable def Ext (O₁ O₂ : List O) : Prop := ∃ m, O₂ = O₁ ++ m
theorem Ext.refl (O₁ : List O) : Ext O₁ O₁ := ⟨[], by simp⟩
theorem Ext.trans {a b c : List O} : Ext a b → Ext b c → Ext a c := fun ⟨m, h⟩ ⟨n, h'⟩ => ⟨m ++ n, by rw [h', h, List.append_assoc]⟩
set_option tactic.hygienic true in
theorem Ext.lst {a b : List O} (h : Ext a b) {j : Nat} {l : List V} (t : lstAt a j = some l) : lstAt b j = some l := by
  obtain ⟨m, rfl⟩ := h
  unfold lstAt at t ⊢
  split at t
  · rename_i l' e
    rw [List.getElem?_append_left (List.getElem?_eq_some_iff.mp e).1, e]; exact t
  · cases t
theorem noKey {i j : Nat} {objs : List O} {l : List V} {x : Str} {loc : List (Option V)} (h : TB objs i j l) (hx : (x == ("_headers" : Str)) = false) : isInst C x (.inst C i) ⟨loc, objs⟩ :=
  ⟨rfl, _, h.1, by simp only [List.lookup_cons, hx]; rfl⟩
end Mine
namespace Mine
theorem init1_eq (objs : List O) (L : List PS) : ((objs ++ [O.list (L.map prV)]) ++ [O.attrs []]).set (objs ++ [O.list (L.map prV)]).length (.attrs [("_headers", .ref objs.length)]) = tabO objs L := by
  rw [List.set_append_right _ _ (Nat.le_refl _), Nat.sub_self, List.set_cons_zero, List.append_assoc]; rfl
/-- Headers([..]) of a new list -/
theorem new1 {loc : List (Option V)} {objs : List O} {L : List PS} {Q : V → St → Prop} (hL : Tab L) (h : Q (.inst C (objs.length + 1)) ⟨loc, tabO objs L⟩) :
    newW C 2 0 spec_init1 [.ref objs.length] [] Q ⟨loc, objs ++ [O.list (L.map prV)]⟩ := by
  refine newW_i rfl rfl ⟨(objs ++ [O.list (L.map prV)]).length, objs.length, L, rfl, by simp, by simp [lstAt], hL, rfl, ?_⟩
  rw [init1_eq, show (objs ++ [O.list (L.map prV)]).length = objs.length + 1 by simp]
  exact h
end Mine

namespace Mine
theorem xconv_i {v : V} {x : Str} {b : Bool} {objs : List O} {Q : Xc → List O → Prop} (h1 : x.length ≤ 100000) (h2 : x.cps.toList.any (if b = true then badN else badV) = true) (q : Q ⟨"ValueError", some [.str ctl]⟩ objs) : xspec_conv [v, .str x] [.bool b] objs Q := ⟨v, x, b, rfl, rfl, h1, h2, q⟩
/-- a name whose lower case is refused -/
noncomputable def badK (x : Str) : Prop := x.length ≤ 100000 ∧ (Txt.lower x).length ≤ 100000 ∧ (Txt.lower x).cps.toList.any badN = true
noncomputable abbrev ctlX : Xc := ⟨"ValueError", some [.str ctl]⟩
noncomputable def xspec_get : XSpec := fun vs kvs objs Q => ∃ i j L x, vs = [.inst C i, .str x] ∧ TB objs i j L ∧ badK x ∧ Q ctlX objs
noncomputable def xspec_get2 : XSpec := fun vs kvs objs Q => ∃ i j L x d, vs = [.inst C i, .str x, d] ∧ TB objs i j L ∧ badK x ∧ Q ctlX objs
theorem x_get_body : ∃ fb, XB ⟨PG, fd_get.scope.names, ["self", "name", "default", "k", "v"], 2, true⟩ (stmtsOf fd_get.body) fb ∧ ∀ vs objs Q, xspec_get2 vs [] objs Q → fb (fun X σ => Q X σ.objs) ⟨initLoc ["self", "name", "default", "k", "v"] ["self", "name", "default"] vs, objs⟩ := by
  refine ⟨_, (xb_cons s_dead (x_Assign (x_Meth (r_Name (k := 0) (by kernel_rfl)) (meth_inst me_conv) (rs_cons (r_Meth (r_Name (k := 1) (by kernel_rfl)) (meth_str F.slot_str_lower F.type_str_lower) rs_nil rk_nil cal_lower keep_builtin) rs_nil) (rk_cons r_bool rk_nil) (cal_fnx x_conv (by decide)) (.inr fun q => by kernel_rfl))) xb_never), ?_⟩
  intro vs objs Q h
  obtain ⟨i, j, L, x, d, rfl, hTB, hx, hQ⟩ := h
  rw [show initLoc ["self", "name", "default", "k", "v"] ["self", "name", "default"] [.inst C i, .str x, d] = [some (.inst C i), some (.str x), some d, none, none] from by kernel_rfl]
  refine .inl ?_
  walk_at "mine go"
  refine gdW_i (noKey hTB (by decide +kernel)) ?_
  walk_at "mine go"
  refine strF_i (Nat.le_trans hx.1 (by decide)) ?_
  walk_at "mine go"
  exact ⟨rfl, rfl, xconv_i (x := Txt.lower x) (b := true) hx.2.1 hx.2.2 hQ⟩
theorem x_get1 : FnX PG 2 122 2 [] xspec_get := by
  obtain ⟨fb, hb, hrun⟩ := x_get_body
  refine fn_x (full := fun vs _ => vs ++ [.none]) is_get hb ?_ ?_
  · intro q s xs kxs X h1 h2
    obtain ⟨a, b, rfl⟩ := len2 h1
    obtain rfl := len0 h2
    exact ⟨[a, b, .none], kp_binds X (fun _ => by kernel_rfl), fun g vs kvs rv rk => rv.append (.one (by simp only [VR]))⟩
  · intro vs kvs objs Q h1 h2 h
    obtain ⟨i, j, L, x, rfl, hTB, hx, hQ⟩ := h
    exact hrun _ _ _ ⟨i, j, L, x, .none, rfl, hTB, hx, hQ⟩
theorem x_getitem : FnX PG 3 102 2 [] xspec_get := by
  refine fn_x (full := fun vs _ => vs) is_getitem (xb_cons s_dead (x_Return (x_Meth (r_Name (k := 0) (by kernel_rfl)) (meth_inst me_get) (rs_cons (r_Name (k := 1) (by kernel_rfl)) rs_nil) rk_nil (cal_fnx x_get1 (by decide)) (.inr fun q => by kernel_rfl))) xb_never) ?_ ?_
  · intro q s xs kxs X h1 h2
    obtain ⟨a, b, rfl⟩ := len2 h1
    obtain rfl := len0 h2
    exact ⟨[a, b], kp_binds X (fun _ => by kernel_rfl), fun g vs kvs rv rk => rv⟩
  · intro vs kvs objs Q h1 h2 h
    obtain ⟨i, j, L, x, rfl, hTB, hx, hQ⟩ := h
    rw [show initLoc ["self", "name"] ["self", "name"] [.inst C i, .str x] = [some (.inst C i), some (.str x)] from by kernel_rfl]
    refine .inl ?_
    walk_at "mine go"
    refine gdW_i (noKey hTB (by decide +kernel)) ?_
    walk_at "mine go"
    exact ⟨rfl, rfl, i, j, L, x, rfl, hTB, hx, hQ⟩
theorem x_delitem : FnX PG 2 95 2 [] xspec_get := by
  refine fn_x (full := fun vs _ => vs) is_delitem (xb_cons s_dead (x_Assign (x_Meth (r_Name (k := 0) (by kernel_rfl)) (meth_inst me_conv) (rs_cons (r_Meth (r_Name (k := 1) (by kernel_rfl)) (meth_str F.slot_str_lower F.type_str_lower) rs_nil rk_nil cal_lower keep_builtin) rs_nil) (rk_cons r_bool rk_nil) (cal_fnx x_conv (by decide)) (.inr fun q => by kernel_rfl))) xb_never) ?_ ?_
  · intro q s xs kxs X h1 h2
    obtain ⟨a, b, rfl⟩ := len2 h1
    obtain rfl := len0 h2
    exact ⟨[a, b], kp_binds X (fun _ => by kernel_rfl), fun g vs kvs rv rk => rv⟩
  · intro vs kvs objs Q h1 h2 h
    obtain ⟨i, j, L, x, rfl, hTB, hx, hQ⟩ := h
    rw [show initLoc ["self", "name"] ["self", "name"] [.inst C i, .str x] = [some (.inst C i), some (.str x)] from by kernel_rfl]
    refine .inl ?_
    walk_at "mine go"
    refine gdW_i (noKey hTB (by decide +kernel)) ?_
    walk_at "mine go"
    refine strF_i (Nat.le_trans hx.1 (by decide)) ?_
    walk_at "mine go"
    exact ⟨rfl, rfl, xconv_i (x := Txt.lower x) (b := true) (hx.2.1) (hx.2.2) (hQ)⟩
end Mine

open PySem PySem.W PyProof.Rows PySem.Calls
set_option Elab.async false
set_option maxRecDepth 100000
set_option maxHeartbeats 4000000
set_option linter.unusedVariables false
set_option linter.unusedSimpArgs false

namespace Mine
theorem xes_never {κ : Kap} {es : List Expr} : XEs κ es never := fun _ _ _ _ _ _ _ _ h => h.elim
theorem type_i {j : Nat} {l : List V} {kvs : List V} {loc : List (Option V)} {objs : List O} {Q : V → St → Prop} (hl : lstAt objs j = some l) (h : Q (.glob (.type "list")) ⟨loc, objs⟩) : typeA [.ref j] kvs Q ⟨loc, objs⟩ := by
  unfold typeA
  have : seqOf objs (.ref j) = some l := hl
  simp only [this]; exact h
theorem isnt_t {t u : String} {Q : Bool → St → Prop} {σ : St} (h : Q (!(u == t)) σ) : cmpA .IsNot (.glob (.type u)) (.glob (.type t)) Q σ := h
theorem setAttr_i {i : Nat} {x : Str} {v : V} {loc : List (Option V)} {objs : List O} {Q : Unit → St → Prop} (hi : objs[i]? = some (.attrs [])) (h : Q () ⟨loc, objs.set i (.attrs [(x, v)])⟩) : setAttrA C x v (.inst C i) Q ⟨loc, objs⟩ := ⟨rfl, hi, h⟩
theorem sp_contains : SpecIs PG C "__contains__" 109 := ⟨fun q => by kernel_rfl, fun q => by kernel_rfl, fun q => by kernel_rfl, fun q => by kernel_rfl⟩
theorem me_get_all : MethIs PG C "get_all" 114 := ⟨fun q => by kernel_rfl, fun q => by kernel_rfl, fun q => by kernel_rfl⟩
theorem setAll_nil {v : V} {Q : Unit → St → Prop} {σ : St} (h : Q () σ) : setAll [] v Q σ := h
theorem setAll_cons {f : V → W Unit} {fs : List (V → W Unit)} {v : V} {Q : Unit → St → Prop} {σ : St} (h : f v (fun _ σ' => setAll fs v Q σ') σ) : setAll (f :: fs) v Q σ := h
theorem mulT_i {a : V} {l : List V} {n : Int} {loc : List (Option V)} {objs : List O} {Q : V → St → Prop} (ha : seqOf objs a = some l) (h0 : 0 ≤ n) (h1 : l.length * n.toNat ≤ 256) (h2 : n < 1000) (h : Q (.ref objs.length) ⟨loc, objs ++ [.list (List.replicate n.toNat l).flatten]⟩) : mulT a (.int n) Q ⟨loc, objs⟩ := by
  unfold mulT; simp only [ha]; exact ⟨h0, h1, h2, h⟩
theorem setIdx_i {j : Nat} {k : Int} {u : V} {l : List V} {m : Nat} {loc : List (Option V)} {objs : List O} {Q : Unit → St → Prop} (hk : -(2 ^ 62) ≤ k ∧ k < 2 ^ 62) (hl : lstAt objs j = some l) (hm : idxN k l.length = some m) (h : Q () ⟨loc, objs.set j (.list (l.set m u))⟩) : setIdxA (.ref j) (.int k) u Q ⟨loc, objs⟩ := by
  unfold setIdxA; simp only [hl, hm]; exact ⟨hk, h⟩
theorem eq_ff {i j : Int} {Q : Bool → St → Prop} {σ : St} (hb : decide (i = j) = false) (h : Q false σ) : cmpA .Eq (.int i) (.int j) Q σ := eq_i (fun e => absurd e (of_decide_eq_false hb)) fun _ => h
theorem eq_tt {i j : Int} {Q : Bool → St → Prop} {σ : St} (hb : decide (i = j) = true) (h : Q true σ) : cmpA .Eq (.int i) (.int j) Q σ := eq_i (fun _ => h) fun e => absurd (of_decide_eq_true hb) e
theorem leS {n m : Nat} (h : n ≤ m) (hm : m ≤ 1000 := by decide) : n ≤ sizeLine := Nat.le_trans h (Nat.le_trans hm (by decide))
theorem szA {a b : List Nat} {m k : Nat} (ha : a.length ≤ m) (hb : b.length ≤ k) (h : m + k ≤ 1000 := by decide) : (S a).length + (S b).length ≤ sizeLine := by
  rw [S_len, S_len]; exact leS (Nat.add_le_add ha hb) h
theorem apL {a b : List Nat} {m k : Nat} (ha : a.length ≤ m) (hb : b.length ≤ k) : (a ++ b).length ≤ m + k := by rw [List.length_append]; exact Nat.add_le_add ha hb
theorem maL {α β : Type} {f : α → β} {l : List α} {m : Nat} (h : l.length ≤ m) : (l.map f).length ≤ m := by rw [List.length_map]; exact h
theorem coL {a : Nat} {l : List Nat} {m : Nat} (h : l.length ≤ m) : (a :: l).length ≤ m + 1 := Nat.succ_le_succ h
theorem inZ {n : Int} (h0 : 0 ≤ n) (h1 : n < 2 ^ 10) : -(2 ^ 62) ≤ n ∧ n < 2 ^ 62 := ⟨Int.le_trans (by decide) h0, Int.lt_trans h1 (by decide)⟩
theorem inN {n : Nat} (h : n < 100) : -(2 ^ 62) ≤ ((n : Nat) : Int) ∧ ((n : Nat) : Int) < 2 ^ 62 := inZ (Int.natCast_nonneg n) (Int.lt_trans (Int.ofNat_lt.mpr h) (by decide))
theorem szS {l : List Nat} {m : Nat} (h : l.length ≤ m) (hm : m ≤ 10000 := by decide) : (S l).length ≤ sizeLine := by rw [S_len]; exact Nat.le_trans h (Nat.le_trans hm (by decide))
theorem leK {n : Nat} (h : n ≤ 1000) : n ≤ sizeLine := leS h
theorem lst2 {objs : List O} {o : O} {l : List V} : lstAt (objs ++ [o, .list l]) (objs.length + 1) = some l := by unfold lstAt; rw [List.getElem?_append_right (Nat.le_succ _)]; simp
theorem set2 {objs : List O} {o : O} {l l' : List V} : (objs ++ [o, .list l]).set (objs.length + 1) (.list l') = objs ++ [o, .list l'] := by rw [List.set_append_right _ _ (Nat.le_succ _)]; simp
theorem att2 {objs : List O} {o x : O} : (objs ++ [o, x])[objs.length]? = some o := by rw [List.getElem?_append_right (Nat.le_refl _)]; simp
theorem chrN_i {c : Nat} {kvs : List V} {Q : V → St → Prop} {σ : St} (h : c ≤ 1114111) (q : Q (.str (S [c])) σ) : chrA [.int ((c : Nat) : Int)] kvs Q σ := chr_i (Int.natCast_nonneg c) (Int.ofNat_le.mpr h) q
theorem low5 {n : Nat} (h : n ≤ 100000) : n ≤ 5592405 := Nat.le_trans h (by decide)
end Mine

namespace Mine
noncomputable def fd_setdefault : FuncData := (fdO 165).get (by decide +kernel)
theorem is_setdefault : FnIs PG 165 fd_setdefault (stmtsOf fd_setdefault.body) ["self", "name", "value", "result"] ["self", "name", "value"] := by
  refine ⟨fun q => fnAt_of (by kernel_rfl), fun q => by kernel_rfl, by kernel_rfl, by kernel_rfl, by kernel_rfl, by kernel_rfl, by kernel_rfl, by kernel_rfl, by kernel_rfl, ?_, ?_, ?_⟩ <;> decide +kernel
theorem me_setdefault : MethIs PG C "setdefault" 165 := ⟨fun q => by kernel_rfl, fun q => by kernel_rfl, fun q => by kernel_rfl⟩
noncomputable def setdL (L : List (Str × Str)) (x y : Str) : List (Str × Str) := match L.find? (same x) with
  | some _ => L
  | none => L ++ [(x, y)]
noncomputable def setdV (L : List (Str × Str)) (x y : Str) : Str := match L.find? (same x) with
  | some p => p.2
  | none => y
noncomputable def spec_setd : Spec := fun vs _ objs Q => ∃ i j L x y, vs = [.inst C i, .str x, .str y] ∧ TB objs i j (L.map prV) ∧ Tab L ∧ okK x ∧ okV y ∧ Q (.str (setdV L x y)) (objs.set j (.list ((setdL L x y).map prV)))
set_option tactic.hygienic true in
theorem set_self {objs : List O} {j : Nat} {l : List V} (h : lstAt objs j = some l) : objs.set j (.list l) = objs := by
  unfold lstAt at h
  split at h
  · rename_i l' e
    cases h
    obtain ⟨h1, h2⟩ := List.getElem?_eq_some_iff.mp e
    rw [← h2]; exact List.set_getElem_self h1
  · cases h
theorem ok_setdefault : FnOK PG 3 165 3 [] spec_setd := by
  refine fn_ok (full := fun vs _ => vs) is_setdefault (b_cons (s_Assign (k := 3) (r_Meth (r_Name (k := 0) (by kernel_rfl)) (meth_inst me_get) (rs_cons (r_Name (k := 1) (by kernel_rfl)) rs_nil) rk_nil (cal_fn ok_get1 (by decide)) (.inr fun q => by kernel_rfl)) (by kernel_rfl)) (b_cons (s_If (t_Compare (r_Name (k := 3) (by kernel_rfl)) r_none) (b_cons (s_Expr (r_Meth (r_Attr (r_Name (k := 0) (by kernel_rfl)) at_headers) (meth_lst F.slot_list_append F.type_list_append) (rs_cons (r_Tuple (rs_cons (r_Meth (r_Name (k := 0) (by kernel_rfl)) (meth_inst me_conv) (rs_cons (r_Name (k := 1) (by kernel_rfl)) rs_nil) (rk_cons r_bool rk_nil) (cal_fn ok_conv (by decide)) (.inr fun q => by kernel_rfl)) (rs_cons (r_Meth (r_Name (k := 0) (by kernel_rfl)) (meth_inst me_conv) (rs_cons (r_Name (k := 2) (by kernel_rfl)) rs_nil) (rk_cons r_bool rk_nil) (cal_fn ok_conv (by decide)) (.inr fun q => by kernel_rfl)) rs_nil))) rs_nil) rk_nil cal_append keep_builtin)) (b_cons (s_Return (r_Name (k := 2) (by kernel_rfl))) b_nil)) (b_cons (s_Return (r_Name (k := 3) (by kernel_rfl))) b_nil)) b_nil)) ?_ ?_
  · intro q s xs kxs X h1 h2
    obtain ⟨a, b, c, rfl⟩ := len3 h1
    obtain rfl := len0 h2
    exact ⟨[a, b, c], kp_binds X (fun _ => by kernel_rfl), fun g vs kvs rv rk => rv⟩
  · intro vs kvs objs Q h1 h2 h
    obtain ⟨i, j, L, x, y, rfl, hTB, hT, hx, hy, hQ⟩ := h
    rw [show initLoc ["self", "name", "value", "result"] ["self", "name", "value"] [.inst C i, .str x, .str y] = [some (.inst C i), some (.str x), some (.str y), none] from by kernel_rfl]
    walk_at "mine go"
    refine gdW_i (noKey_j hTB (by decide +kernel)) ?_
    walk_at "mine go"
    refine ⟨i, j, L, x, rfl, hTB, hT, hx, ?_⟩
    unfold setdV setdL at hQ
    unfold getL
    cases hf : L.find? (same x) with
    | some p =>
      rw [hf] at hQ
      simp only at hQ ⊢
      rw [set_self hTB.2] at hQ
      walk_at "mine go"
      exact hQ
    | none =>
      rw [hf] at hQ
      simp only at hQ ⊢
      walk_at "mine go"
      refine attr_j hTB ?_
      refine gdW_i (isLst_of hTB.2) ?_
      walk_at "mine go"
      refine gdW_i (noKey_j hTB (by decide +kernel)) ?_
      walk_at "mine go"
      refine conv_i (hx.1) ?_
      walk_at "mine go"
      refine gdW_i (noKey_j hTB (by decide +kernel)) ?_
      walk_at "mine go"
      refine conv_i (hy) ?_
      walk_at "mine go"
      refine app_i hTB.2 (lm1k hT.1) ?_
      walk_at "mine go"
      have e : L.map prV ++ [V.tup [.str x, .str y]] = (L ++ [(x, y)]).map prV := by rw [List.map_append]; rfl
      rw [e]
      exact hQ
end Mine

namespace Mine
theorem attr_i {i j : Nat} {loc : List (Option V)} {objs : List O} {Q : V → St → Prop} {l : List V} (h : TB objs i j l) (q : Q (.ref j) ⟨loc, objs⟩) : attrA C "_headers" (.inst C i) Q ⟨loc, objs⟩ := by
  unfold attrA
  refine ⟨rfl, ?_⟩
  have : attrAt objs i "_headers" = some (.ref j) := by unfold attrAt; rw [h.1]; rfl
  simp only [this]
  exact ⟨rfl, q⟩
noncomputable def fd_add_header : FuncData := (fdO 172).get (by decide +kernel)
theorem is_add_header : FnIs PG 172 fd_add_header (stmtsOf fd_add_header.body) ["self", "_name", "_value", "_params", "parts", "k", "v"] ["self", "_name", "_value", "_params"] := by
  refine ⟨fun q => fnAt_of (by kernel_rfl), fun q => by kernel_rfl, by kernel_rfl, by kernel_rfl, by kernel_rfl, by kernel_rfl, by kernel_rfl, by kernel_rfl, by kernel_rfl, ?_, ?_, ?_⟩ <;> decide +kernel
theorem me_add_header : MethIs PG C "add_header" 172 := ⟨fun q => by kernel_rfl, fun q => by kernel_rfl, fun q => by kernel_rfl⟩
noncomputable def spec_addh : Spec := fun vs _ objs Q => ∃ i j L x y, vs = [.inst C i, .str x, .str y] ∧ TB objs i j (L.map prV) ∧ L.length ≤ 1000 ∧ okN x ∧ okV y ∧ ∀ more, Q .none (objs.set j (.list ((L ++ [(x, y)]).map prV)) ++ more)
theorem ok_add_header : FnOK PG 2 172 3 [] spec_addh := by
  refine fn_okK0 (full := fun vs => vs) is_add_header (b_cons (s_Assign (k := 4) (r_ListT rs_nil) (by kernel_rfl)) (b_cons (s_If (t_Compare (r_Name (k := 2) (by kernel_rfl)) r_none) (b_cons (s_Assign (k := 2) (r_Meth (r_Name (k := 0) (by kernel_rfl)) (meth_inst me_conv) (rs_cons (r_Name (k := 2) (by kernel_rfl)) rs_nil) (rk_cons r_bool rk_nil) (cal_fn ok_conv (by decide)) (.inr fun q => by kernel_rfl)) (by kernel_rfl)) (b_cons (s_Expr (r_Meth (r_Name (k := 4) (by kernel_rfl)) (meth_lst F.slot_list_append F.type_list_append) (rs_cons (r_Name (k := 2) (by kernel_rfl)) rs_nil) rk_nil cal_append keep_builtin)) b_nil)) b_nil) (b_cons (s_For (i_items (kx := 3) (by kernel_rfl)) (a_Tuple (as_cons (a_Name (k := 5) (by kernel_rfl)) (as_cons (a_Name (k := 6) (by kernel_rfl)) as_nil))) b_dead) (b_cons (s_Expr (r_Meth (r_Attr (r_Name (k := 0) (by kernel_rfl)) at_headers) (meth_lst F.slot_list_append F.type_list_append) (rs_cons (r_Tuple (rs_cons (r_Meth (r_Name (k := 0) (by kernel_rfl)) (meth_inst me_conv) (rs_cons (r_Name (k := 1) (by kernel_rfl)) rs_nil) (rk_cons r_bool rk_nil) (cal_fn ok_conv (by decide)) (.inr fun q => by kernel_rfl)) (rs_cons (by refine' r_Meth ?g1a ?g1b ?g1c ?g1d ?g1e ?g1f; (case g1a => exact r_str); (case g1b => exact (meth_str F.slot_str_join F.type_str_join)); (case g1c => exact (rs_cons (r_Name (k := 4) (by kernel_rfl)) rs_nil)); (case g1d => exact rk_nil); (case g1e => exact cal_join); (case g1f => exact keep_builtin)) rs_nil))) rs_nil) rk_nil cal_append keep_builtin)) b_nil)))) ?_ ?_
  · intro q xs h1
    obtain ⟨a, b, c, rfl⟩ := len3 h1
    exact ⟨[a, b, c], by kernel_rfl, fun g vs rv => rv⟩
  · intro vs objs Q h1 h
    obtain ⟨i, j, L, x, y, rfl, hTB, hL, hx, hy, hQ⟩ := h
    rw [show initLoc ["self", "_name", "_value", "_params", "parts", "k", "v"] ["self", "_name", "_value", "_params"] ([.inst C i, .str x, .str y] ++ [.dct objs.length]) = [some (.inst C i), some (.str x), some (.str y), some (.dct objs.length), none, none, none] from by kernel_rfl]
    have hz : 100000 ≤ sizeLine := by decide
    have hB : ∀ l, TB (objs ++ [.attrs [], .list l]) i j (L.map prV) := fun l => tb_keep hTB
    have hP : ∀ l, lstAt (objs ++ [O.attrs [], .list l]) (objs.length + 1) = some l := fun l => lst2
    have hPs : ∀ l l', (objs ++ [O.attrs [], .list l]).set (objs.length + 1) (.list l') = objs ++ [.attrs [], .list l'] := fun l l' => set2
    have hA : ∀ l, (objs ++ [O.attrs [], .list l])[objs.length]? = some (.attrs []) := fun l => att2
    refine seqF_of (fun σ => σ = ⟨[some (.inst C i), some (.str x), some (.str y), some (.dct objs.length), some (.ref (objs.length + 1)), none, none], objs ++ [.attrs [], .list []]⟩) (fun K hK => ?_) ?_
    · walk_at "mine go"
      refine hK _ ?_
      simp
    rintro _ rfl
    refine seqF_of (fun σ => σ = ⟨[some (.inst C i), some (.str x), some (.str y), some (.dct objs.length), some (.ref (objs.length + 1)), none, none], objs ++ [.attrs [], .list [.str y]]⟩) (fun K hK => ?_) ?_
    · walk_at "mine go"
      refine gdW_i (noKey (hB _) (by decide +kernel)) ?_
      walk_at "mine go"
      refine conv_i (hy) ?_
      walk_at "mine go"
      refine gdW_i (isLst_of (hP _)) ?_
      walk_at "mine go"
      refine app_i (hP _) (by simp) ?_
      rw [hPs]
      walk_at "mine go"
      exact hK _ rfl
    rintro _ rfl
    refine seqF_of (fun σ => σ = ⟨[some (.inst C i), some (.str x), some (.str y), some (.dct objs.length), some (.ref (objs.length + 1)), none, none], objs ++ [.attrs [], .list [.str y]]⟩) (fun K hK => ?_) ?_
    · walk_at "mine go"
      refine itemsD_i (l := []) (hA _) List.nodup_nil ?_
      exact ⟨hA _, hK _ rfl⟩
    rintro _ rfl
    walk_at "mine go"
    refine attr_i (hB _) ?_
    refine gdW_i (isLst_of (hB _).2) ?_
    walk_at "mine go"
    refine gdW_i (noKey (hB _) (by decide +kernel)) ?_
    walk_at "mine go"
    refine conv_i (hx) ?_
    walk_at "mine go"
    have hyl := hy.1
    refine join_i (ys := [y]) (hP _) rfl (by have : (Str.ofString "; ").length = 2 := rfl; rw [this]; simp; omega) ?_
    walk_at "mine go"
    refine app_i (hB _).2 (leK (maL hL)) ?_
    walk_at "mine go"
    have hj : j < objs.length := (List.getElem?_eq_some_iff.mp (lstAt_some hTB.2)).1
    have e : (objs ++ [O.attrs [], .list [.str y]]).set j (.list (L.map prV ++ [V.tup [.str x, .str (Txt.join (Str.ofString "; ") [y])]])) = objs.set j (.list ((L ++ [(x, y)]).map prV)) ++ [.attrs [], .list [.str y]] := by
      rw [List.set_append_left _ _ hj, List.map_append]
      have : Txt.join (Str.ofString "; ") [y] = y := by rw [join_eq]; rfl
      rw [this]; rfl
    rw [e]
    exact hQ _
end Mine

namespace Mine
noncomputable def spec_get2 : Spec := fun vs kvs objs Q => ∃ i j L x d, vs = [.inst C i, .str x, d] ∧ TB objs i j (L.map prV) ∧ Tab L ∧ okK x ∧ L.find? (same x) = none ∧ Q d objs
theorem ok_get2 : FnOK PG 2 122 3 [] spec_get2 := by
  obtain ⟨fb, hb, hrun⟩ := get_body
  refine fn_ok (full := fun vs _ => vs) is_get hb ?_ ?_
  · intro q s xs kxs X h1 h2
    obtain ⟨a, b, c, rfl⟩ := len3 h1
    obtain rfl := len0 h2
    exact ⟨[a, b, c], kp_binds X (fun _ => by kernel_rfl), fun g vs kvs rv rk => rv⟩
  · intro vs kvs objs Q h1 h2 h
    obtain ⟨i, j, L, x, d, rfl, hTB, hT, hx, hf, hQ⟩ := h
    exact hrun _ _ _ ⟨i, j, L, x, d, rfl, hTB, hT, hx, by rw [hf]; exact hQ⟩
noncomputable def fd_contains : FuncData := (fdO 109).get (by decide +kernel)
theorem is_contains : FnIs PG 109 fd_contains (stmtsOf fd_contains.body) ["self", "name"] ["self", "name"] := by
  refine ⟨fun q => fnAt_of (by kernel_rfl), fun q => by kernel_rfl, by kernel_rfl, by kernel_rfl, by kernel_rfl, by kernel_rfl, by kernel_rfl, by kernel_rfl, by kernel_rfl, ?_, ?_, ?_⟩ <;> decide +kernel
noncomputable def spec_contains : Spec := fun vs kvs objs Q => ∃ i j L x, vs = [.inst C i, .str x] ∧ TB objs i j (L.map prV) ∧ Tab L ∧ okK x ∧ L.find? (same x) = none ∧ Q (.bool false) objs
theorem ok_contains : FnOK PG 3 109 2 [] spec_contains := by
  refine fn_ok (full := fun vs _ => vs) is_contains (b_cons (s_Return (r_Compare (r_Meth (r_Name (k := 0) (by kernel_rfl)) (meth_inst me_get) (rs_cons (r_Name (k := 1) (by kernel_rfl)) rs_nil) rk_nil (cal_fn ok_get1 (by decide)) (.inr fun q => by kernel_rfl)) r_none)) b_nil) ?_ ?_
  · intro q s xs kxs X h1 h2
    obtain ⟨a, b, rfl⟩ := len2 h1
    obtain rfl := len0 h2
    exact ⟨[a, b], kp_binds X (fun _ => by kernel_rfl), fun g vs kvs rv rk => rv⟩
  · intro vs kvs objs Q h1 h2 h
    obtain ⟨i, j, L, x, rfl, hTB, hT, hx, hf, hQ⟩ := h
    rw [show initLoc ["self", "name"] ["self", "name"] [.inst C i, .str x] = [some (.inst C i), some (.str x)] from by kernel_rfl]
    walk_at "mine go"
    refine gdW_i (noKey hTB (by decide +kernel)) ?_
    walk_at "mine go"
    refine ⟨i, j, L, x, rfl, hTB, hT, hx, ?_⟩
    unfold getL
    rw [hf]
    walk_at "mine go"
    exact hQ
noncomputable def fd_get_all : FuncData := (fdO 114).get (by decide +kernel)
theorem is_get_all : FnIs PG 114 fd_get_all (stmtsOf fd_get_all.body) ["self", "name"] ["self", "name"] := by
  refine ⟨fun q => fnAt_of (by kernel_rfl), fun q => by kernel_rfl, by kernel_rfl, by kernel_rfl, by kernel_rfl, by kernel_rfl, by kernel_rfl, by kernel_rfl, by kernel_rfl, ?_, ?_, ?_⟩ <;> decide +kernel
noncomputable def spec_get_all : Spec := fun vs kvs objs Q => ∃ i j L x, vs = [.inst C i, .str x] ∧ TB objs i j (L.map prV) ∧ Tab L ∧ okK x ∧ Q (.lst ((L.filter (same x)).map fun p => .str p.2)) objs
theorem ok_get_all : FnOK PG 2 114 2 [] spec_get_all := by
  refine fn_ok (full := fun vs _ => vs) is_get_all (b_cons (s_Assign (k := 1) (r_Meth (r_Name (k := 0) (by kernel_rfl)) (meth_inst me_conv) (rs_cons (r_Meth (r_Name (k := 1) (by kernel_rfl)) (meth_str F.slot_str_lower F.type_str_lower) rs_nil rk_nil cal_lower keep_builtin) rs_nil) (rk_cons r_bool rk_nil) (cal_fn ok_conv (by decide)) (.inr fun q => by kernel_rfl)) (by kernel_rfl)) (b_cons (s_Return (r_ListComp (caps := [none, some 1]) ["kv", "name"] (i_seq (r_Attr (r_Name (k := 0) (by kernel_rfl)) at_headers)) (a_Name (k := 0) (by kernel_rfl)) (ts_one (t_Compare (r_Meth (r_Sub (r_Name (k := 0) (by kernel_rfl)) r_int) (meth_str F.slot_str_lower F.type_str_lower) rs_nil rk_nil cal_lower keep_builtin) (r_Name (k := 1) (by kernel_rfl)))) (r_Sub (r_Name (k := 0) (by kernel_rfl)) r_int) (by kernel_rfl))) b_nil)) ?_ ?_
  · intro q s xs kxs X h1 h2
    obtain ⟨a, b, rfl⟩ := len2 h1
    obtain rfl := len0 h2
    exact ⟨[a, b], kp_binds X (fun _ => by kernel_rfl), fun g vs kvs rv rk => rv⟩
  · intro vs kvs objs Q h1 h2 h
    obtain ⟨i, j, L, x, rfl, hTB, hT, hx, hQ⟩ := h
    rw [show initLoc ["self", "name"] ["self", "name"] [.inst C i, .str x] = [some (.inst C i), some (.str x)] from by kernel_rfl]
    walk_at "mine go"
    refine gdW_i (noKey_j hTB (by decide +kernel)) ?_
    walk_at "mine go"
    refine strF_i (low_ok hx) ?_
    walk_at "mine go"
    refine conv_i (hx.2) ?_
    walk_at "mine go"
    refine attr_j hTB ?_
    refine itm_l hTB.2 ⟨lm1k hT.1, ?_⟩
    refine compL_pure prV (fun p => same x p) (fun p => .str p.2) (fun σ => σ.objs = objs ∧ ∃ a, σ.loc = [a, some (.str (Txt.lower x))]) (fun σ h => by rw [h.1]; exact hTB.2) (fun e he σ Q' hJ hQ' => ?_) ⟨rfl, _, rfl⟩ fun σ' hJ => ?_
    · obtain ⟨ho, a, hl⟩ := hJ
      obtain ⟨loc, os⟩ := σ
      cases ho; cases hl
      have hq := hQ' ⟨[some (prV e), some (.str (Txt.lower x))], os⟩ ⟨rfl, _, rfl⟩
      walk_at "mine go"
      refine sub0_pr ?_
      walk_at "mine go"
      refine strF_i (low_ok (hT.2 e he).1) ?_
      walk_at "mine go"
      refine eq_s (fun hs => ?_) (fun hs => ?_)
      · walk_at "mine go"
        refine sub1_pr ?_
        have : same x e = true := by unfold same; rw [hs]; simp
        rw [this] at hq
        exact hq
      · walk_at "mine go"
        have : same x e = false := by unfold same; rw [beq_eq_false_iff_ne]; exact hs
        rw [this] at hq
        exact hq
    · obtain ⟨ho, _⟩ := hJ
      rw [ho, List.nil_append]
      walk_at "mine go"
      exact hQ
noncomputable def fd_formatparam : FuncData := (fdO 54).get (by decide +kernel)
theorem is_formatparam : FnIs PG 54 fd_formatparam (stmtsOf fd_formatparam.body) ["param", "value", "quote"] ["param", "value", "quote"] := by
  refine ⟨fun q => fnAt_of (by kernel_rfl), fun q => by kernel_rfl, by kernel_rfl, by kernel_rfl, by kernel_rfl, by kernel_rfl, by kernel_rfl, by kernel_rfl, by kernel_rfl, ?_, ?_, ?_⟩ <;> decide +kernel
noncomputable def fmtP (p y : List Nat) : List Nat := if y = [] then p else p ++ [61, 34] ++ rep 34 [92, 34] (rep 92 [92, 92] y) ++ [34]
noncomputable def spec_fmt : Spec := fun vs kvs objs Q => ∃ p y : List Nat, vs = [.str (S p), .str (S y)] ∧ p.length ≤ 1000 ∧ y.length ≤ 1000 ∧ Q (.str (S (fmtP p y))) objs
theorem rep_len (c : Nat) (z : List Nat) (hz : 1 ≤ z.length) : ∀ l : List Nat, (rep c z l).length ≤ z.length * l.length
  | [] => by simp [rep]
  | k :: r => by
    have ih := rep_len c z hz r
    unfold rep at ih ⊢
    rw [List.flatMap_cons, List.length_append, List.length_cons, Nat.mul_succ]
    by_cases h : k = c
    · rw [if_pos h]; omega
    · rw [if_neg h]
      have e : ([k] : List Nat).length = 1 := rfl
      omega
theorem tr_i {Q : Bool → St → Prop} {σ : St} (h : Q true σ) : truthA (.int 1) Q σ := h
theorem repl_i {x y z : Str} {Q : V → St → Prop} {σ : St} (h1 : x.length ≤ 1048576) (h2 : (y == z) = false) (h3 : z.length ≤ 14) (h : Q (.str (Txt.replace x y z)) σ) : replW y z (.str x) Q σ := ⟨h1, h2, h3, h⟩
theorem fmt_i {x : Str} {Q : V → St → Prop} {σ : St} (h1 : x.length ≤ sizeLine) (h : Q (.str x) σ) : fmtW (.str x) Q σ := ⟨h1, h⟩
theorem joinW_c {f : W V} {fs : List (W V)} {acc : Str} {Q : V → St → Prop} {σ : St} (h : f (fun v σ' => ∃ y, v = .str y ∧ (acc ++ y).length ≤ sizeLine ∧ joinW fs (acc ++ y) Q σ') σ) : joinW (f :: fs) acc Q σ := h
theorem joinW_n {acc : Str} {Q : V → St → Prop} {σ : St} (hz : acc.length ≤ sizeLine) (h : Q (.str acc) σ) : joinW [] acc Q σ := ⟨hz, h⟩
theorem ok_formatparam : FnOK PG 1 54 2 [] spec_fmt := by
  refine fn_ok (full := fun vs _ => vs ++ [.int 1]) is_formatparam (b_cons (q_If (q_and (t_Compare (r_Name (k := 1) (by kernel_rfl)) r_none) (q_and1 (q_CompareI (r_Call (by kernel_rfl) (rs_cons (r_Name (k := 1) (by kernel_rfl)) rs_nil) rk_nil cal_len keep_builtin)))) (p_cons (p_If (t_or (t_plain (r_Name (k := 2) (by kernel_rfl))) (t_or1 (t_plain r_dead))) (p_cons (p_Assign (k := 1) (p_Repl (p_Repl (p_of (r_Name (k := 1) (by kernel_rfl))))) (by kernel_rfl)) (b_cons (s_Return (r_Joined (j_cons (r_Fmt (r_Name (k := 0) (by kernel_rfl))) (j_cons r_str (j_cons (r_Fmt (r_Name (k := 1) (by kernel_rfl))) (j_cons r_str j_nil)))))) b_nil)) (pb_of (b_cons (s_Return r_dead) b_nil))) b_nil) (b_cons (s_Return (r_Name (k := 0) (by kernel_rfl))) b_nil)) b_nil) ?_ ?_
  · intro q s xs kxs X h1 h2
    obtain ⟨a, b, rfl⟩ := len2 h1
    obtain rfl := len0 h2
    exact ⟨[a, b, .int 1 378], kp_binds X (fun _ => by kernel_rfl), fun g vs kvs rv rk => rv.append (.one (by simp only [VR]; exact ⟨_, rfl⟩))⟩
  · intro vs kvs objs Q h1 h2 h
    obtain ⟨p, y, rfl, hp, hy, hQ⟩ := h
    rw [show initLoc ["param", "value", "quote"] ["param", "value", "quote"] ([.str (S p), .str (S y)] ++ [.int 1]) = [some (.str (S p)), some (.str (S y)), some (.int 1)] from by kernel_rfl]
    have hz : 100000 ≤ sizeLine := by decide
    walk_at "mine go"
    refine len_s (szS hy) ?_
    rw [S_len]
    walk_at "mine go"
    refine gt_i (fun h => ?_) (fun h => ?_)
    · walk_at "mine go"
      have e1 : y ≠ [] := fun e => by subst e; simp at h
      have e2 : fmtP p y = p ++ [61, 34] ++ rep 34 [92, 34] (rep 92 [92, 92] y) ++ [34] := if_neg e1
      rw [e2] at hQ
      have l1 := rep_len 92 [92, 92] (by decide) y
      have l2 := rep_len 34 [92, 34] (by decide) (rep 92 [92, 92] y)
      have n1 : ([92, 92] : List Nat).length = 2 := rfl
      have n2 : ([92, 34] : List Nat).length = 2 := rfl
      rw [n1] at l1
      rw [n2] at l2
      refine tr_i ?_
      walk_at "mine go"
      have r1 : (rep 92 [92, 92] y).length ≤ 2000 := Nat.le_trans l1 (Nat.mul_le_mul_left 2 hy)
      have r2 : (rep 34 [92, 34] (rep 92 [92, 92] y)).length ≤ 4000 := Nat.le_trans l2 (Nat.mul_le_mul_left 2 r1)
      refine repl_i (by rw [S_len]; exact Nat.le_trans hy (by decide)) (by decide +kernel) (by decide +kernel) ?_
      rw [show Txt.replace (S y) (Str.ofString "\\") (Str.ofString "\\\\") = S (rep 92 [92, 92] y) from replace_S y 92 [92, 92]]
      refine repl_i (by rw [S_len]; exact Nat.le_trans r1 (by decide)) (by decide +kernel) (by decide +kernel) ?_
      rw [show Txt.replace (S (rep 92 [92, 92] y)) (Str.ofString "\"") (Str.ofString "\\\"") = S (rep 34 [92, 34] (rep 92 [92, 92] y)) from replace_S _ 34 [92, 34]]
      walk_at "mine go"
      have q1 : (Str.ofString "=\"") = S [61, 34] := by decide +kernel
      have q2 : (Str.ofString "\"") = S [34] := by decide +kernel
      have q0 : Str.empty = S [] := by decide +kernel
      rw [q0, q1, q2]
      refine joinW_c ?_
      walk_at "mine go"
      refine fmt_i (szS hp) ⟨_, rfl, ?_, ?_⟩
      · rw [S_app]; exact szS (apL (m := 0) (by decide) hp)
      rw [S_app]
      refine joinW_c ?_
      refine ⟨_, rfl, ?_, ?_⟩
      · rw [S_app]; exact szS (apL (apL (m := 0) (by decide) hp) (by decide : _ ≤ 2))
      rw [S_app]
      refine joinW_c ?_
      walk_at "mine go"
      refine fmt_i (szS r2) ⟨_, rfl, ?_, ?_⟩
      · rw [S_app]; exact szS (apL (apL (apL (m := 0) (by decide) hp) (by decide : _ ≤ 2)) r2)
      rw [S_app]
      refine joinW_c ?_
      refine ⟨_, rfl, ?_, ?_⟩
      · rw [S_app]; exact szS (apL (apL (apL (apL (m := 0) (by decide) hp) (by decide : _ ≤ 2)) r2) (by decide : _ ≤ 1))
      rw [S_app]
      refine joinW_n (szS (apL (apL (apL (apL (m := 0) (by decide) hp) (by decide : _ ≤ 2)) r2) (by decide : _ ≤ 1))) ?_
      walk_at "mine go"
      exact hQ
    · walk_at "mine go"
      have e1 : y = [] := by cases y with | nil => rfl | cons a l => exact absurd (by simp) h
      have e2 : fmtP p y = p := if_pos e1
      rw [e2] at hQ
      exact hQ
end Mine

namespace Mine
theorem mo_add_header : MethO PG C "add_header" 172 := ⟨me_add_header, fun q => by kernel_rfl, fun q => by kernel_rfl, fun q => by kernel_rfl, by decide +kernel, fun q => by kernel_rfl⟩
noncomputable def freeK (k : Str) : Prop := (fd_add_header.params.args.map (·.arg)).contains k = false
theorem bindK (k : Str) (hk : freeK k) (q : Params) (a b c x : Value) : ∃ g₁, peekA (PG.K q) ⟨PG.prog, q⟩ (bindArgs fd_add_header ⟨[a, b, c], [(k, x)]⟩) = some (dictOf [] 0, g₁) ∧
    ∀ D, g₁ D = (fill1 D k x >>= fun _ => pure ((["self", "_name", "_value", "_params"] : List Str).zip ([a, b, c] ++ [Value.ref D]))) := by
  have hc : ((fd_add_header.params.args.map (·.arg)).contains k || (fd_add_header.params.kwonlyargs.map (·.arg)).contains k) = false := by
    have e : (fd_add_header.params.kwonlyargs.map (·.arg)) = [] := by kernel_rfl
    rw [e, show (fd_add_header.params.args.map (·.arg)).contains k = false from hk]; rfl
  unfold bindArgs
  dsimp only
  rw [List.forIn_cons]
  dsimp only
  rw [hc]
  exact ⟨fun D => (fill1 D k x >>= fun _ => pure (((["self", "_name", "_value", "_params"] : List Str).zip ([a, b, c] ++ [Value.ref D])))), by kernel_rfl, fun D => rfl⟩
end Mine

open PySem PySem.W PyProof.Rows PySem.Calls
set_option Elab.async false
set_option maxRecDepth 100000
set_option maxHeartbeats 4000000
set_option linter.unusedVariables false
set_option linter.unusedSimpArgs false

namespace Mine
noncomputable def valK (y kk z : List Nat) : List Nat := y ++ [59, 32] ++ fmtP (rep 95 [45] kk) z
noncomputable def spec_addK (k : Str) : Spec := fun vs kvs objs Q => ∃ (i j : Nat) (L : List (Str × Str)) (x : Str) (y kk z : List Nat), vs = [.inst C i, .str x, .str (S y)] ∧ kvs = [.str (S z)] ∧ k = S kk ∧ TB objs i j (L.map prV) ∧ L.length ≤ 1000 ∧ okN x ∧ okV (S y) ∧ okN (S kk) ∧ okV (S z) ∧
  y.length ≤ 100 ∧ kk.length ≤ 100 ∧ z.length ≤ 100 ∧ ∀ more, Q .none (objs.set j (.list ((L ++ [(x, S (valK y kk z))]).map prV)) ++ more)
theorem fmtP_len (p y : List Nat) : (fmtP p y).length ≤ p.length + 4 * y.length + 3 := by
  unfold fmtP
  split
  · omega
  · have l1 := rep_len 92 [92, 92] (by decide) y
    have l2 := rep_len 34 [92, 34] (by decide) (rep 92 [92, 92] y)
    have n1 : ([92, 92] : List Nat).length = 2 := rfl
    have n2 : ([92, 34] : List Nat).length = 2 := rfl
    rw [n1] at l1
    rw [n2] at l2
    simp only [List.length_append, List.length_cons, List.length_nil]
    omega
theorem ok_add_headerK : ∀ k, freeK k → FnOK PG 2 172 3 [k] (spec_addK k) := by
  intro k hk
  refine fn_okK1 (k := k) (full := fun vs => vs) is_add_header (b_cons (s_Assign (k := 4) (r_ListT rs_nil) (by kernel_rfl)) (b_cons (s_If (t_Compare (r_Name (k := 2) (by kernel_rfl)) r_none) (b_cons (s_Assign (k := 2) (r_Meth (r_Name (k := 0) (by kernel_rfl)) (meth_inst me_conv) (rs_cons (r_Name (k := 2) (by kernel_rfl)) rs_nil) (rk_cons r_bool rk_nil) (cal_fn ok_conv (by decide)) (.inr fun q => by kernel_rfl)) (by kernel_rfl)) (b_cons (s_Expr (r_Meth (r_Name (k := 4) (by kernel_rfl)) (meth_lst F.slot_list_append F.type_list_append) (rs_cons (r_Name (k := 2) (by kernel_rfl)) rs_nil) rk_nil cal_append keep_builtin)) b_nil)) b_nil) (b_cons (s_For (i_items (kx := 3) (by kernel_rfl)) (a_Tuple (as_cons (a_Name (k := 5) (by kernel_rfl)) (as_cons (a_Name (k := 6) (by kernel_rfl)) as_nil))) (b_consA (k := 5) (r_Meth (r_Name (k := 0) (by kernel_rfl)) (meth_inst me_conv) (rs_cons (r_Name (k := 5) (by kernel_rfl)) rs_nil) (rk_cons r_bool rk_nil) (cal_fn ok_conv (by decide)) (.inr fun q => by kernel_rfl)) (by kernel_rfl) (by kernel_rfl) (p_cons (p_If (t_Compare (r_Name (k := 6) (by kernel_rfl)) r_none) (p_cons (p_Expr (p_Meth (r_Name (k := 4) (by kernel_rfl)) (meth_lst F.slot_list_append F.type_list_append) (ps_cons (p_Repl (p_of (r_Name (k := 5) (by kernel_rfl)))) rs_nil) cal_append keep_builtin)) b_nil) (pb_of (b_consA (k := 6) (r_Meth (r_Name (k := 0) (by kernel_rfl)) (meth_inst me_conv) (rs_cons (r_Name (k := 6) (by kernel_rfl)) rs_nil) (rk_cons r_bool rk_nil) (cal_fn ok_conv (by decide)) (.inr fun q => by kernel_rfl)) (by kernel_rfl) (by kernel_rfl) (p_cons (p_Expr (p_Meth (r_Name (k := 4) (by kernel_rfl)) (meth_lst F.slot_list_append F.type_list_append) (ps_cons (p_Call (by kernel_rfl) (ps_cons (p_Repl (p_of (r_Name (k := 5) (by kernel_rfl)))) (rs_cons (r_Name (k := 6) (by kernel_rfl)) rs_nil)) (cal_fn ok_formatparam (by decide)) (.inr fun q => by kernel_rfl)) rs_nil) cal_append keep_builtin)) b_nil)))) b_nil))) (b_cons (s_Expr (r_Meth (r_Attr (r_Name (k := 0) (by kernel_rfl)) at_headers) (meth_lst F.slot_list_append F.type_list_append) (rs_cons (r_Tuple (rs_cons (r_Meth (r_Name (k := 0) (by kernel_rfl)) (meth_inst me_conv) (rs_cons (r_Name (k := 1) (by kernel_rfl)) rs_nil) (rk_cons r_bool rk_nil) (cal_fn ok_conv (by decide)) (.inr fun q => by kernel_rfl)) (rs_cons (by refine' r_Meth ?g1a ?g1b ?g1c ?g1d ?g1e ?g1f; (case g1a => exact r_str); (case g1b => exact (meth_str F.slot_str_join F.type_str_join)); (case g1c => exact (rs_cons (r_Name (k := 4) (by kernel_rfl)) rs_nil)); (case g1d => exact rk_nil); (case g1e => exact cal_join); (case g1f => exact keep_builtin)) rs_nil))) rs_nil) rk_nil cal_append keep_builtin)) b_nil)))) ?_ ?_
  · intro q xs x h1
    obtain ⟨a, b, c, rfl⟩ := len3 h1
    obtain ⟨g₁, e1, e2⟩ := bindK k hk q a b c x
    exact ⟨[a, b, c], g₁, e1, e2, fun g vs rv => rv⟩
  · intro vs v objs Q h1 h
    obtain ⟨i, j, L, x, y, kk, z, rfl, hv, rfl, hTB, hL, hx, hy, hkk, hz, ly, lk, lz, hQ⟩ := h
    cases hv
    rw [show initLoc ["self", "_name", "_value", "_params", "parts", "k", "v"] ["self", "_name", "_value", "_params"] ([.inst C i, .str x, .str (S y)] ++ [.dct objs.length]) = [some (.inst C i), some (.str x), some (.str (S y)), some (.dct objs.length), none, none, none] from by kernel_rfl]
    have hsz : 100000 ≤ sizeLine := by decide
    have hB : ∀ l, TB (objs ++ [.attrs [(S kk, .str (S z))], .list l]) i j (L.map prV) := fun l => tb_keep hTB
    have hP : ∀ l, lstAt (objs ++ [O.attrs [(S kk, .str (S z))], .list l]) (objs.length + 1) = some l := fun l => lst2
    have hPs : ∀ l l', (objs ++ [O.attrs [(S kk, .str (S z))], .list l]).set (objs.length + 1) (.list l') = objs ++ [.attrs [(S kk, .str (S z))], .list l'] := fun l l' => set2
    have hA : ∀ l, (objs ++ [O.attrs [(S kk, .str (S z))], .list l])[objs.length]? = some (.attrs [(S kk, .str (S z))]) := fun l => att2
    refine seqF_of (fun σ => σ = ⟨[some (.inst C i), some (.str x), some (.str (S y)), some (.dct objs.length), some (.ref (objs.length + 1)), none, none], objs ++ [.attrs [(S kk, .str (S z))], .list []]⟩) (fun K hK => ?_) ?_
    · walk_at "mine go"
      refine hK _ ?_
      simp
    rintro _ rfl
    refine seqF_of (fun σ => σ = ⟨[some (.inst C i), some (.str x), some (.str (S y)), some (.dct objs.length), some (.ref (objs.length + 1)), none, none], objs ++ [.attrs [(S kk, .str (S z))], .list [.str (S y)]]⟩) (fun K hK => ?_) ?_
    · walk_at "mine go"
      refine gdW_i (noKey (hB _) (by decide +kernel)) ?_
      walk_at "mine go"
      refine conv_i (hy) ?_
      walk_at "mine go"
      refine gdW_i (isLst_of (hP _)) ?_
      walk_at "mine go"
      refine app_i (hP _) (by simp) ?_
      rw [hPs]
      walk_at "mine go"
      exact hK _ rfl
    rintro _ rfl
    refine seqF_of (fun σ => ∃ a b, σ = ⟨[some (.inst C i), some (.str x), some (.str (S y)), some (.dct objs.length), some (.ref (objs.length + 1)), a, b], objs ++ [.attrs [(S kk, .str (S z))], .list [.str (S y), .str (S (fmtP (rep 95 [45] kk) z))]]⟩) (fun K hK => ?_) ?_
    · walk_at "mine go"
      refine itemsD_i (l := [(S kk, .str (S z))]) (hA _) (by simp) ?_
      refine ⟨hA _, ?_⟩
      show tupT _ _ (V.tup [.str (S kk), .str (S z)]) _ _
      walk_at "mine go"
      refine gdW_i (noKey (hB _) (by decide +kernel)) ?_
      walk_at "mine go"
      refine conv_i (hkk) ?_
      walk_at "mine go"
      refine gdW_i (noKey (hB _) (by decide +kernel)) ?_
      walk_at "mine go"
      refine conv_i (hz) ?_
      walk_at "mine go"
      refine gdW_i (isLst_of (hP _)) ?_
      walk_at "mine go"
      refine repl_i (by rw [S_len]; exact Nat.le_trans lk (by decide)) (by decide +kernel) (by decide +kernel) ?_
      rw [show Txt.replace (S kk) (Str.ofString "_") (Str.ofString "-") = S (rep 95 [45] kk) from replace_S kk 95 [45]]
      walk_at "mine go"
      have l1 := rep_len 95 [45] (by decide) kk
      have n1 : ([45] : List Nat).length = 1 := rfl
      rw [n1] at l1
      refine ⟨_, _, rfl, Nat.le_trans l1 (Nat.le_trans (Nat.mul_le_mul_left 1 lk) (by decide)), Nat.le_trans lz (by decide), ?_⟩
      walk_at "mine go"
      refine app_i (hP _) (leS (m := 1) (Nat.le_refl 1)) ?_
      rw [hPs]
      walk_at "mine go"
      exact ⟨hA _, hK _ ⟨_, _, rfl⟩⟩
    rintro _ ⟨a, b, rfl⟩
    walk_at "mine go"
    refine attr_i (hB _) ?_
    refine gdW_i (isLst_of (hB _).2) ?_
    walk_at "mine go"
    refine gdW_i (noKey (hB _) (by decide +kernel)) ?_
    walk_at "mine go"
    refine conv_i (hx) ?_
    walk_at "mine go"
    have hyl := hy.1
    have fl := fmtP_len (rep 95 [45] kk) z
    have l1 := rep_len 95 [45] (by decide) kk
    have n1 : ([45] : List Nat).length = 1 := rfl
    rw [n1] at l1
    have q1 : (Str.ofString "; ") = S [59, 32] := by decide +kernel
    rw [q1]
    refine join_i (ys := [S y, S (fmtP (rep 95 [45] kk) z)]) (hP _) rfl (by simp only [List.map_cons, List.map_nil, S_len, List.sum_cons, List.sum_nil, List.length_cons, List.length_nil]; omega) ?_
    walk_at "mine go"
    refine app_i (hB _).2 (leK (maL hL)) ?_
    walk_at "mine go"
    have hj : j < objs.length := (List.getElem?_eq_some_iff.mp (lstAt_some hTB.2)).1
    have e0 : Txt.join (S [59, 32]) [S y, S (fmtP (rep 95 [45] kk) z)] = S (valK y kk z) := by
      rw [join_eq]
      show S y ++ S [59, 32] ++ S (fmtP (rep 95 [45] kk) z) = _
      rw [S_app, S_app]; rfl
    rw [e0, List.set_append_left _ _ hj]
    have e1 : L.map prV ++ [V.tup [.str x, .str (S (valK y kk z))]] = (L ++ [(x, S (valK y kk z))]).map prV := by rw [List.map_append]; rfl
    rw [e1]
    exact hQ _
theorem p_free : freeK (S [112]) := by unfold freeK; decide +kernel
theorem ok_add_headerk : FnOK PG 2 172 3 ["p"] (spec_addK (S [112])) := ok_add_headerK (S [112]) p_free
end Mine

namespace Mine
noncomputable def badW (y : Str) : Prop := y.length ≤ 100000 ∧ y.cps.toList.any badV = true
noncomputable def badM (y : Str) : Prop := y.length ≤ 100000 ∧ y.cps.toList.any badN = true
theorem x_contains : FnX PG 3 109 2 [] xspec_get := by
  refine fn_x (full := fun vs _ => vs) is_contains (xb_cons s_dead (x_Return (x_CompareL (x_Meth (r_Name (k := 0) (by kernel_rfl)) (meth_inst me_get) (rs_cons (r_Name (k := 1) (by kernel_rfl)) rs_nil) rk_nil (cal_fnx x_get1 (by decide)) (.inr fun q => by kernel_rfl)))) xb_never) ?_ ?_
  · intro q s xs kxs X h1 h2
    obtain ⟨a, b, rfl⟩ := len2 h1
    obtain rfl := len0 h2
    exact ⟨[a, b], kp_binds X (fun _ => by kernel_rfl), fun g vs kvs rv rk => rv⟩
  · intro vs kvs objs Q h1 h2 h
    obtain ⟨i, j, L, x, rfl, hTB, hx, hQ⟩ := h
    rw [show initLoc ["self", "name"] ["self", "name"] [.inst C i, .str x] = [some (.inst C i), some (.str x)] from by kernel_rfl]
    refine .inl ?_
    walk_at "mine go"
    refine gdW_i (noKey hTB (by decide +kernel)) ?_
    walk_at "mine go"
    exact ⟨rfl, rfl, i, j, L, x, rfl, hTB, hx, hQ⟩
theorem x_get2 : FnX PG 2 122 3 [] xspec_get2 := by
  obtain ⟨fb, hb, hrun⟩ := x_get_body
  refine fn_x (full := fun vs _ => vs) is_get hb ?_ ?_
  · intro q s xs kxs X h1 h2
    obtain ⟨a, b, c, rfl⟩ := len3 h1
    obtain rfl := len0 h2
    exact ⟨[a, b, c], kp_binds X (fun _ => by kernel_rfl), fun g vs kvs rv rk => rv⟩
  · intro vs kvs objs Q h1 h2 h
    obtain ⟨i, j, L, x, d, rfl, hTB, hx, hQ⟩ := h
    exact hrun _ _ _ ⟨i, j, L, x, d, rfl, hTB, hx, hQ⟩
theorem x_get_all : FnX PG 2 114 2 [] xspec_get := by
  refine fn_x (full := fun vs _ => vs) is_get_all (xb_cons s_dead (x_Assign (x_Meth (r_Name (k := 0) (by kernel_rfl)) (meth_inst me_conv) (rs_cons (r_Meth (r_Name (k := 1) (by kernel_rfl)) (meth_str F.slot_str_lower F.type_str_lower) rs_nil rk_nil cal_lower keep_builtin) rs_nil) (rk_cons r_bool rk_nil) (cal_fnx x_conv (by decide)) (.inr fun q => by kernel_rfl))) xb_never) ?_ ?_
  · intro q s xs kxs X h1 h2
    obtain ⟨a, b, rfl⟩ := len2 h1
    obtain rfl := len0 h2
    exact ⟨[a, b], kp_binds X (fun _ => by kernel_rfl), fun g vs kvs rv rk => rv⟩
  · intro vs kvs objs Q h1 h2 h
    obtain ⟨i, j, L, x, rfl, hTB, hx, hQ⟩ := h
    rw [show initLoc ["self", "name"] ["self", "name"] [.inst C i, .str x] = [some (.inst C i), some (.str x)] from by kernel_rfl]
    refine .inl ?_
    walk_at "mine go"
    refine gdW_i (noKey hTB (by decide +kernel)) ?_
    walk_at "mine go"
    refine strF_i (low5 hx.1) ?_
    walk_at "mine go"
    exact ⟨rfl, rfl, xconv_i (x := Txt.lower x) (b := true) (hx.2.1) (hx.2.2) (hQ)⟩
/-- a store that is refused: for its name, or, behind the delete, for its value -/
noncomputable def xspec_set : XSpec := fun vs kvs objs Q => ∃ i j L x y, vs = [.inst C i, .str x, .str y] ∧ TB objs i j (L.map prV) ∧ ((badK x ∧ Q ctlX objs) ∨ (Tab L ∧ okK x ∧ badW y ∧ Q ctlX (objs.set j (.list ((delL L x).map prV)))))
theorem x_setitem : FnX PG 3 90 3 [] xspec_set := by
  refine fn_x (full := fun vs _ => vs) is_setitem (xb_cons (s_DelInst (r_Name (k := 0) (by kernel_rfl)) (r_Name (k := 1) (by kernel_rfl)) sp_delitem ok_delitem (by decide)) (x_DelInst (r_Name (k := 0) (by kernel_rfl)) (r_Name (k := 1) (by kernel_rfl)) sp_delitem x_delitem (by decide)) (xb_cons s_dead (x_Expr (x_MethA (r_Attr (r_Name (k := 0) (by kernel_rfl)) at_headers) (meth_lst F.slot_list_append F.type_list_append) (xs_cons r_dead (x_Tuple (xs_cons (r_Meth (r_Name (k := 0) (by kernel_rfl)) (meth_inst me_conv) (rs_cons (r_Name (k := 1) (by kernel_rfl)) rs_nil) (rk_cons r_bool rk_nil) (cal_fn ok_conv (by decide)) (.inr fun q => by kernel_rfl)) (x_Meth (r_Name (k := 0) (by kernel_rfl)) (meth_inst me_conv) (rs_cons (r_Name (k := 1) (by kernel_rfl)) rs_nil) (rk_cons r_bool rk_nil) (cal_fnx x_conv (by decide)) (.inr fun q => by kernel_rfl)) (xs_cons r_dead (x_Meth (r_Name (k := 0) (by kernel_rfl)) (meth_inst me_conv) (rs_cons (r_Name (k := 2) (by kernel_rfl)) rs_nil) (rk_cons r_bool rk_nil) (cal_fnx x_conv (by decide)) (.inr fun q => by kernel_rfl)) xs_nil))) xs_nil) keep_builtin)) xb_never)) ?_ ?_
  · intro q s xs kxs X h1 h2
    obtain ⟨a, b, c, rfl⟩ := len3 h1
    obtain rfl := len0 h2
    exact ⟨[a, b, c], kp_binds X (fun _ => by kernel_rfl), fun g vs kvs rv rk => rv⟩
  · intro vs kvs objs Q h1 h2 h
    obtain ⟨i, j, L, x, y, rfl, hTB, h⟩ := h
    rw [show initLoc ["self", "name", "val"] ["self", "name", "val"] [.inst C i, .str x, .str y] = [some (.inst C i), some (.str x), some (.str y)] from by kernel_rfl]
    rcases h with ⟨hx, hQ⟩ | ⟨hT, hx, hy, hQ⟩
    · refine .inl ?_
      walk_at "mine go"
      exact ⟨rfl, ⟨_, hTB.1⟩, rfl, i, j, _, x, rfl, hTB, hx, hQ⟩
    · refine .inr ?_
      refine bnd_i ?_
      walk_at "mine go"
      refine instW_i hTB.1 rfl ⟨i, j, L, x, rfl, hTB, hT, hx, ?_⟩
      have hB := hTB.set (l' := (delL L x).map prV)
      walk_at "mine go"
      refine .inl ?_
      walk_at "mine go"
      refine attr_i hB ?_
      refine gdW_i (isLst_of hB.2) ?_
      refine .inl (.inr ?_)
      walk_at "mine go"
      refine gdW_i (noKey hB (by decide +kernel)) ?_
      walk_at "mine go"
      refine conv_i (hx.1) ?_
      refine .inl ?_
      walk_at "mine go"
      refine gdW_i (noKey hB (by decide +kernel)) ?_
      walk_at "mine go"
      exact ⟨rfl, rfl, xconv_i (x := y) (b := false) (hy.1) (hy.2) (hQ)⟩
noncomputable def xspec_setd : XSpec := fun vs kvs objs Q => ∃ i j L x y, vs = [.inst C i, .str x, .str y] ∧ TB objs i j (L.map prV) ∧ ((badK x ∧ Q ctlX objs) ∨ (Tab L ∧ okK x ∧ L.find? (same x) = none ∧ badW y ∧ Q ctlX objs))
theorem x_setdefault : FnX PG 3 165 3 [] xspec_setd := by
  refine fn_x (full := fun vs _ => vs) is_setdefault (xb_cons (s_Assign (k := 3) (r_Meth (r_Name (k := 0) (by kernel_rfl)) (meth_inst me_get) (rs_cons (r_Name (k := 1) (by kernel_rfl)) rs_nil) rk_nil (cal_fn ok_get1 (by decide)) (.inr fun q => by kernel_rfl)) (by kernel_rfl)) (x_Assign (x_Meth (r_Name (k := 0) (by kernel_rfl)) (meth_inst me_get) (rs_cons (r_Name (k := 1) (by kernel_rfl)) rs_nil) rk_nil (cal_fnx x_get1 (by decide)) (.inr fun q => by kernel_rfl))) (xb_cons s_dead (x_If (t_Compare (r_Name (k := 3) (by kernel_rfl)) r_none) (xb_cons s_dead (x_Expr (x_MethA (r_Attr (r_Name (k := 0) (by kernel_rfl)) at_headers) (meth_lst F.slot_list_append F.type_list_append) (xs_cons r_dead (x_Tuple (xs_cons (r_Meth (r_Name (k := 0) (by kernel_rfl)) (meth_inst me_conv) (rs_cons (r_Name (k := 1) (by kernel_rfl)) rs_nil) (rk_cons r_bool rk_nil) (cal_fn ok_conv (by decide)) (.inr fun q => by kernel_rfl)) (x_Meth (r_Name (k := 0) (by kernel_rfl)) (meth_inst me_conv) (rs_cons (r_Name (k := 1) (by kernel_rfl)) rs_nil) (rk_cons r_bool rk_nil) (cal_fnx x_conv (by decide)) (.inr fun q => by kernel_rfl)) (xs_cons r_dead (x_Meth (r_Name (k := 0) (by kernel_rfl)) (meth_inst me_conv) (rs_cons (r_Name (k := 2) (by kernel_rfl)) rs_nil) (rk_cons r_bool rk_nil) (cal_fnx x_conv (by decide)) (.inr fun q => by kernel_rfl)) xs_nil))) xs_nil) keep_builtin)) xb_never) xb_never) xb_never)) ?_ ?_
  · intro q s xs kxs X h1 h2
    obtain ⟨a, b, c, rfl⟩ := len3 h1
    obtain rfl := len0 h2
    exact ⟨[a, b, c], kp_binds X (fun _ => by kernel_rfl), fun g vs kvs rv rk => rv⟩
  · intro vs kvs objs Q h1 h2 h
    obtain ⟨i, j, L, x, y, rfl, hTB, h⟩ := h
    rw [show initLoc ["self", "name", "value", "result"] ["self", "name", "value"] [.inst C i, .str x, .str y] = [some (.inst C i), some (.str x), some (.str y), none] from by kernel_rfl]
    rcases h with ⟨hx, hQ⟩ | ⟨hT, hx, hf, hy, hQ⟩
    · refine .inl ?_
      walk_at "mine go"
      refine gdW_i (noKey hTB (by decide +kernel)) ?_
      walk_at "mine go"
      exact ⟨rfl, rfl, i, j, _, x, rfl, hTB, hx, hQ⟩
    · refine .inr ?_
      refine bnd_i ?_
      walk_at "mine go"
      refine gdW_i (noKey hTB (by decide +kernel)) ?_
      walk_at "mine go"
      refine ⟨i, j, L, x, rfl, hTB, hT, hx, ?_⟩
      unfold getL
      rw [hf]
      walk_at "mine go"
      refine .inl ?_
      walk_at "mine go"
      refine .inl ?_
      walk_at "mine go"
      refine attr_i hTB ?_
      refine gdW_i (isLst_of hTB.2) ?_
      refine .inl (.inr ?_)
      walk_at "mine go"
      refine gdW_i (noKey hTB (by decide +kernel)) ?_
      walk_at "mine go"
      refine conv_i (hx.1) ?_
      refine .inl ?_
      walk_at "mine go"
      refine gdW_i (noKey hTB (by decide +kernel)) ?_
      walk_at "mine go"
      exact ⟨rfl, rfl, xconv_i (x := y) (b := false) (hy.1) (hy.2) (hQ)⟩
noncomputable def xspec_addh : XSpec := fun vs kvs objs Q => ∃ (i j : Nat) (L : List (Str × Str)) (x y : Str), vs = [.inst C i, .str x, .str y] ∧ TB objs i j (L.map prV) ∧ L.length ≤ 1000 ∧ (badW y ∨ (okV y ∧ badM x)) ∧ ∀ more, Q ctlX (objs ++ more)
theorem x_add_header : FnX PG 2 172 3 [] xspec_addh := by
  refine fn_xK0 (full := fun vs => vs) is_add_header (xb_cons (s_Assign (k := 4) (r_ListT rs_nil) (by kernel_rfl)) xs_never (xb_cons (s_If (t_Compare (r_Name (k := 2) (by kernel_rfl)) r_none) (b_cons (s_Assign (k := 2) (r_Meth (r_Name (k := 0) (by kernel_rfl)) (meth_inst me_conv) (rs_cons (r_Name (k := 2) (by kernel_rfl)) rs_nil) (rk_cons r_bool rk_nil) (cal_fn ok_conv (by decide)) (.inr fun q => by kernel_rfl)) (by kernel_rfl)) (b_cons (s_Expr (r_Meth (r_Name (k := 4) (by kernel_rfl)) (meth_lst F.slot_list_append F.type_list_append) (rs_cons (r_Name (k := 2) (by kernel_rfl)) rs_nil) rk_nil cal_append keep_builtin)) b_nil)) b_nil) (x_If (t_Compare (r_Name (k := 2) (by kernel_rfl)) r_none) (xb_cons s_dead (x_Assign (x_Meth (r_Name (k := 0) (by kernel_rfl)) (meth_inst me_conv) (rs_cons (r_Name (k := 2) (by kernel_rfl)) rs_nil) (rk_cons r_bool rk_nil) (cal_fnx x_conv (by decide)) (.inr fun q => by kernel_rfl))) xb_never) xb_never) (xb_cons (s_For (i_items (kx := 3) (by kernel_rfl)) (a_Tuple (as_cons (a_Name (k := 5) (by kernel_rfl)) (as_cons (a_Name (k := 6) (by kernel_rfl)) as_nil))) b_dead) xs_never (xb_cons s_dead (x_Expr (x_MethA (r_Attr (r_Name (k := 0) (by kernel_rfl)) at_headers) (meth_lst F.slot_list_append F.type_list_append) (xs_cons r_dead (x_Tuple (xs_cons r_dead (x_Meth (r_Name (k := 0) (by kernel_rfl)) (meth_inst me_conv) (rs_cons (r_Name (k := 1) (by kernel_rfl)) rs_nil) (rk_cons r_bool rk_nil) (cal_fnx x_conv (by decide)) (.inr fun q => by kernel_rfl)) xes_never)) xs_nil) keep_builtin)) xb_never)))) ?_ ?_
  · intro q xs h1
    obtain ⟨a, b, c, rfl⟩ := len3 h1
    exact ⟨[a, b, c], by kernel_rfl, fun g vs rv => rv⟩
  · intro vs objs Q h1 h
    obtain ⟨i, j, L, x, y, rfl, hTB, hL, hb, hQ⟩ := h
    rw [show initLoc ["self", "_name", "_value", "_params", "parts", "k", "v"] ["self", "_name", "_value", "_params"] ([.inst C i, .str x, .str y] ++ [.dct objs.length]) = [some (.inst C i), some (.str x), some (.str y), some (.dct objs.length), none, none, none] from by kernel_rfl]
    have hB : ∀ l, TB (objs ++ [.attrs [], .list l]) i j (L.map prV) := fun l => tb_keep hTB
    have hP : ∀ l, lstAt (objs ++ [O.attrs [], .list l]) (objs.length + 1) = some l := fun l => lst2
    have hPs : ∀ l l', (objs ++ [O.attrs [], .list l]).set (objs.length + 1) (.list l') = objs ++ [.attrs [], .list l'] := fun l l' => set2
    have hA : ∀ l, (objs ++ [O.attrs [], .list l])[objs.length]? = some (.attrs []) := fun l => att2
    refine .inr ?_
    refine bnd_i ?_
    walk_at "mine go"
    have e1 : objs ++ [O.attrs []] ++ [O.list []] = objs ++ [.attrs [], .list []] := by simp
    have e2 : (objs ++ [O.attrs []]).length = objs.length + 1 := by simp
    rw [e1, e2]
    rcases hb with hy | ⟨hy, hx⟩
    · refine .inl ?_
      walk_at "mine go"
      refine .inl ?_
      walk_at "mine go"
      refine gdW_i (noKey (hB _) (by decide +kernel)) ?_
      walk_at "mine go"
      exact ⟨rfl, rfl, xconv_i (x := y) (b := false) (hy.1) (hy.2) (hQ _)⟩
    · refine .inr ?_
      refine bnd_i ?_
      walk_at "mine go"
      refine gdW_i (noKey (hB _) (by decide +kernel)) ?_
      walk_at "mine go"
      refine conv_i (hy) ?_
      walk_at "mine go"
      refine gdW_i (isLst_of (hP _)) ?_
      walk_at "mine go"
      refine app_i (hP _) (by simp) ?_
      rw [hPs]
      walk_at "mine go"
      refine .inr ?_
      refine bnd_i ?_
      walk_at "mine go"
      refine itemsD_i (l := []) (hA _) List.nodup_nil ?_
      refine ⟨hA _, ?_⟩
      refine .inl ?_
      walk_at "mine go"
      refine attr_i (hB _) ?_
      refine gdW_i (isLst_of (hB _).2) ?_
      refine .inl (.inl ?_)
      walk_at "mine go"
      refine gdW_i (noKey (hB _) (by decide +kernel)) ?_
      walk_at "mine go"
      exact ⟨rfl, rfl, xconv_i (x := x) (b := true) (hx.1) (hx.2) (hQ _)⟩
noncomputable def xspec_addK (k : Str) : XSpec := fun vs kvs objs Q => ∃ (i j : Nat) (L : List (Str × Str)) (x y z : Str), vs = [.inst C i, .str x, .str y] ∧ kvs = [.str z] ∧ TB objs i j (L.map prV) ∧ okV y ∧ (badM k ∨ (okN k ∧ badW z)) ∧ ∀ more, Q ctlX (objs ++ more)
theorem x_add_headerK : ∀ k, freeK k → FnX PG 2 172 3 [k] (xspec_addK k) := by
  intro k hk
  refine fn_xK1 (k := k) (full := fun vs => vs) is_add_header (xb_cons (s_Assign (k := 4) (r_ListT rs_nil) (by kernel_rfl)) xs_never (xb_cons (s_If (t_Compare (r_Name (k := 2) (by kernel_rfl)) r_none) (b_cons (s_Assign (k := 2) (r_Meth (r_Name (k := 0) (by kernel_rfl)) (meth_inst me_conv) (rs_cons (r_Name (k := 2) (by kernel_rfl)) rs_nil) (rk_cons r_bool rk_nil) (cal_fn ok_conv (by decide)) (.inr fun q => by kernel_rfl)) (by kernel_rfl)) (b_cons (s_Expr (r_Meth (r_Name (k := 4) (by kernel_rfl)) (meth_lst F.slot_list_append F.type_list_append) (rs_cons (r_Name (k := 2) (by kernel_rfl)) rs_nil) rk_nil cal_append keep_builtin)) b_nil)) b_nil) (x_If (t_Compare (r_Name (k := 2) (by kernel_rfl)) r_none) (xb_cons s_dead (x_Assign (x_Meth (r_Name (k := 0) (by kernel_rfl)) (meth_inst me_conv) (rs_cons (r_Name (k := 2) (by kernel_rfl)) rs_nil) (rk_cons r_bool rk_nil) (cal_fnx x_conv (by decide)) (.inr fun q => by kernel_rfl))) xb_never) xb_never) (xb_cons (s_For (i_items (kx := 3) (by kernel_rfl)) (a_Tuple (as_cons (a_Name (k := 5) (by kernel_rfl)) (as_cons (a_Name (k := 6) (by kernel_rfl)) as_nil))) (b_consA (k := 5) (r_Meth (r_Name (k := 0) (by kernel_rfl)) (meth_inst me_conv) (rs_cons (r_Name (k := 5) (by kernel_rfl)) rs_nil) (rk_cons r_bool rk_nil) (cal_fn ok_conv (by decide)) (.inr fun q => by kernel_rfl)) (by kernel_rfl) (by kernel_rfl) (p_cons (p_If (t_Compare (r_Name (k := 6) (by kernel_rfl)) r_none) (p_cons (p_Expr (p_Meth (r_Name (k := 4) (by kernel_rfl)) (meth_lst F.slot_list_append F.type_list_append) (ps_cons (p_Repl (p_of (r_Name (k := 5) (by kernel_rfl)))) rs_nil) cal_append keep_builtin)) b_nil) (pb_of (b_consA (k := 6) (r_Meth (r_Name (k := 0) (by kernel_rfl)) (meth_inst me_conv) (rs_cons (r_Name (k := 6) (by kernel_rfl)) rs_nil) (rk_cons r_bool rk_nil) (cal_fn ok_conv (by decide)) (.inr fun q => by kernel_rfl)) (by kernel_rfl) (by kernel_rfl) (p_cons (p_Expr (p_Meth (r_Name (k := 4) (by kernel_rfl)) (meth_lst F.slot_list_append F.type_list_append) (ps_cons (p_Call (by kernel_rfl) (ps_cons (p_Repl (p_of (r_Name (k := 5) (by kernel_rfl)))) (rs_cons (r_Name (k := 6) (by kernel_rfl)) rs_nil)) (cal_fn ok_formatparam (by decide)) (.inr fun q => by kernel_rfl)) rs_nil) cal_append keep_builtin)) b_nil)))) b_nil))) (x_For (i_items (kx := 3) (by kernel_rfl)) (a_Tuple (as_cons (a_Name (k := 5) (by kernel_rfl)) (as_cons (a_Name (k := 6) (by kernel_rfl)) as_nil))) xa_never b_dead (xb_cons (s_Assign (k := 5) (r_Meth (r_Name (k := 0) (by kernel_rfl)) (meth_inst me_conv) (rs_cons (r_Name (k := 5) (by kernel_rfl)) rs_nil) (rk_cons r_bool rk_nil) (cal_fn ok_conv (by decide)) (.inr fun q => by kernel_rfl)) (by kernel_rfl)) (x_Assign (x_Meth (r_Name (k := 0) (by kernel_rfl)) (meth_inst me_conv) (rs_cons (r_Name (k := 5) (by kernel_rfl)) rs_nil) (rk_cons r_bool rk_nil) (cal_fnx x_conv (by decide)) (.inr fun q => by kernel_rfl))) (xb_cons s_dead (x_If (t_Compare (r_Name (k := 6) (by kernel_rfl)) r_none) xb_never (xb_cons s_dead (x_Assign (x_Meth (r_Name (k := 0) (by kernel_rfl)) (meth_inst me_conv) (rs_cons (r_Name (k := 6) (by kernel_rfl)) rs_nil) (rk_cons r_bool rk_nil) (cal_fnx x_conv (by decide)) (.inr fun q => by kernel_rfl))) xb_never)) xb_never))) (xb_cons s_dead (x_Expr (x_MethA (r_Attr (r_Name (k := 0) (by kernel_rfl)) at_headers) (meth_lst F.slot_list_append F.type_list_append) (xs_cons r_dead (x_Tuple (xs_cons r_dead (x_Meth (r_Name (k := 0) (by kernel_rfl)) (meth_inst me_conv) (rs_cons (r_Name (k := 1) (by kernel_rfl)) rs_nil) (rk_cons r_bool rk_nil) (cal_fnx x_conv (by decide)) (.inr fun q => by kernel_rfl)) xes_never)) xs_nil) keep_builtin)) xb_never)))) ?_ ?_
  · intro q xs x h1
    obtain ⟨a, b, c, rfl⟩ := len3 h1
    obtain ⟨g₁, e1, e2⟩ := bindK k hk q a b c x
    exact ⟨[a, b, c], g₁, e1, e2, fun g vs rv => rv⟩
  · intro vs v objs Q h1 h
    obtain ⟨i, j, L, x, y, z, rfl, hv, hTB, hy, hb, hQ⟩ := h
    cases hv
    rw [show initLoc ["self", "_name", "_value", "_params", "parts", "k", "v"] ["self", "_name", "_value", "_params"] ([.inst C i, .str x, .str y] ++ [.dct objs.length]) = [some (.inst C i), some (.str x), some (.str y), some (.dct objs.length), none, none, none] from by kernel_rfl]
    have hB : ∀ l, TB (objs ++ [.attrs [(k, .str z)], .list l]) i j (L.map prV) := fun l => tb_keep hTB
    have hP : ∀ l, lstAt (objs ++ [O.attrs [(k, .str z)], .list l]) (objs.length + 1) = some l := fun l => lst2
    have hPs : ∀ l l', (objs ++ [O.attrs [(k, .str z)], .list l]).set (objs.length + 1) (.list l') = objs ++ [.attrs [(k, .str z)], .list l'] := fun l l' => set2
    have hA : ∀ l, (objs ++ [O.attrs [(k, .str z)], .list l])[objs.length]? = some (.attrs [(k, .str z)]) := fun l => att2
    refine .inr ?_
    refine bnd_i ?_
    walk_at "mine go"
    have e1 : objs ++ [O.attrs [(k, .str z)]] ++ [O.list []] = objs ++ [.attrs [(k, .str z)], .list []] := by simp
    have e2 : (objs ++ [O.attrs [(k, .str z)]]).length = objs.length + 1 := by simp
    rw [e1, e2]
    refine .inr ?_
    refine bnd_i ?_
    walk_at "mine go"
    refine gdW_i (noKey (hB _) (by decide +kernel)) ?_
    walk_at "mine go"
    refine conv_i (hy) ?_
    walk_at "mine go"
    refine gdW_i (isLst_of (hP _)) ?_
    walk_at "mine go"
    refine app_i (hP _) (by simp) ?_
    rw [hPs]
    walk_at "mine go"
    refine .inl ?_
    walk_at "mine go"
    refine itemsD_i (l := [(k, .str z)]) (hA _) (by simp) ?_
    refine ⟨hA _, .inr ?_⟩
    show tupT _ _ (V.tup [.str k, .str z]) _ _
    walk_at "mine go"
    refine .inl ?_
    rcases hb with hx | ⟨hx, hz⟩
    · refine .inl ?_
      walk_at "mine go"
      refine gdW_i (noKey (hB _) (by decide +kernel)) ?_
      walk_at "mine go"
      exact ⟨rfl, rfl, xconv_i (x := k) (b := true) (hx.1) (hx.2) (hQ _)⟩
    · refine .inr ?_
      refine bnd_i ?_
      walk_at "mine go"
      refine gdW_i (noKey (hB _) (by decide +kernel)) ?_
      walk_at "mine go"
      refine conv_i (hx) ?_
      walk_at "mine go"
      refine .inl ?_
      walk_at "mine go"
      refine .inl ?_
      walk_at "mine go"
      refine gdW_i (noKey (hB _) (by decide +kernel)) ?_
      walk_at "mine go"
      exact ⟨rfl, rfl, xconv_i (x := z) (b := false) (hz.1) (hz.2) (hQ _)⟩
theorem x_add_headerk : FnX PG 2 172 3 ["p"] (xspec_addK (S [112])) := x_add_headerK (S [112]) p_free
noncomputable def xspec_init : XSpec := fun vs kvs objs Q => ∃ i j x y, vs = [.inst C i, .ref j] ∧ objs[i]? = some (.attrs []) ∧ lstAt objs j = some [prV (x, y)] ∧ (badM x ∨ (okN x ∧ badW y)) ∧ Q ctlX (objs.set i (.attrs [("_headers", .ref j)]))
theorem x_init : FnX PG 2 69 2 [] xspec_init := by
  refine fn_x (full := fun vs _ => vs) is_init (xb_cons (s_Assign (k := 1) (r_IfExp (t_Compare (r_Name (k := 1) (by kernel_rfl)) r_none) (r_Name (k := 1) (by kernel_rfl)) (r_ListT rs_nil)) (by kernel_rfl)) xs_never (xb_cons (s_If (t_Compare (r_Call (by kernel_rfl) (rs_cons (r_Name (k := 1) (by kernel_rfl)) rs_nil) rk_nil cal_type keep_type) (r_Glob (v := .type "list") (by kernel_rfl))) b_dead b_nil) (x_If (t_Compare (r_Call (by kernel_rfl) (rs_cons (r_Name (k := 1) (by kernel_rfl)) rs_nil) rk_nil cal_type keep_type) (r_Glob (v := .type "list") (by kernel_rfl))) (xb_cons s_dead (x_Raise F.excCall_TypeError F.excRaise_TypeError (by kernel_rfl) (rs_cons r_str rs_nil)) xb_never) xb_never) (xb_cons (s_AssignT (r_Name (k := 1) (by kernel_rfl)) (a_Attr (r_Name (k := 0) (by kernel_rfl)) se_headers)) xs_never (xb_cons s_dead (x_If (t_plain r_bool) (xb_cons s_dead (x_For (i_seq (r_Name (k := 1) (by kernel_rfl))) (a_Tuple (as_cons (a_Name (k := 2) (by kernel_rfl)) (as_cons (a_Name (k := 3) (by kernel_rfl)) as_nil))) xa_never (b_cons (s_Expr (r_Meth (r_Name (k := 0) (by kernel_rfl)) (meth_inst me_conv) (rs_cons (r_Name (k := 2) (by kernel_rfl)) rs_nil) (rk_cons r_bool rk_nil) (cal_fn ok_conv (by decide)) (.inr fun q => by kernel_rfl))) (b_cons (s_Expr (r_Meth (r_Name (k := 0) (by kernel_rfl)) (meth_inst me_conv) (rs_cons (r_Name (k := 3) (by kernel_rfl)) rs_nil) (rk_cons r_bool rk_nil) (cal_fn ok_conv (by decide)) (.inr fun q => by kernel_rfl))) b_nil)) (xb_cons (s_Expr (r_Meth (r_Name (k := 0) (by kernel_rfl)) (meth_inst me_conv) (rs_cons (r_Name (k := 2) (by kernel_rfl)) rs_nil) (rk_cons r_bool rk_nil) (cal_fn ok_conv (by decide)) (.inr fun q => by kernel_rfl))) (x_Expr (x_Meth (r_Name (k := 0) (by kernel_rfl)) (meth_inst me_conv) (rs_cons (r_Name (k := 2) (by kernel_rfl)) rs_nil) (rk_cons r_bool rk_nil) (cal_fnx x_conv (by decide)) (.inr fun q => by kernel_rfl))) (xb_cons s_dead (x_Expr (x_Meth (r_Name (k := 0) (by kernel_rfl)) (meth_inst me_conv) (rs_cons (r_Name (k := 3) (by kernel_rfl)) rs_nil) (rk_cons r_bool rk_nil) (cal_fnx x_conv (by decide)) (.inr fun q => by kernel_rfl))) xb_never))) xb_never) xb_never) xb_never)))) ?_ ?_
  · intro q s xs kxs X h1 h2
    obtain ⟨a, b, rfl⟩ := len2 h1
    obtain rfl := len0 h2
    exact ⟨[a, b], kp_binds X (fun _ => by kernel_rfl), fun g vs kvs rv rk => rv⟩
  · intro vs kvs objs Q h1 h2 h
    obtain ⟨i, j, x, y, rfl, hi, hj, hb, hQ⟩ := h
    rw [show initLoc ["self", "headers", "k", "v"] ["self", "headers"] [.inst C i, .ref j] = [some (.inst C i), some (.ref j), none, none] from by kernel_rfl]
    have hne : i ≠ j := fun e => by subst e; unfold lstAt at hj; rw [hi] at hj; cases hj
    have hget : (objs.set i (.attrs [("_headers", .ref j)]))[i]? = some (.attrs [("_headers", .ref j)]) := List.getElem?_set_self (List.getElem?_eq_some_iff.mp hi).1
    have hB : TB (objs.set i (.attrs [("_headers", .ref j)])) i j [prV (x, y)] := ⟨hget, by rw [lst_set_ne hne]; exact hj⟩
    refine .inr ?_
    refine bnd_i ?_
    walk_at "mine go"
    refine .inr ?_
    refine bnd_i ?_
    walk_at "mine go"
    refine type_i hj ?_
    walk_at "mine go"
    refine isnt_t ?_
    walk_at "mine go"
    refine .inr ?_
    refine bnd_i ?_
    walk_at "mine go"
    refine setAttr_i hi ?_
    walk_at "mine go"
    refine .inl ?_
    walk_at "mine go"
    refine .inl ?_
    walk_at "mine go"
    refine itm_l hB.2 ?_
    refine ⟨hB.2, .inr ?_⟩
    show tupT _ _ (V.tup [.str x, .str y]) _ _
    walk_at "mine go"
    refine .inl ?_
    rcases hb with hx | ⟨hx, hz⟩
    · refine .inl ?_
      walk_at "mine go"
      refine gdW_i (noKey hB (by decide +kernel)) ?_
      walk_at "mine go"
      exact ⟨rfl, rfl, xconv_i (x := x) (b := true) (hx.1) (hx.2) (hQ)⟩
    · refine .inr ?_
      refine bnd_i ?_
      walk_at "mine go"
      refine gdW_i (noKey hB (by decide +kernel)) ?_
      walk_at "mine go"
      refine conv_i (hx) ?_
      walk_at "mine go"
      refine .inl ?_
      walk_at "mine go"
      refine gdW_i (noKey hB (by decide +kernel)) ?_
      walk_at "mine go"
      exact ⟨rfl, rfl, xconv_i (x := y) (b := false) (hz.1) (hz.2) (hQ)⟩
end Mine

open PySem PySem.W PyProof.Rows PySem.Calls
set_option Elab.async false
set_option maxRecDepth 100000
set_option maxHeartbeats 4000000
set_option linter.unusedVariables false
set_option linter.unusedSimpArgs false

namespace Mine
noncomputable def Same (ks : List Nat) (a b : List O) : Prop := a.length ≤ b.length ∧ ∀ k, k < a.length → k ∉ ks → b[k]? = a[k]?
theorem Same.refl (a : List O) : Same [] a a := ⟨Nat.le_refl _, fun _ _ _ => rfl⟩
theorem Same.set (a : List O) (k : Nat) (o : O) : Same [k] a (a.set k o) := ⟨by simp, fun i hi hk => by rw [List.getElem?_set_ne]; intro e; exact hk (by simp [e])⟩
theorem Same.trans {ks ks' : List Nat} {a b c : List O} (h : Same ks a b) (h' : Same ks' b c) : Same (ks ++ ks') a c :=
  ⟨Nat.le_trans h.1 h'.1, fun k hk hn => by
    rw [h'.2 k (Nat.lt_of_lt_of_le hk h.1) (fun e => hn (List.mem_append_right _ e)), h.2 k hk (fun e => hn (List.mem_append_left _ e))]⟩
theorem lst_lt {objs : List O} {j : Nat} {l : List V} (h : lstAt objs j = some l) : j < objs.length := (List.getElem?_eq_some_iff.mp (lstAt_some h)).1
theorem Same.lst {ks : List Nat} {a b : List O} (h : Same ks a b) {j : Nat} {l : List V} (hj : lstAt a j = some l) (hn : j ∉ ks) : lstAt b j = some l := by
  unfold lstAt; rw [h.2 j (lst_lt hj) hn]; exact hj
theorem lst_app {objs m : List O} {j : Nat} {l : List V} (h : lstAt objs j = some l) : lstAt (objs ++ m) j = some l := (Ext.lst ⟨m, rfl⟩ h)
theorem lst_new {objs : List O} {l : List V} : lstAt (objs ++ [.list l]) objs.length = some l := by simp [lstAt]
theorem fmod_nat (n : Int) (k : Nat) (hk : 0 < k) : ∃ r : Nat, n.fmod (k : Int) = (r : Int) ∧ r < k := by
  have hk' : (0 : Int) < (k : Int) := Int.ofNat_lt.mpr hk
  have h0 := Int.fmod_nonneg_of_pos n hk'
  have h1 := Int.fmod_lt_of_pos n hk'
  exact ⟨(n.fmod k).toNat, (Int.toNat_of_nonneg h0).symm, (Int.toNat_lt h0).mpr h1⟩
end Mine

namespace Mine
theorem strsOf_map {α : Type} (f : α → Str) : ∀ (L : List α) (r : List V) (r' : List Str), strsOf r = some r' → strsOf (L.map (fun a => .str (f a)) ++ r) = some (L.map f ++ r')
  | [], _, _, h => h
  | a :: L, r, r', h => by simp [strsOf, strsOf_map f L r r' h]
noncomputable def fd_law_sign : FuncData := (fdO 186).get (by decide +kernel)
theorem is_law_sign : FnIs PG 186 fd_law_sign (stmtsOf fd_law_sign.body) ["n", "at"] ["n"] := by
  refine ⟨fun q => fnAt_of (by kernel_rfl), fun q => by kernel_rfl, by kernel_rfl, by kernel_rfl, by kernel_rfl, by kernel_rfl, by kernel_rfl, by kernel_rfl, by kernel_rfl, ?_, ?_, ?_⟩ <;> decide +kernel
noncomputable def sgE (a : Nat) : Nat := if a < 34 then a else ([95, 34, 92, 127, 128, 160] : List Nat).getD (a - 34) 0
noncomputable def sgn (n : Int) : Nat := if n.fmod 2 = 0 then sgE ((n.fdiv 2).fmod 40).toNat else ((n.fdiv 2).fmod 128).toNat
noncomputable def spec_sign : Spec := fun vs kvs objs Q => ∃ n : Int, vs = [.int n] ∧ Q (.str (S [sgn n])) objs
theorem sgE_code : ∀ a < 40, sgE a < 128 ∨ sgE a = 128 ∨ sgE a = 160 := by decide +kernel
theorem sgn_code (n : Int) : sgn n < 128 ∨ sgn n = 128 ∨ sgn n = 160 := by
  unfold sgn
  split
  · obtain ⟨a, ha, ha4⟩ := fmod_nat (n.fdiv 2) 40 (by decide)
    have ha : (n.fdiv 2).fmod 40 = (a : Int) := ha
    rw [ha, Int.toNat_natCast]
    exact sgE_code a ha4
  · obtain ⟨a, ha, ha4⟩ := fmod_nat (n.fdiv 2) 128 (by decide)
    have ha : (n.fdiv 2).fmod 128 = (a : Int) := ha
    rw [ha, Int.toNat_natCast]
    exact .inl ha4
theorem six : ∀ k < 6, idxL [V.int 95, V.int 34, V.int 92, V.int 127, V.int 128, V.int 160] ((k : Nat) : Int) = some (.int ((([95, 34, 92, 127, 128, 160] : List Nat).getD k 0 : Nat) : Int)) ∧ ([95, 34, 92, 127, 128, 160] : List Nat).getD k 0 ≤ 1114111
  | 0, _ => ⟨rfl, by decide⟩
  | 1, _ => ⟨rfl, by decide⟩
  | 2, _ => ⟨rfl, by decide⟩
  | 3, _ => ⟨rfl, by decide⟩
  | 4, _ => ⟨rfl, by decide⟩
  | 5, _ => ⟨rfl, by decide⟩
theorem ok_law_sign : FnOK PG 1 186 1 [] spec_sign := by
  refine fn_ok (full := fun vs _ => vs) is_law_sign (b_cons (s_If (t_Compare (r_BinOp (r_Name (k := 0) (by kernel_rfl)) r_int) r_int) (b_cons (s_Assign (k := 1) (r_BinOp (r_BinOp (r_Name (k := 0) (by kernel_rfl)) r_int) r_int) (by kernel_rfl)) (b_cons (s_If (t_Compare (r_Name (k := 1) (by kernel_rfl)) r_int) (b_cons (s_Return (r_Call (by kernel_rfl) (rs_cons (r_Name (k := 1) (by kernel_rfl)) rs_nil) rk_nil cal_chr keep_builtin)) b_nil) b_nil) (b_cons (s_Return (r_Call (by kernel_rfl) (rs_cons (r_Sub (by refine' r_List ?g7a; (case g7a => exact (by refine' rs_cons ?g6a ?g6b; (case g6a => exact r_int); (case g6b => exact (by refine' rs_cons ?g5a ?g5b; (case g5a => exact r_int); (case g5b => exact (by refine' rs_cons ?g4a ?g4b; (case g4a => exact r_int); (case g4b => exact (by refine' rs_cons ?g3a ?g3b; (case g3a => exact r_int); (case g3b => exact (by refine' rs_cons ?g2a ?g2b; (case g2a => exact r_int); (case g2b => exact (by refine' rs_cons ?g1a ?g1b; (case g1a => exact r_int); (case g1b => exact rs_nil)))))))))))))) (r_BinOp (r_Name (k := 1) (by kernel_rfl)) r_int)) rs_nil) rk_nil cal_chr keep_builtin)) b_nil))) b_nil) (b_cons (s_Return (r_Call (by kernel_rfl) (rs_cons (r_BinOp (r_BinOp (r_Name (k := 0) (by kernel_rfl)) r_int) r_int) rs_nil) rk_nil cal_chr keep_builtin)) b_nil)) ?_ ?_
  · intro q s xs kxs X h1 h2
    obtain ⟨a, rfl⟩ := len1 h1
    obtain rfl := len0 h2
    exact ⟨[a], kp_binds X (fun _ => by kernel_rfl), fun g vs kvs rv rk => rv⟩
  · intro vs kvs objs Q h1 h2 h
    obtain ⟨n, rfl, hQ⟩ := h
    rw [show initLoc ["n", "at"] ["n"] [.int n] = [some (.int n), none] from by kernel_rfl]
    walk_at "mine go"
    refine eq_i (fun h => ?_) (fun h => ?_)
    · walk_at "mine go"
      obtain ⟨a, ha, ha4⟩ := fmod_nat (n.fdiv 2) 40 (by decide)
      have ha : (n.fdiv 2).fmod 40 = (a : Int) := ha
      have e : sgn n = sgE a := by unfold sgn; rw [if_pos h, ha, Int.toNat_natCast]
      rw [e] at hQ
      rw [ha]
      walk_at "mine go"
      refine lt_i (fun h => ?_) (fun h => ?_)
      · walk_at "mine go"
        refine chrN_i (Nat.le_trans (Nat.le_of_lt ha4) (by decide)) ?_
        walk_at "mine go"
        have e2 : sgE a = a := if_pos (Int.ofNat_lt.mp (show ((a : Nat) : Int) < ((34 : Nat) : Int) from h))
        rw [e2] at hQ
        exact hQ
      · walk_at "mine go"
        have h34 : 34 ≤ a := Nat.le_of_not_lt fun hl => h (show ((a : Nat) : Int) < ((34 : Nat) : Int) from Int.ofNat_lt.mpr hl)
        obtain ⟨he, hc⟩ := six (a - 34) (Nat.sub_lt_left_of_lt_add h34 ha4)
        have e2 : sgE a = ([95, 34, 92, 127, 128, 160] : List Nat).getD (a - 34) 0 := if_neg (Nat.not_lt.mpr h34)
        rw [e2] at hQ
        generalize ([95, 34, 92, 127, 128, 160] : List Nat).getD (a - 34) 0 = c at he hc hQ
        rw [show (a : Int) - 34 = ((a - 34 : Nat) : Int) from (Int.ofNat_sub h34).symm]
        refine sub_l rfl (inN (Nat.lt_of_le_of_lt (Nat.sub_le a 34) (Nat.lt_trans ha4 (by decide)))) he ?_
        walk_at "mine go"
        refine chrN_i hc ?_
        walk_at "mine go"
        exact hQ
    · walk_at "mine go"
      obtain ⟨a, ha, ha4⟩ := fmod_nat (n.fdiv 2) 128 (by decide)
      have ha : (n.fdiv 2).fmod 128 = (a : Int) := ha
      have e : sgn n = a := by unfold sgn; rw [if_neg h, ha, Int.toNat_natCast]
      rw [e] at hQ
      rw [ha]
      refine chrN_i (Nat.le_trans (Nat.le_of_lt ha4) (by decide)) ?_
      walk_at "mine go"
      exact hQ
end Mine

namespace Mine
theorem cs17 : ∀ d < 17, d = 0 ∨ d = 1 ∨ d = 2 ∨ d = 3 ∨ d = 4 ∨ d = 5 ∨ d = 6 ∨ d = 7 ∨ d = 8 ∨ d = 9 ∨ d = 10 ∨ d = 11 ∨ d = 12 ∨ d = 13 ∨ d = 14 ∨ d = 15 ∨ d = 16 := by decide
/-! ## the texts of the law -/
noncomputable def Txts (T : List Nat) : Prop := T.length ≤ 8 ∧ ∀ c ∈ T, c < 128 ∨ c = 128 ∨ c = 160
theorem lowT {l : List Nat} (h : ∀ c ∈ l, c < 128 ∨ c = 128 ∨ c = 160) : Txt.lower (S l) = S (l.map lo1) := by
  have hA : ∀ c ∈ (S l).cps.toList, c < 128 ∨ c = 128 ∨ c = 160 := by rw [S_cps]; exact h
  unfold Txt.lower
  rw [placed_single (S l) _ lo1 fun i c hc => by
    have hc' : (S l).cps[i]? = some c := by simpa using hc
    have hlt := hA c (List.mem_of_getElem? hc)
    unfold Unicode.lowerAt
    rw [hc']
    have hne : (c == 0x3A3) = false := by rw [beq_eq_false_iff_ne]; omega
    simp only [hne, Bool.false_and, Bool.false_eq_true, if_false]
    rcases hlt with hlt | rfl | rfl
    · exact lowerOf_ascii c hlt
    · decide +kernel
    · decide +kernel]
  simp
theorem lo1_bad (c : Nat) : badN (lo1 c) = badN c := by
  unfold lo1 badN
  split
  · have h1 : ¬ c + 32 ≤ 31 := by omega
    have h2 : ¬ c ≤ 31 := by omega
    have h3 : (c + 32 == 127) = false := by simp; omega
    have h4 : (c == 127) = false := by simp; omega
    simp [h1, h2, h3, h4]
  · rfl
theorem any_lo1 : ∀ l : List Nat, (l.map lo1).any badN = l.any badN
  | [] => rfl
  | c :: l => by simp only [List.map_cons, List.any_cons, lo1_bad, any_lo1 l]
theorem badK_T {T : List Nat} (h : Txts T) (hb : T.any badN = true) : badK (S T) := by
  refine ⟨by rw [S_len]; have := h.1; omega, ?_, ?_⟩
  · rw [lowT h.2, S_len]; have := h.1; simp; omega
  · rw [lowT h.2, S_cps, any_lo1]; exact hb
theorem not_badN {c : Nat} (h : badN c = false) : 32 ≤ c ∧ c ≠ 127 := by
  simp [badN] at h; omega
theorem not_badV {c : Nat} (h : badV c = false) : (32 ≤ c ∧ c ≠ 127) ∨ c = 9 := by
  simp [badV] at h; omega
theorem okN_any {l : List Nat} (hl : l.length ≤ 100000) (hb : l.any badN = false) : okN (S l) := okN_S hl fun c hc => not_badN (by
  rw [List.any_eq_false] at hb
  have := hb c hc
  simpa using this)
theorem okV_any {l : List Nat} (hl : l.length ≤ 100000) (hb : l.any badV = false) : okV (S l) := okV_S hl fun c hc => not_badV (by
  rw [List.any_eq_false] at hb
  have := hb c hc
  simpa using this)
theorem okK_T {T : List Nat} (h : Txts T) (hb : T.any badN = false) : okK (S T) := by
  refine ⟨okN_any (by have := h.1; omega) hb, ?_⟩
  rw [lowT h.2]
  exact okN_any (by have := h.1; simp; omega) (by rw [any_lo1]; exact hb)
noncomputable abbrev nm0 : List Nat := [97, 32, 110, 97, 109, 101, 32, 116, 104, 97, 116, 32, 105, 115, 32, 108, 111, 110, 103, 101, 114]
noncomputable abbrev L0 : List PS := [(S nm0, S [122])]
theorem tab_L0 : Tab L0 := ⟨by decide, fun p hp => by
  rw [List.mem_singleton.mp hp]
  exact ⟨okK_S (by decide) (by decide), okV_S (by decide) (by decide)⟩⟩
theorem other0 {T : List Nat} (h : Txts T) : same (S T) (S nm0, S [122]) = false := by
  unfold same
  rw [lowT h.2, lower_S (l := nm0) (by decide), S_beq]
  have : nm0.map lo1 ≠ T.map lo1 := fun e => by
    have := congrArg List.length e
    have := h.1
    simp at *
    omega
  simpa using this
theorem find0 {T : List Nat} (h : Txts T) : L0.find? (same (S T)) = none := by
  rw [List.find?_cons, other0 h]; rfl
theorem del0 {T : List Nat} (h : Txts T) : delL L0 (S T) = L0 := by
  unfold delL
  rw [List.filter_cons, other0 h]; rfl
theorem txK : Txts [75] := ⟨by decide, by decide⟩
/-! ## what a door answers and lays -/
noncomputable def ansV (d : Nat) (T : List Nat) : V := [V.str (S T), .none, .none, .none, .bool false, .str (S [118]), .lst [], .str (S [118]), .none, .none, .lst [.tup [.str (S T), .str (S [118])]], .str (S T), .none, .str (S T), .none, .none, .lst [.tup [.str (S [75]), .str (S T)]]].getD d .none
noncomputable def laidL (d : Nat) (T : List Nat) : List PS := [[], [(S T, S [118])], [], [], [], [], [], [(S T, S [118])], [(S T, S [118])], [(S [75], S (valK [118] (112 :: T) [119]))], [], [], [(S [75], S T)], [(S [75], S T)], [(S [75], S T)], [(S [75], S (valK [118] [112] T))], []].getD d []
noncomputable def bdd (d : Nat) (T : List Nat) : Bool := if d < 11 then T.any badN else T.any badV
section
variable {loc : List (Option V)} {objs : List O} {k : Nat} {j d : Int} {f h : W Fl} {fx hx : W Xc}
theorem sk_i {Q : Fl → St → Prop} (e : lget loc k = some (.int d)) (hne : decide (d = j) = false) (q : h Q ⟨loc, objs⟩) : seqF (bnd (bnd (getv k) fun a => bnd (ret (.int j)) fun b => cmpA .Eq a b) fun c => if c = true then f else ret .next) h Q ⟨loc, objs⟩ := by
  refine seqF_i ?_
  refine bnd_i (bnd_i (getv_i e (bnd_i (ret_i (eq_ff hne ?_)))))
  exact if_f rfl (ret_i q)
theorem tk_i {Q : Fl → St → Prop} (e : lget loc k = some (.int d)) (hne : decide (d = j) = true) (q : f (fun fl σ => match fl with | .next => h Q σ | fl => Q fl σ) ⟨loc, objs⟩) : seqF (bnd (bnd (getv k) fun a => bnd (ret (.int j)) fun b => cmpA .Eq a b) fun c => if c = true then f else ret .next) h Q ⟨loc, objs⟩ := by
  refine seqF_i ?_
  refine bnd_i (bnd_i (getv_i e (bnd_i (ret_i (eq_tt hne ?_)))))
  exact if_t rfl q
theorem skX {Q : Xc → St → Prop} (e : lget loc k = some (.int d)) (hne : decide (d = j) = false) (q : hx Q ⟨loc, objs⟩) : orX (bnd (bnd (getv k) fun a => bnd (ret (.int j)) fun b => cmpA .Eq a b) fun c => if c = true then fx else never) (seqX (bnd (bnd (getv k) fun a => bnd (ret (.int j)) fun b => cmpA .Eq a b) fun c => if c = true then f else ret .next) hx) Q ⟨loc, objs⟩ := by
  refine .inr ?_
  refine bnd_i (bnd_i (getv_i e (bnd_i (ret_i (eq_ff hne ?_)))))
  exact if_f rfl (ret_i q)
theorem tkX {Q : Xc → St → Prop} {g : W Xc} (e : lget loc k = some (.int d)) (hne : decide (d = j) = true) (q : fx Q ⟨loc, objs⟩) : orX (bnd (bnd (getv k) fun a => bnd (ret (.int j)) fun b => cmpA .Eq a b) fun c => if c = true then fx else never) g Q ⟨loc, objs⟩ := by
  refine .inl ?_
  refine bnd_i (bnd_i (getv_i e (bnd_i (ret_i (eq_tt hne ?_)))))
  exact if_t rfl q
end
end Mine

open PySem PySem.W PyProof.Rows PySem.Calls
set_option Elab.async false
set_option maxRecDepth 100000
set_option maxHeartbeats 4000000
set_option linter.unusedVariables false
set_option linter.unusedSimpArgs false

namespace Mine
noncomputable def fd_law_door : FuncData := (fdO 193).get (by decide +kernel)
theorem is_law_door : FnIs PG 193 fd_law_door (stmtsOf fd_law_door.body) ["table", "door", "text"] ["table", "door", "text"] := by
  refine ⟨fun q => fnAt_of (by kernel_rfl), fun q => by kernel_rfl, by kernel_rfl, by kernel_rfl, by kernel_rfl, by kernel_rfl, by kernel_rfl, by kernel_rfl, by kernel_rfl, ?_, ?_, ?_⟩ <;> decide +kernel
theorem vv : Str.ofString "v" = S [118] := by decide +kernel
theorem vK : Str.ofString "K" = S [75] := by decide +kernel
theorem vw : Str.ofString "w" = S [119] := by decide +kernel
theorem vp : Str.ofString "p" = S [112] := by decide +kernel
theorem okV_v : okV (S [118]) := okV_any (by decide) (by decide)
theorem okV_w : okV (S [119]) := okV_any (by decide) (by decide)
theorem okN_v : okN (S [112]) := okN_any (by decide) (by decide)
theorem okK_K : okK (S [75]) := okK_T txK (by decide)
theorem kfree (T : List Nat) : freeK (S (112 :: T)) := by
  unfold freeK
  have e : (fd_add_header.params.args.map (·.arg)) = [S [115, 101, 108, 102], S [95, 110, 97, 109, 101], S [95, 118, 97, 108, 117, 101]] := by decide +kernel
  rw [e]
  simp only [List.contains_cons, List.contains_nil, Bool.or_false, Bool.or_eq_false_iff]
  refine ⟨?_, ?_, ?_⟩ <;> (rw [S_beq]; simp)
noncomputable def spec_door : Spec := fun vs kvs objs Q => ∃ (i j : Nat) (T : List Nat) (d : Nat), vs = [.inst C i, .int ((d : Nat) : Int), .str (S T)] ∧ TB objs i j (L0.map prV) ∧ Txts T ∧ d < 17 ∧ bdd d T = false ∧ ∀ more, Q (ansV d T) (objs.set j (.list ((L0 ++ laidL d T).map prV)) ++ more)
theorem ok_law_door : FnOK PG 4 193 3 [] spec_door := by
  refine fn_ok (full := fun vs _ => vs) is_law_door (b_cons (s_If (t_Compare (r_Name (k := 1) (by kernel_rfl)) r_int) (b_cons (s_Return (r_Meth (r_Name (k := 0) (by kernel_rfl)) (meth_inst me_conv) (rs_cons (r_Name (k := 2) (by kernel_rfl)) rs_nil) (rk_cons r_bool rk_nil) (cal_fn ok_conv (by decide)) (.inr fun q => by kernel_rfl))) b_nil) b_nil) (b_cons (s_If (t_Compare (r_Name (k := 1) (by kernel_rfl)) r_int) (b_cons (s_AssignT r_str (a_SubInst (r_Name (k := 0) (by kernel_rfl)) (r_Name (k := 2) (by kernel_rfl)) sp_setitem ok_setitem (by decide))) b_nil) b_nil) (b_cons (s_If (t_Compare (r_Name (k := 1) (by kernel_rfl)) r_int) (b_cons (s_DelInst (r_Name (k := 0) (by kernel_rfl)) (r_Name (k := 2) (by kernel_rfl)) sp_delitem ok_delitem (by decide)) b_nil) b_nil) (b_cons (s_If (t_Compare (r_Name (k := 1) (by kernel_rfl)) r_int) (b_cons (s_Return (r_SubInst (r_Name (k := 0) (by kernel_rfl)) (r_Name (k := 2) (by kernel_rfl)) sp_getitem ok_getitem (by decide))) b_nil) b_nil) (b_cons (s_If (t_Compare (r_Name (k := 1) (by kernel_rfl)) r_int) (b_cons (s_Return (r_InInst (r_Name (k := 2) (by kernel_rfl)) (r_Name (k := 0) (by kernel_rfl)) sp_contains ok_contains (by decide))) b_nil) b_nil) (b_cons (s_If (t_Compare (r_Name (k := 1) (by kernel_rfl)) r_int) (b_cons (s_Return (r_Meth (r_Name (k := 0) (by kernel_rfl)) (meth_inst me_get) (rs_cons (r_Name (k := 2) (by kernel_rfl)) (rs_cons r_str rs_nil)) rk_nil (cal_fn ok_get2 (by decide)) (.inr fun q => by kernel_rfl))) b_nil) b_nil) (b_cons (s_If (t_Compare (r_Name (k := 1) (by kernel_rfl)) r_int) (b_cons (s_Return (r_Meth (r_Name (k := 0) (by kernel_rfl)) (meth_inst me_get_all) (rs_cons (r_Name (k := 2) (by kernel_rfl)) rs_nil) rk_nil (cal_fn ok_get_all (by decide)) (.inr fun q => by kernel_rfl))) b_nil) b_nil) (b_cons (s_If (t_Compare (r_Name (k := 1) (by kernel_rfl)) r_int) (b_cons (s_Return (r_Meth (r_Name (k := 0) (by kernel_rfl)) (meth_inst me_setdefault) (rs_cons (r_Name (k := 2) (by kernel_rfl)) (rs_cons r_str rs_nil)) rk_nil (cal_fn ok_setdefault (by decide)) (.inr fun q => by kernel_rfl))) b_nil) b_nil) (b_cons (s_If (t_Compare (r_Name (k := 1) (by kernel_rfl)) r_int) (b_cons (s_Return (r_Meth (r_Name (k := 0) (by kernel_rfl)) (meth_inst me_add_header) (rs_cons (r_Name (k := 2) (by kernel_rfl)) (rs_cons r_str rs_nil)) rk_nil (cal_fn ok_add_header (by decide)) (.inr fun q => by kernel_rfl))) b_nil) b_nil) (b_cons (s_If (t_Compare (r_Name (k := 1) (by kernel_rfl)) r_int) (b_cons (s_Return (r_MethKw (r_Name (k := 0) (by kernel_rfl)) mo_add_header (rs_cons r_str (rs_cons r_str rs_nil)) (r_BinOp r_str (r_Name (k := 2) (by kernel_rfl))) r_str ok_add_headerK (by decide))) b_nil) b_nil) (b_cons (s_If (t_Compare (r_Name (k := 1) (by kernel_rfl)) r_int) (b_cons (s_Return (r_Meth (r_Call (by kernel_rfl) (rs_cons (r_ListT (rs_cons (r_Tuple (rs_cons (r_Name (k := 2) (by kernel_rfl)) (rs_cons r_str rs_nil))) rs_nil)) rs_nil) rk_nil (cal_class cls_is ok_init1 (by decide)) (.inr fun q => by kernel_rfl)) (meth_inst me_items) rs_nil rk_nil (cal_fn ok_items (by decide)) (.inr fun q => by kernel_rfl))) b_nil) b_nil) (b_cons (s_If (t_Compare (r_Name (k := 1) (by kernel_rfl)) r_int) (b_cons (s_Return (r_Meth (r_Name (k := 0) (by kernel_rfl)) (meth_inst me_conv) (rs_cons (r_Name (k := 2) (by kernel_rfl)) rs_nil) (rk_cons r_bool rk_nil) (cal_fn ok_conv (by decide)) (.inr fun q => by kernel_rfl))) b_nil) b_nil) (b_cons (s_If (t_Compare (r_Name (k := 1) (by kernel_rfl)) r_int) (b_cons (s_AssignT (r_Name (k := 2) (by kernel_rfl)) (a_SubInst (r_Name (k := 0) (by kernel_rfl)) r_str sp_setitem ok_setitem (by decide))) b_nil) b_nil) (b_cons (s_If (t_Compare (r_Name (k := 1) (by kernel_rfl)) r_int) (b_cons (s_Return (r_Meth (r_Name (k := 0) (by kernel_rfl)) (meth_inst me_setdefault) (rs_cons r_str (rs_cons (r_Name (k := 2) (by kernel_rfl)) rs_nil)) rk_nil (cal_fn ok_setdefault (by decide)) (.inr fun q => by kernel_rfl))) b_nil) b_nil) (b_cons (s_If (t_Compare (r_Name (k := 1) (by kernel_rfl)) r_int) (b_cons (s_Return (r_Meth (r_Name (k := 0) (by kernel_rfl)) (meth_inst me_add_header) (rs_cons r_str (rs_cons (r_Name (k := 2) (by kernel_rfl)) rs_nil)) rk_nil (cal_fn ok_add_header (by decide)) (.inr fun q => by kernel_rfl))) b_nil) b_nil) (b_cons (s_If (t_Compare (r_Name (k := 1) (by kernel_rfl)) r_int) (b_cons (s_Return (r_Meth (r_Name (k := 0) (by kernel_rfl)) (meth_inst me_add_header) (rs_cons r_str (rs_cons r_str rs_nil)) (rk_cons (r_Name (k := 2) (by kernel_rfl)) rk_nil) (cal_fn ok_add_headerk (by decide)) (.inr fun q => by kernel_rfl))) b_nil) b_nil) (b_cons (s_If (t_Compare (r_Name (k := 1) (by kernel_rfl)) r_int) (b_cons (s_Return (r_Meth (r_Call (by kernel_rfl) (rs_cons (r_ListT (rs_cons (r_Tuple (rs_cons r_str (rs_cons (r_Name (k := 2) (by kernel_rfl)) rs_nil))) rs_nil)) rs_nil) rk_nil (cal_class cls_is ok_init1 (by decide)) (.inr fun q => by kernel_rfl)) (meth_inst me_items) rs_nil rk_nil (cal_fn ok_items (by decide)) (.inr fun q => by kernel_rfl))) b_nil) b_nil) (b_cons (s_Return r_none) b_nil)))))))))))))))))) ?_ ?_
  · intro q s xs kxs X h1 h2
    obtain ⟨a, b, c, rfl⟩ := len3 h1
    obtain rfl := len0 h2
    exact ⟨[a, b, c], kp_binds X (fun _ => by kernel_rfl), fun g vs kvs rv rk => rv⟩
  · intro vs kvs objs Q h1 h2 h
    obtain ⟨i, j, T, d, rfl, hTB, hT, hd, hb, hQ⟩ := h
    rw [show initLoc ["table", "door", "text"] ["table", "door", "text"] [.inst C i, .int ((d : Nat) : Int), .str (S T)] = [some (.inst C i), some (.int ((d : Nat) : Int)), some (.str (S T))] from by kernel_rfl]
    have hsz : 100000 ≤ sizeLine := by decide
    have hL0 : objs.set j (.list (L0.map prV)) = objs := set_self hTB.2
    have hlen : L0.length ≤ 1000 := by decide
    have hTl := hT.1
    have hQ0 : laidL d T = [] → ∀ more, Q (ansV d T) (objs ++ more) := fun e more => by
      have := hQ more
      rw [e, List.append_nil, hL0] at this
      exact this
    have hQ1 : Q (ansV d T) (objs.set j (.list ((L0 ++ laidL d T).map prV))) := by
      have := hQ []
      rw [List.append_nil] at this
      exact this
    have hQ2 : laidL d T = [] → Q (ansV d T) objs := fun e => by
      have := hQ0 e []
      rw [List.append_nil] at this
      exact this
    have hN : d < 11 → T.any badN = false := fun h => by unfold bdd at hb; rw [if_pos h] at hb; exact hb
    have hV : ¬ d < 11 → okV (S T) := fun h => by unfold bdd at hb; rw [if_neg h] at hb; exact okV_any (Nat.le_trans hTl (by decide)) hb
    have hK : d < 11 → okK (S T) := fun h => okK_T hT (hN h)
    have hi : isInst C "" (.inst C i) ⟨[], []⟩ → True := fun _ => trivial
    have cs := cs17 d hd
    rcases cs with rfl | rfl | rfl | rfl | rfl | rfl | rfl | rfl | rfl | rfl | rfl | rfl | rfl | rfl | rfl | rfl | rfl
    · -- 0
      refine tk_i rfl rfl ?_
      walk_at "mine go"
      refine gdW_i (noKey hTB (by decide +kernel)) ?_
      walk_at "mine go"
      refine conv_i ((hK (by decide)).1) ?_
      walk_at "mine go"
      exact hQ2 rfl
    · -- 1
      iterate 1 refine sk_i rfl rfl ?_
      refine tk_i rfl rfl ?_
      walk_at "mine gn"
      refine instW_i hTB.1 rfl ⟨i, j, L0, S T, S [118], by rw [← vv], hTB, tab_L0, hK (by decide), okV_v, ?_⟩
      walk_at "mine gn"
      rw [del0 hT]
      iterate 15 refine sk_i rfl rfl ?_
      walk_at "mine go"
      exact hQ1
    · -- 2
      iterate 2 refine sk_i rfl rfl ?_
      refine tk_i rfl rfl ?_
      walk_at "mine gn"
      refine instW_i hTB.1 rfl ⟨i, j, L0, S T, rfl, hTB, tab_L0, hK (by decide), ?_⟩
      walk_at "mine gn"
      rw [del0 hT]
      iterate 14 refine sk_i rfl rfl ?_
      walk_at "mine go"
      exact hQ1
    · -- 3
      iterate 3 refine sk_i rfl rfl ?_
      refine tk_i rfl rfl ?_
      walk_at "mine go"
      refine instW_i hTB.1 rfl ⟨i, j, L0, S T, rfl, hTB, tab_L0, hK (by decide), ?_⟩
      unfold getL
      rw [find0 hT]
      walk_at "mine go"
      exact hQ2 rfl
    · -- 4
      iterate 4 refine sk_i rfl rfl ?_
      refine tk_i rfl rfl ?_
      walk_at "mine go"
      refine instW_i hTB.1 rfl ⟨i, j, L0, S T, rfl, hTB, tab_L0, hK (by decide), find0 hT, _, rfl, ?_⟩
      walk_at "mine go"
      exact hQ2 rfl
    · -- 5
      iterate 5 refine sk_i rfl rfl ?_
      refine tk_i rfl rfl ?_
      walk_at "mine go"
      refine gdW_i (noKey hTB (by decide +kernel)) ?_
      walk_at "mine go"
      refine ⟨i, j, L0, S T, _, rfl, hTB, tab_L0, hK (by decide), find0 hT, ?_⟩
      walk_at "mine go"
      rw [vv]
      exact hQ2 rfl
    · -- 6
      iterate 6 refine sk_i rfl rfl ?_
      refine tk_i rfl rfl ?_
      walk_at "mine go"
      refine gdW_i (noKey hTB (by decide +kernel)) ?_
      walk_at "mine go"
      refine ⟨i, j, L0, S T, rfl, hTB, tab_L0, hK (by decide), ?_⟩
      walk_at "mine go"
      have e : L0.filter (same (S T)) = [] := by rw [List.filter_cons, other0 hT]; rfl
      rw [e]
      exact hQ2 rfl
    · -- 7
      iterate 7 refine sk_i rfl rfl ?_
      refine tk_i rfl rfl ?_
      walk_at "mine go"
      refine gdW_i (noKey hTB (by decide +kernel)) ?_
      walk_at "mine go"
      refine ⟨i, j, L0, S T, S [118], by rw [← vv], hTB, tab_L0, hK (by decide), okV_v, ?_⟩
      unfold setdV setdL
      rw [find0 hT]
      walk_at "mine go"
      exact hQ1
    · -- 8
      iterate 8 refine sk_i rfl rfl ?_
      refine tk_i rfl rfl ?_
      walk_at "mine go"
      refine gdW_i (noKey hTB (by decide +kernel)) ?_
      walk_at "mine go"
      refine ⟨i, j, L0, S T, S [118], by rw [← vv], hTB, hlen, (hK (by decide)).1, okV_v, fun more => ?_⟩
      walk_at "mine go"
      exact hQ more
    · -- 9
      iterate 9 refine sk_i rfl rfl ?_
      refine tk_i rfl rfl ?_
      walk_at "mine go"
      refine gdW_i (noKey hTB (by decide +kernel)) ?_
      walk_at "mine go"
      refine add_s (by rw [vp]; exact szA (m := 1) (by decide) hTl) ?_
      rw [vp, S_app]
      walk_at "mine go"
      have hok : okN (S (112 :: T)) := okN_any (Nat.le_trans (coL hTl) (by decide)) (by rw [List.any_cons, hN (by decide)]; rfl)
      refine ⟨S (112 :: T), rfl, kfree T, rfl, i, j, L0, S [75], [118], 112 :: T, [119], by rw [← vv, ← vK], by rw [← vw], rfl, hTB, hlen, okK_K.1, okV_v, hok, okV_w, by decide, Nat.le_trans (coL hTl) (by decide), by decide, fun more => ?_⟩
      walk_at "mine go"
      exact hQ more
    · -- 10
      iterate 10 refine sk_i rfl rfl ?_
      refine tk_i rfl rfl ?_
      walk_at "mine go"
      have hok : okN (S T) := (hK (by decide)).1
      have hTab : Tab [(S T, S [118])] := ⟨by show 1 ≤ 1000; decide, fun p hp => by rw [List.mem_singleton.mp hp]; exact ⟨hK (by decide), okV_v⟩⟩
      rw [vv]
      refine new1 (L := [(S T, S [118])]) hTab ?_
      walk_at "mine go"
      refine gdW_i (noKey (tb_new objs _) (by decide +kernel)) ?_
      walk_at "mine go"
      refine ⟨_, _, [(S T, S [118])], rfl, tb_new objs _, by show 1 ≤ 1000; decide, ?_⟩
      walk_at "mine go"
      exact hQ0 rfl _
    · -- 11
      iterate 11 refine sk_i rfl rfl ?_
      refine tk_i rfl rfl ?_
      walk_at "mine go"
      refine gdW_i (noKey hTB (by decide +kernel)) ?_
      walk_at "mine go"
      refine conv_i (hV (by decide)) ?_
      walk_at "mine go"
      exact hQ2 rfl
    · -- 12
      iterate 12 refine sk_i rfl rfl ?_
      refine tk_i rfl rfl ?_
      walk_at "mine gn"
      refine instW_i hTB.1 rfl ⟨i, j, L0, S [75], S T, by rw [← vK], hTB, tab_L0, okK_K, hV (by decide), ?_⟩
      walk_at "mine gn"
      rw [del0 txK]
      iterate 4 refine sk_i rfl rfl ?_
      walk_at "mine go"
      exact hQ1
    · -- 13
      iterate 13 refine sk_i rfl rfl ?_
      refine tk_i rfl rfl ?_
      walk_at "mine go"
      refine gdW_i (noKey hTB (by decide +kernel)) ?_
      walk_at "mine go"
      refine ⟨i, j, L0, S [75], S T, by rw [← vK], hTB, tab_L0, okK_K, hV (by decide), ?_⟩
      unfold setdV setdL
      rw [find0 txK]
      walk_at "mine go"
      exact hQ1
    · -- 14
      iterate 14 refine sk_i rfl rfl ?_
      refine tk_i rfl rfl ?_
      walk_at "mine go"
      refine gdW_i (noKey hTB (by decide +kernel)) ?_
      walk_at "mine go"
      refine ⟨i, j, L0, S [75], S T, by rw [← vK], hTB, hlen, okK_K.1, hV (by decide), fun more => ?_⟩
      walk_at "mine go"
      exact hQ more
    · -- 15
      iterate 15 refine sk_i rfl rfl ?_
      refine tk_i rfl rfl ?_
      walk_at "mine go"
      refine gdW_i (noKey hTB (by decide +kernel)) ?_
      walk_at "mine go"
      refine ⟨i, j, L0, S [75], [118], [112], T, by rw [← vv, ← vK], rfl, rfl, hTB, hlen, okK_K.1, okV_v, okN_v, hV (by decide), by decide, by decide, Nat.le_trans hTl (by decide), fun more => ?_⟩
      walk_at "mine go"
      exact hQ more
    · -- 16
      iterate 16 refine sk_i rfl rfl ?_
      refine tk_i rfl rfl ?_
      walk_at "mine go"
      have hTab : Tab [(S [75], S T)] := ⟨by show 1 ≤ 1000; decide, fun p hp => by rw [List.mem_singleton.mp hp]; exact ⟨okK_K, hV (by decide)⟩⟩
      rw [vK]
      refine new1 (L := [(S [75], S T)]) hTab ?_
      walk_at "mine go"
      refine gdW_i (noKey (tb_new objs _) (by decide +kernel)) ?_
      walk_at "mine go"
      refine ⟨_, _, [(S [75], S T)], rfl, tb_new objs _, by show 1 ≤ 1000; decide, ?_⟩
      walk_at "mine go"
      exact hQ0 rfl _
end Mine

open PySem PySem.W PyProof.Rows PySem.Calls
set_option Elab.async false
set_option maxRecDepth 100000
set_option maxHeartbeats 4000000
set_option linter.unusedVariables false
set_option linter.unusedSimpArgs false

namespace Mine
noncomputable def xspec_door : XSpec := fun vs kvs objs Q => ∃ (i j : Nat) (T : List Nat) (d : Nat), vs = [.inst C i, .int ((d : Nat) : Int), .str (S T)] ∧ TB objs i j (L0.map prV) ∧ Txts T ∧ d < 17 ∧ bdd d T = true ∧ ∀ more, Q ctlX (objs ++ more)
theorem x_law_door : FnX PG 4 193 3 [] xspec_door := by
  refine fn_x (full := fun vs _ => vs) is_law_door (xb_cons (s_If (t_Compare (r_Name (k := 1) (by kernel_rfl)) r_int) (b_cons (s_Return (r_Meth (r_Name (k := 0) (by kernel_rfl)) (meth_inst me_conv) (rs_cons (r_Name (k := 2) (by kernel_rfl)) rs_nil) (rk_cons r_bool rk_nil) (cal_fn ok_conv (by decide)) (.inr fun q => by kernel_rfl))) b_nil) b_nil) (x_If (t_Compare (r_Name (k := 1) (by kernel_rfl)) r_int) (xb_cons s_dead (x_Return (x_Meth (r_Name (k := 0) (by kernel_rfl)) (meth_inst me_conv) (rs_cons (r_Name (k := 2) (by kernel_rfl)) rs_nil) (rk_cons r_bool rk_nil) (cal_fnx x_conv (by decide)) (.inr fun q => by kernel_rfl))) xb_never) xb_never) (xb_cons (s_If (t_Compare (r_Name (k := 1) (by kernel_rfl)) r_int) (b_cons (s_AssignT r_str (a_SubInst (r_Name (k := 0) (by kernel_rfl)) (r_Name (k := 2) (by kernel_rfl)) sp_setitem ok_setitem (by decide))) b_nil) b_nil) (x_If (t_Compare (r_Name (k := 1) (by kernel_rfl)) r_int) (xb_cons s_dead (x_AssignT r_str (xa_SubInst (r_Name (k := 0) (by kernel_rfl)) (r_Name (k := 2) (by kernel_rfl)) sp_setitem x_setitem (by decide))) xb_never) xb_never) (xb_cons (s_If (t_Compare (r_Name (k := 1) (by kernel_rfl)) r_int) (b_cons (s_DelInst (r_Name (k := 0) (by kernel_rfl)) (r_Name (k := 2) (by kernel_rfl)) sp_delitem ok_delitem (by decide)) b_nil) b_nil) (x_If (t_Compare (r_Name (k := 1) (by kernel_rfl)) r_int) (xb_cons s_dead (x_DelInst (r_Name (k := 0) (by kernel_rfl)) (r_Name (k := 2) (by kernel_rfl)) sp_delitem x_delitem (by decide)) xb_never) xb_never) (xb_cons (s_If (t_Compare (r_Name (k := 1) (by kernel_rfl)) r_int) (b_cons (s_Return (r_SubInst (r_Name (k := 0) (by kernel_rfl)) (r_Name (k := 2) (by kernel_rfl)) sp_getitem ok_getitem (by decide))) b_nil) b_nil) (x_If (t_Compare (r_Name (k := 1) (by kernel_rfl)) r_int) (xb_cons s_dead (x_Return (x_SubInst (r_Name (k := 0) (by kernel_rfl)) (r_Name (k := 2) (by kernel_rfl)) sp_getitem x_getitem (by decide))) xb_never) xb_never) (xb_cons (s_If (t_Compare (r_Name (k := 1) (by kernel_rfl)) r_int) (b_cons (s_Return (r_InInst (r_Name (k := 2) (by kernel_rfl)) (r_Name (k := 0) (by kernel_rfl)) sp_contains ok_contains (by decide))) b_nil) b_nil) (x_If (t_Compare (r_Name (k := 1) (by kernel_rfl)) r_int) (xb_cons s_dead (x_Return (x_InInst (r_Name (k := 2) (by kernel_rfl)) (r_Name (k := 0) (by kernel_rfl)) sp_contains x_contains (by decide))) xb_never) xb_never) (xb_cons (s_If (t_Compare (r_Name (k := 1) (by kernel_rfl)) r_int) (b_cons (s_Return (r_Meth (r_Name (k := 0) (by kernel_rfl)) (meth_inst me_get) (rs_cons (r_Name (k := 2) (by kernel_rfl)) (rs_cons r_str rs_nil)) rk_nil (cal_fn ok_get2 (by decide)) (.inr fun q => by kernel_rfl))) b_nil) b_nil) (x_If (t_Compare (r_Name (k := 1) (by kernel_rfl)) r_int) (xb_cons s_dead (x_Return (x_Meth (r_Name (k := 0) (by kernel_rfl)) (meth_inst me_get) (rs_cons (r_Name (k := 2) (by kernel_rfl)) (rs_cons r_str rs_nil)) rk_nil (cal_fnx x_get2 (by decide)) (.inr fun q => by kernel_rfl))) xb_never) xb_never) (xb_cons (s_If (t_Compare (r_Name (k := 1) (by kernel_rfl)) r_int) (b_cons (s_Return (r_Meth (r_Name (k := 0) (by kernel_rfl)) (meth_inst me_get_all) (rs_cons (r_Name (k := 2) (by kernel_rfl)) rs_nil) rk_nil (cal_fn ok_get_all (by decide)) (.inr fun q => by kernel_rfl))) b_nil) b_nil) (x_If (t_Compare (r_Name (k := 1) (by kernel_rfl)) r_int) (xb_cons s_dead (x_Return (x_Meth (r_Name (k := 0) (by kernel_rfl)) (meth_inst me_get_all) (rs_cons (r_Name (k := 2) (by kernel_rfl)) rs_nil) rk_nil (cal_fnx x_get_all (by decide)) (.inr fun q => by kernel_rfl))) xb_never) xb_never) (xb_cons (s_If (t_Compare (r_Name (k := 1) (by kernel_rfl)) r_int) (b_cons (s_Return (r_Meth (r_Name (k := 0) (by kernel_rfl)) (meth_inst me_setdefault) (rs_cons (r_Name (k := 2) (by kernel_rfl)) (rs_cons r_str rs_nil)) rk_nil (cal_fn ok_setdefault (by decide)) (.inr fun q => by kernel_rfl))) b_nil) b_nil) (x_If (t_Compare (r_Name (k := 1) (by kernel_rfl)) r_int) (xb_cons s_dead (x_Return (x_Meth (r_Name (k := 0) (by kernel_rfl)) (meth_inst me_setdefault) (rs_cons (r_Name (k := 2) (by kernel_rfl)) (rs_cons r_str rs_nil)) rk_nil (cal_fnx x_setdefault (by decide)) (.inr fun q => by kernel_rfl))) xb_never) xb_never) (xb_cons (s_If (t_Compare (r_Name (k := 1) (by kernel_rfl)) r_int) (b_cons (s_Return (r_Meth (r_Name (k := 0) (by kernel_rfl)) (meth_inst me_add_header) (rs_cons (r_Name (k := 2) (by kernel_rfl)) (rs_cons r_str rs_nil)) rk_nil (cal_fn ok_add_header (by decide)) (.inr fun q => by kernel_rfl))) b_nil) b_nil) (x_If (t_Compare (r_Name (k := 1) (by kernel_rfl)) r_int) (xb_cons s_dead (x_Return (x_Meth (r_Name (k := 0) (by kernel_rfl)) (meth_inst me_add_header) (rs_cons (r_Name (k := 2) (by kernel_rfl)) (rs_cons r_str rs_nil)) rk_nil (cal_fnx x_add_header (by decide)) (.inr fun q => by kernel_rfl))) xb_never) xb_never) (xb_cons (s_If (t_Compare (r_Name (k := 1) (by kernel_rfl)) r_int) (b_cons (s_Return (r_MethKw (r_Name (k := 0) (by kernel_rfl)) mo_add_header (rs_cons r_str (rs_cons r_str rs_nil)) (r_BinOp r_str (r_Name (k := 2) (by kernel_rfl))) r_str ok_add_headerK (by decide))) b_nil) b_nil) (x_If (t_Compare (r_Name (k := 1) (by kernel_rfl)) r_int) (xb_cons s_dead (x_Return (x_MethKw (r_Name (k := 0) (by kernel_rfl)) mo_add_header (rs_cons r_str (rs_cons r_str rs_nil)) (r_BinOp r_str (r_Name (k := 2) (by kernel_rfl))) r_str x_add_headerK (by decide))) xb_never) xb_never) (xb_cons (s_If (t_Compare (r_Name (k := 1) (by kernel_rfl)) r_int) (b_cons (s_Return (r_Meth (r_Call (by kernel_rfl) (rs_cons (r_ListT (rs_cons (r_Tuple (rs_cons (r_Name (k := 2) (by kernel_rfl)) (rs_cons r_str rs_nil))) rs_nil)) rs_nil) rk_nil (cal_class cls_is ok_init1 (by decide)) (.inr fun q => by kernel_rfl)) (meth_inst me_items) rs_nil rk_nil (cal_fn ok_items (by decide)) (.inr fun q => by kernel_rfl))) b_nil) b_nil) (x_If (t_Compare (r_Name (k := 1) (by kernel_rfl)) r_int) (xb_cons s_dead (x_Return (x_MethO (x_Call (by kernel_rfl) (rs_cons (r_ListT (rs_cons (r_Tuple (rs_cons (r_Name (k := 2) (by kernel_rfl)) (rs_cons r_str rs_nil))) rs_nil)) rs_nil) rk_nil (cal_classX cls_is x_init (by decide)) (.inr fun q => by kernel_rfl)))) xb_never) xb_never) (xb_cons (s_If (t_Compare (r_Name (k := 1) (by kernel_rfl)) r_int) (b_cons (s_Return (r_Meth (r_Name (k := 0) (by kernel_rfl)) (meth_inst me_conv) (rs_cons (r_Name (k := 2) (by kernel_rfl)) rs_nil) (rk_cons r_bool rk_nil) (cal_fn ok_conv (by decide)) (.inr fun q => by kernel_rfl))) b_nil) b_nil) (x_If (t_Compare (r_Name (k := 1) (by kernel_rfl)) r_int) (xb_cons s_dead (x_Return (x_Meth (r_Name (k := 0) (by kernel_rfl)) (meth_inst me_conv) (rs_cons (r_Name (k := 2) (by kernel_rfl)) rs_nil) (rk_cons r_bool rk_nil) (cal_fnx x_conv (by decide)) (.inr fun q => by kernel_rfl))) xb_never) xb_never) (xb_cons (s_If (t_Compare (r_Name (k := 1) (by kernel_rfl)) r_int) (b_cons (s_AssignT (r_Name (k := 2) (by kernel_rfl)) (a_SubInst (r_Name (k := 0) (by kernel_rfl)) r_str sp_setitem ok_setitem (by decide))) b_nil) b_nil) (x_If (t_Compare (r_Name (k := 1) (by kernel_rfl)) r_int) (xb_cons s_dead (x_AssignT (r_Name (k := 2) (by kernel_rfl)) (xa_SubInst (r_Name (k := 0) (by kernel_rfl)) r_str sp_setitem x_setitem (by decide))) xb_never) xb_never) (xb_cons (s_If (t_Compare (r_Name (k := 1) (by kernel_rfl)) r_int) (b_cons (s_Return (r_Meth (r_Name (k := 0) (by kernel_rfl)) (meth_inst me_setdefault) (rs_cons r_str (rs_cons (r_Name (k := 2) (by kernel_rfl)) rs_nil)) rk_nil (cal_fn ok_setdefault (by decide)) (.inr fun q => by kernel_rfl))) b_nil) b_nil) (x_If (t_Compare (r_Name (k := 1) (by kernel_rfl)) r_int) (xb_cons s_dead (x_Return (x_Meth (r_Name (k := 0) (by kernel_rfl)) (meth_inst me_setdefault) (rs_cons r_str (rs_cons (r_Name (k := 2) (by kernel_rfl)) rs_nil)) rk_nil (cal_fnx x_setdefault (by decide)) (.inr fun q => by kernel_rfl))) xb_never) xb_never) (xb_cons (s_If (t_Compare (r_Name (k := 1) (by kernel_rfl)) r_int) (b_cons (s_Return (r_Meth (r_Name (k := 0) (by kernel_rfl)) (meth_inst me_add_header) (rs_cons r_str (rs_cons (r_Name (k := 2) (by kernel_rfl)) rs_nil)) rk_nil (cal_fn ok_add_header (by decide)) (.inr fun q => by kernel_rfl))) b_nil) b_nil) (x_If (t_Compare (r_Name (k := 1) (by kernel_rfl)) r_int) (xb_cons s_dead (x_Return (x_Meth (r_Name (k := 0) (by kernel_rfl)) (meth_inst me_add_header) (rs_cons r_str (rs_cons (r_Name (k := 2) (by kernel_rfl)) rs_nil)) rk_nil (cal_fnx x_add_header (by decide)) (.inr fun q => by kernel_rfl))) xb_never) xb_never) (xb_cons (s_If (t_Compare (r_Name (k := 1) (by kernel_rfl)) r_int) (b_cons (s_Return (r_Meth (r_Name (k := 0) (by kernel_rfl)) (meth_inst me_add_header) (rs_cons r_str (rs_cons r_str rs_nil)) (rk_cons (r_Name (k := 2) (by kernel_rfl)) rk_nil) (cal_fn ok_add_headerk (by decide)) (.inr fun q => by kernel_rfl))) b_nil) b_nil) (x_If (t_Compare (r_Name (k := 1) (by kernel_rfl)) r_int) (xb_cons s_dead (x_Return (x_Meth (r_Name (k := 0) (by kernel_rfl)) (meth_inst me_add_header) (rs_cons r_str (rs_cons r_str rs_nil)) (rk_cons (r_Name (k := 2) (by kernel_rfl)) rk_nil) (cal_fnx x_add_headerk (by decide)) (.inr fun q => by kernel_rfl))) xb_never) xb_never) (xb_cons s_dead (x_If (t_Compare (r_Name (k := 1) (by kernel_rfl)) r_int) (xb_cons s_dead (x_Return (x_MethO (x_Call (by kernel_rfl) (rs_cons (r_ListT (rs_cons (r_Tuple (rs_cons r_str (rs_cons (r_Name (k := 2) (by kernel_rfl)) rs_nil))) rs_nil)) rs_nil) rk_nil (cal_classX cls_is x_init (by decide)) (.inr fun q => by kernel_rfl)))) xb_never) xb_never) xb_never))))))))))))))))) ?_ ?_
  · intro q s xs kxs X h1 h2
    obtain ⟨a, b, c, rfl⟩ := len3 h1
    obtain rfl := len0 h2
    exact ⟨[a, b, c], kp_binds X (fun _ => by kernel_rfl), fun g vs kvs rv rk => rv⟩
  · intro vs kvs objs Q h1 h2 h
    obtain ⟨i, j, T, d, rfl, hTB, hT, hd, hb, hQ⟩ := h
    rw [show initLoc ["table", "door", "text"] ["table", "door", "text"] [.inst C i, .int ((d : Nat) : Int), .str (S T)] = [some (.inst C i), some (.int ((d : Nat) : Int)), some (.str (S T))] from by kernel_rfl]
    have hsz : 100000 ≤ sizeLine := by decide
    have hL0 : objs.set j (.list (L0.map prV)) = objs := set_self hTB.2
    have hlen : L0.length ≤ 1000 := by decide
    have hTl := hT.1
    have hQ0 : Q ctlX objs := by
      have := hQ []
      rw [List.append_nil] at this
      exact this
    have hN : d < 11 → T.any badN = true := fun h => by unfold bdd at hb; rw [if_pos h] at hb; exact hb
    have hM : d < 11 → badM (S T) := fun h => ⟨by rw [S_len]; exact Nat.le_trans hTl (by decide), by rw [S_cps]; exact hN h⟩
    have hV : ¬ d < 11 → badW (S T) := fun h => by unfold bdd at hb; rw [if_neg h] at hb; exact ⟨by rw [S_len]; exact Nat.le_trans hTl (by decide), by rw [S_cps]; exact hb⟩
    have hK : d < 11 → badK (S T) := fun h => badK_T hT (hN h)
    have cs := cs17 d hd
    rcases cs with rfl | rfl | rfl | rfl | rfl | rfl | rfl | rfl | rfl | rfl | rfl | rfl | rfl | rfl | rfl | rfl | rfl
    · -- 0
      refine tkX rfl rfl ?_
      refine .inl ?_
      walk_at "mine go"
      refine gdW_i (noKey hTB (by decide +kernel)) ?_
      walk_at "mine go"
      exact ⟨rfl, rfl, xconv_i (x := S T) (b := true) ((hM (by decide)).1) ((hM (by decide)).2) (hQ0)⟩
    · -- 1
      iterate 1 refine skX rfl rfl ?_
      refine tkX rfl rfl ?_
      refine .inl ?_
      walk_at "mine go"
      exact ⟨rfl, ⟨_, hTB.1⟩, rfl, i, j, L0, S T, S [118], by rw [← vv], hTB, .inl ⟨hK (by decide), hQ0⟩⟩
    · -- 2
      iterate 2 refine skX rfl rfl ?_
      refine tkX rfl rfl ?_
      refine .inl ?_
      walk_at "mine go"
      exact ⟨rfl, ⟨_, hTB.1⟩, rfl, i, j, _, S T, rfl, hTB, hK (by decide), hQ0⟩
    · -- 3
      iterate 3 refine skX rfl rfl ?_
      refine tkX rfl rfl ?_
      refine .inl ?_
      walk_at "mine go"
      exact ⟨rfl, ⟨_, hTB.1⟩, rfl, i, j, _, S T, rfl, hTB, hK (by decide), hQ0⟩
    · -- 4
      iterate 4 refine skX rfl rfl ?_
      refine tkX rfl rfl ?_
      refine .inl ?_
      walk_at "mine go"
      exact ⟨rfl, ⟨_, hTB.1⟩, rfl, i, j, _, S T, rfl, hTB, hK (by decide), hQ0⟩
    · -- 5
      iterate 5 refine skX rfl rfl ?_
      refine tkX rfl rfl ?_
      refine .inl ?_
      walk_at "mine go"
      refine gdW_i (noKey hTB (by decide +kernel)) ?_
      walk_at "mine go"
      exact ⟨rfl, rfl, i, j, _, S T, _, rfl, hTB, hK (by decide), hQ0⟩
    · -- 6
      iterate 6 refine skX rfl rfl ?_
      refine tkX rfl rfl ?_
      refine .inl ?_
      walk_at "mine go"
      refine gdW_i (noKey hTB (by decide +kernel)) ?_
      walk_at "mine go"
      exact ⟨rfl, rfl, i, j, _, S T, rfl, hTB, hK (by decide), hQ0⟩
    · -- 7
      iterate 7 refine skX rfl rfl ?_
      refine tkX rfl rfl ?_
      refine .inl ?_
      walk_at "mine go"
      refine gdW_i (noKey hTB (by decide +kernel)) ?_
      walk_at "mine go"
      exact ⟨rfl, rfl, i, j, L0, S T, S [118], by rw [← vv], hTB, .inl ⟨hK (by decide), hQ0⟩⟩
    · -- 8
      iterate 8 refine skX rfl rfl ?_
      refine tkX rfl rfl ?_
      refine .inl ?_
      walk_at "mine go"
      refine gdW_i (noKey hTB (by decide +kernel)) ?_
      walk_at "mine go"
      exact ⟨rfl, rfl, i, j, L0, S T, S [118], by rw [← vv], hTB, hlen, .inr ⟨okV_v, hM (by decide)⟩, fun more => hQ more⟩
    · -- 9
      iterate 9 refine skX rfl rfl ?_
      refine tkX rfl rfl ?_
      refine .inl ?_
      walk_at "mine go"
      refine gdW_i (noKey hTB (by decide +kernel)) ?_
      walk_at "mine go"
      refine add_s (by rw [vp]; exact szA (m := 1) (by decide) hTl) ?_
      rw [vp, S_app]
      walk_at "mine go"
      have hbm : badM (S (112 :: T)) := ⟨by rw [S_len]; exact Nat.le_trans (coL hTl) (by decide), by rw [S_cps, List.any_cons, hN (by decide)]; rfl⟩
      exact ⟨S (112 :: T), rfl, kfree T, rfl, i, j, L0, S [75], S [118], S [119], by rw [← vv, ← vK], by rw [← vw], hTB, okV_v, .inl hbm, fun more => hQ more⟩
    · -- 10
      iterate 10 refine skX rfl rfl ?_
      refine tkX rfl rfl ?_
      refine .inl ?_
      walk_at "mine go"
      rw [vv]
      exact ⟨rfl, rfl, (objs ++ [O.list [prV (S T, S [118])]]).length, objs.length, S T, S [118], rfl, by simp, lst_app lst_new, .inl (hM (by decide)), by simpa [prV] using hQ [.list [prV (S T, S [118])], .attrs [("_headers", .ref objs.length)]]⟩
    · -- 11
      iterate 11 refine skX rfl rfl ?_
      refine tkX rfl rfl ?_
      refine .inl ?_
      walk_at "mine go"
      refine gdW_i (noKey hTB (by decide +kernel)) ?_
      walk_at "mine go"
      exact ⟨rfl, rfl, xconv_i (x := S T) (b := false) ((hV (by decide)).1) ((hV (by decide)).2) (hQ0)⟩
    · -- 12
      iterate 12 refine skX rfl rfl ?_
      refine tkX rfl rfl ?_
      refine .inl ?_
      walk_at "mine go"
      exact ⟨rfl, ⟨_, hTB.1⟩, rfl, i, j, L0, S [75], S T, by rw [← vK], hTB, .inr ⟨tab_L0, okK_K, hV (by decide), by rw [del0 txK, hL0]; exact hQ0⟩⟩
    · -- 13
      iterate 13 refine skX rfl rfl ?_
      refine tkX rfl rfl ?_
      refine .inl ?_
      walk_at "mine go"
      refine gdW_i (noKey hTB (by decide +kernel)) ?_
      walk_at "mine go"
      exact ⟨rfl, rfl, i, j, L0, S [75], S T, by rw [← vK], hTB, .inr ⟨tab_L0, okK_K, find0 txK, hV (by decide), hQ0⟩⟩
    · -- 14
      iterate 14 refine skX rfl rfl ?_
      refine tkX rfl rfl ?_
      refine .inl ?_
      walk_at "mine go"
      refine gdW_i (noKey hTB (by decide +kernel)) ?_
      walk_at "mine go"
      exact ⟨rfl, rfl, i, j, L0, S [75], S T, by rw [← vK], hTB, hlen, .inl (hV (by decide)), fun more => hQ more⟩
    · -- 15
      iterate 15 refine skX rfl rfl ?_
      refine tkX rfl rfl ?_
      refine .inl ?_
      walk_at "mine go"
      refine gdW_i (noKey hTB (by decide +kernel)) ?_
      walk_at "mine go"
      exact ⟨rfl, rfl, i, j, L0, S [75], S [118], S T, by rw [← vv, ← vK], rfl, hTB, okV_v, .inr ⟨okN_v, hV (by decide)⟩, fun more => hQ more⟩
    · -- 16
      iterate 16 refine skX rfl rfl ?_
      refine tkX rfl rfl ?_
      refine .inl ?_
      walk_at "mine go"
      rw [vK]
      exact ⟨rfl, rfl, (objs ++ [O.list [prV (S [75], S T)]]).length, objs.length, S [75], S T, rfl, by simp, lst_app lst_new, .inr ⟨okK_K.1, hV (by decide)⟩, by simpa [prV] using hQ [.list [prV (S [75], S T)], .attrs [("_headers", .ref objs.length)]]⟩
end Mine

open PySem PySem.W PyProof.Rows PySem.Calls
set_option Elab.async false
set_option maxRecDepth 100000
set_option maxHeartbeats 4000000
set_option linter.unusedVariables false
set_option linter.unusedSimpArgs false

namespace Mine
noncomputable def fd_law : FuncData := (fdO 198).get (by decide +kernel)
theorem sgnV_S (T : List Nat) : signsV (S T) = T.map fun c => V.str (S [c]) := by unfold signsV; rw [S_cps]
noncomputable abbrev cV (l : List Nat) : List V := l.map fun c => V.str (S [c])
theorem veq_cV (a b : Nat) : veq (V.str (S [a])) (V.str (S [b])) = some (decide (a = b)) := by
  rw [veq_str]
  by_cases h : a = b
  · subst h; simp
  · have : ¬ S [a] = S [b] := fun e => h (by have := S_inj.mp e; injection this)
    simp [h, this]
theorem joinE {α : Type} {f : α → List Nat} (l : List α) (hl : (l.flatMap f).length ≤ 1000) {kvs : List V} {Q : V → St → Prop} {σ : St} (h : Q (.str (S (l.flatMap f))) σ) : joinA [.str (Str.ofString ""), .lst (l.map fun a => V.str (S (f a)))] kvs Q σ := by
  have e1 : strsOf (l.map fun a => V.str (S (f a))) = some (l.map fun a => S (f a)) := by
    have := strsOf_map (fun a => S (f a)) l [] [] rfl
    simpa using this
  have hsum : ∀ l : List α, ((l.map fun a => S (f a)).map (·.length)).sum = (l.flatMap f).length := fun l => by
    induction l with
    | nil => rfl
    | cons n l ih => simp only [List.map_cons, List.sum_cons, ih, S_len, List.flatMap_cons, List.length_append]
  refine join_i rfl e1 (by rw [hsum]; have : (Str.ofString "").length = 0 := rfl; rw [this]; omega) ?_
  have ej : Txt.join (Str.ofString "") (l.map fun a => S (f a)) = S (l.flatMap f) := by
    have h1 := join_S (l.map f)
    rw [List.map_map] at h1
    have h2 : (l.map f).flatten = l.flatMap f := by rw [List.flatMap_def]
    rw [h2] at h1
    exact h1
  rw [ej]
  exact h
theorem flat1 {α : Type} (f : α → Nat) : ∀ l : List α, (l.flatMap fun a => [f a]) = l.map f
  | [] => rfl
  | a :: l => by rw [List.flatMap_cons, flat1 f l]; rfl
noncomputable def hyp (c : Nat) : Nat := if c = 95 then 45 else c
noncomputable def mrk (c : Nat) : List Nat := if c = 34 ∨ c = 92 then [92, c] else [c]
theorem rep_hyp : ∀ T : List Nat, rep 95 [45] T = T.map hyp
  | [] => rfl
  | c :: T => by
    have ih := rep_hyp T
    unfold rep at ih ⊢
    rw [List.flatMap_cons, ih, List.map_cons]
    unfold hyp
    split <;> rfl
theorem rep_mrk : ∀ T : List Nat, rep 34 [92, 34] (rep 92 [92, 92] T) = T.flatMap mrk
  | [] => rfl
  | c :: T => by
    have ih := rep_mrk T
    have e : rep 92 [92, 92] (c :: T) = (if c = 92 then [92, 92] else [c]) ++ rep 92 [92, 92] T := by unfold rep; rw [List.flatMap_cons]
    rw [e, rep_append, ih, List.flatMap_cons]
    congr 1
    unfold mrk
    by_cases h1 : c = 92
    · subst h1; decide
    · by_cases h2 : c = 34
      · subst h2; decide
      · rw [if_neg h1, if_neg (by omega)]
        simp [rep, h2]
theorem mrk_len : ∀ T : List Nat, (T.flatMap mrk).length ≤ 2 * T.length
  | [] => by simp
  | c :: T => by
    have ih := mrk_len T
    rw [List.flatMap_cons, List.length_append, List.length_cons]
    have : (mrk c).length ≤ 2 := by
      unfold mrk
      split
      · show 2 ≤ 2; decide
      · show 1 ≤ 2; decide
    omega
theorem ne_bb {a b : Bool} {Q : Bool → St → Prop} {σ : St} (h : Q (a != b) σ) : cmpA .NotEq (.bool a) (.bool b) Q σ := by
  cases a <;> cases b <;> exact h
theorem worse_any (T : List Nat) : decide ((T.filter badN).filter (fun c => !decide (c = 9)) = []) = !T.any badV := by
  rw [List.filter_filter]
  have e : ∀ c, (!decide (c = 9) && badN c) = badV c := fun c => by
    unfold badN badV
    by_cases h1 : c = 127 <;> by_cases h2 : c ≤ 31 <;> by_cases h3 : c = 9 <;> simp [h1, h2, h3] <;> omega
  simp only [e]
  cases h : T.any badV with
  | false =>
    have : T.filter badV = [] := List.filter_eq_nil_iff.mpr fun c hc => by rw [List.any_eq_false] at h; exact h c hc
    simp [this]
  | true =>
    obtain ⟨c, hc, hp⟩ := List.any_eq_true.mp h
    have : T.filter badV ≠ [] := fun e => by
      have : c ∈ T.filter badV := List.mem_filter.mpr ⟨hc, hp⟩
      rw [e] at this; cases this
    simp [this]
theorem bad_any (T : List Nat) : decide (T.filter badN = []) = !T.any badN := by
  cases h : T.any badN with
  | false =>
    have : T.filter badN = [] := List.filter_eq_nil_iff.mpr fun c hc => by rw [List.any_eq_false] at h; exact h c hc
    simp [this]
  | true =>
    obtain ⟨c, hc, hp⟩ := List.any_eq_true.mp h
    have : T.filter badN ≠ [] := fun e => by
      have : c ∈ T.filter badN := List.mem_filter.mpr ⟨hc, hp⟩
      rw [e] at this; cases this
    simp [this]
noncomputable def ansL (T : List Nat) : List V := [V.str (S T), .none, .none, .none, .bool false, .str (S [118]), .lst [], .str (S [118]), .none, .none, .lst [.tup [.str (S T), .str (S [118])]], .str (S T), .none, .str (S T), .none, .none, .lst [.tup [.str (S [75]), .str (S T)]]]
noncomputable def lv0 : List V := List.replicate 17 (.lst [])
noncomputable def lv1 (T : List Nat) : List V := ((lv0.set 1 (.lst [prV (S T, S [118])])).set 7 (.lst [prV (S T, S [118])])).set 8 (.lst [prV (S T, S [118])])
noncomputable def lv2 (T : List Nat) : List V := (lv1 T).set 9 (.lst [prV (S [75], S (valK [118] (112 :: T) [119]))])
noncomputable def lv3 (T : List Nat) : List V := (((lv2 T).set 12 (.lst [prV (S [75], S T)])).set 13 (.lst [prV (S [75], S T)])).set 14 (.lst [prV (S [75], S T)])
noncomputable def lv4 (T : List Nat) : List V := (lv3 T).set 15 (.lst [prV (S [75], S (valK [118] [112] T))])
theorem cases17 {P : Nat → Prop} (h0 : P 0) (h1 : P 1) (h2 : P 2) (h3 : P 3) (h4 : P 4) (h5 : P 5) (h6 : P 6) (h7 : P 7) (h8 : P 8) (h9 : P 9) (h10 : P 10) (h11 : P 11) (h12 : P 12) (h13 : P 13) (h14 : P 14) (h15 : P 15) (h16 : P 16) {d : Nat} (hd : d < 17) : P d := by
  have cs := cs17 d hd
  rcases cs with rfl | rfl | rfl | rfl | rfl | rfl | rfl | rfl | rfl | rfl | rfl | rfl | rfl | rfl | rfl | rfl | rfl <;> assumption
theorem lv4_at (T : List Nat) {d : Nat} (hd : d < 17) : idxL (lv4 T) ((d : Nat) : Int) = some (.lst ((laidL d T).map prV)) :=
  cases17 (P := fun d => idxL (lv4 T) ((d : Nat) : Int) = some (.lst ((laidL d T).map prV))) rfl rfl rfl rfl rfl rfl rfl rfl rfl rfl rfl rfl rfl rfl rfl rfl rfl hd
theorem ans_at (T : List Nat) {d : Nat} (hd : d < 17) : idxL (ansL T) ((d : Nat) : Int) = some (ansV d T) :=
  cases17 (P := fun d => idxL (ansL T) ((d : Nat) : Int) = some (ansV d T)) rfl rfl rfl rfl rfl rfl rfl rfl rfl rfl rfl rfl rfl rfl rfl rfl rfl hd
theorem ne_self_str {x : Str} {Q : Bool → St → Prop} {σ : St} (h : Q false σ) : cmpA .NotEq (.str x) (.str x) Q σ := ne_s (fun _ => h) fun e => absurd rfl e
theorem ne_self_none {Q : Bool → St → Prop} {σ : St} (h : Q false σ) : cmpA .NotEq .none .none Q σ := h
theorem ne_self_lst {l : List PS} {Q : Bool → St → Prop} {σ : St} (h : Q false σ) : cmpA .NotEq (.lst (l.map prV)) (.lst (l.map prV)) Q σ := by
  refine ne_v (eqA_pairs (l := l) (m := l) rfl rfl ?_)
  rw [decide_eq_true rfl]
  exact h
theorem ans_ne (T : List Nat) {d : Nat} (hd : d < 17) {Q : Bool → St → Prop} {σ : St} (h : Q false σ) : cmpA .NotEq (ansV d T) (ansV d T) Q σ :=
  cases17 (P := fun d => cmpA .NotEq (ansV d T) (ansV d T) Q σ) (ne_self_str h) (ne_self_none h) (ne_self_none h) (ne_self_none h) (ne_bb h) (ne_self_str h) (ne_self_lst (l := []) h) (ne_self_str h) (ne_self_none h) (ne_self_none h) (ne_self_lst (l := [(S T, S [118])]) h) (ne_self_str h) (ne_self_none h) (ne_self_str h) (ne_self_none h) (ne_self_none h) (ne_self_lst (l := [(S [75], S T)]) h) hd
theorem nmC : Str.ofString "a name that is longer" = S nm0 := by decide +kernel
theorem vz : Str.ofString "z" = S [122] := by decide +kernel
theorem v0 : Str.ofString "" = S [] := by decide +kernel
theorem vtab : Str.ofString "\t" = S [9] := by decide +kernel
theorem vun : Str.ofString "_" = S [95] := by decide +kernel
theorem vhy : Str.ofString "-" = S [45] := by decide +kernel
theorem vqu : Str.ofString "\"" = S [34] := by decide +kernel
theorem vvs : Str.ofString "v; " = S [118, 59, 32] := by decide +kernel
theorem vvp : Str.ofString "v; p" = S [118, 59, 32, 112] := by decide +kernel
theorem veq_w : Str.ofString "=\"w\"" = S [61, 34, 119, 34] := by decide +kernel
theorem veq_q : Str.ofString "=\"" = S [61, 34] := by decide +kernel
theorem val9 (T : List Nat) : valK [118] (112 :: T) [119] = [118, 59, 32] ++ (112 :: T.map hyp) ++ [61, 34, 119, 34] := by
  unfold valK fmtP
  rw [if_neg (by simp), rep_mrk]
  have : rep 95 [45] (112 :: T) = 112 :: T.map hyp := by rw [rep_hyp]; rfl
  rw [this]
  have e : [119].flatMap mrk = [119] := by decide
  rw [e]
  simp
theorem val15 (T : List Nat) : valK [118] [112] T = [118, 59, 32, 112] ++ (if T = [] then [] else [61, 34] ++ T.flatMap mrk ++ [34]) := by
  unfold valK fmtP
  rw [rep_mrk]
  have : rep 95 [45] [112] = [112] := by decide
  rw [this]
  split <;> simp
theorem law_run : ∃ fb, SB ⟨PG, fd_law.scope.names, ["script", "whole", "size", "text", "bad", "worse", "named", "marked", "answers", "laid", "door", "table", "refused", "answer"], 6, true⟩ (stmtsOf fd_law.body) fb ∧ ∀ ns : List Int, ns.length ≤ 63 → fb (fun fl _ => fl = .ret (.bool true)) ⟨initLoc ["script", "whole", "size", "text", "bad", "worse", "named", "marked", "answers", "laid", "door", "table", "refused", "answer"] ["script"] [.lst (ns.map .int)], []⟩ := by
  refine ⟨_, (by refine' b_cons ?g30a ?g30b; (case g30a => exact (by refine' s_Assign (k := 1) ?g2a ?g2b; (case g2a => exact (by refine' r_Meth ?g1a ?g1b ?g1c ?g1d ?g1e ?g1f; (case g1a => exact r_str); (case g1b => exact (meth_str F.slot_str_join F.type_str_join)); (case g1c => exact (rs_cons (r_ListComp (caps := [none]) ["n"] (i_seq (r_Slice false (r_Name (k := 0) (by kernel_rfl)) o_none (o_some r_int))) (a_Name (k := 0) (by kernel_rfl)) ts_nil (r_Call (by kernel_rfl) (rs_cons (r_Name (k := 0) (by kernel_rfl)) rs_nil) rk_nil (cal_fn ok_law_sign (by decide)) (.inr fun q => by kernel_rfl)) (by kernel_rfl)) rs_nil)); (case g1d => exact rk_nil); (case g1e => exact cal_join); (case g1f => exact keep_builtin))); (case g2b => exact (by kernel_rfl)))); (case g30b => exact (b_cons (s_For (i_range (by kernel_rfl) (rs_cons (r_BinOp (r_Call (by kernel_rfl) (rs_cons (r_Name (k := 1) (by kernel_rfl)) rs_nil) rk_nil cal_len keep_builtin) r_int) rs_nil)) (a_Name (k := 2) (by kernel_rfl)) (b_cons (s_Assign (k := 3) (r_Slice false (r_Name (k := 1) (by kernel_rfl)) o_none (o_some (r_Name (k := 2) (by kernel_rfl)))) (by kernel_rfl)) (b_cons (s_AssignComp (k := 4) (caps := [none]) ["c"] (i_seq (r_Name (k := 3) (by kernel_rfl))) (a_Name (k := 0) (by kernel_rfl)) (ts_one (t_or (t_Compare (r_Call (by kernel_rfl) (rs_cons (r_Name (k := 0) (by kernel_rfl)) rs_nil) rk_nil cal_ord keep_builtin) r_int) (t_or1 (t_Compare (r_Call (by kernel_rfl) (rs_cons (r_Name (k := 0) (by kernel_rfl)) rs_nil) rk_nil cal_ord keep_builtin) r_int)))) (r_Name (k := 0) (by kernel_rfl)) (by kernel_rfl) (by kernel_rfl) (by kernel_rfl)) (b_cons (s_AssignComp (k := 5) (caps := [none]) ["c"] (i_seq (r_Name (k := 4) (by kernel_rfl))) (a_Name (k := 0) (by kernel_rfl)) (ts_one (t_Compare (r_Name (k := 0) (by kernel_rfl)) r_str)) (r_Name (k := 0) (by kernel_rfl)) (by kernel_rfl) (by kernel_rfl) (by kernel_rfl)) (by refine' b_cons ?g29a ?g29b; (case g29a => exact (by refine' s_Assign (k := 6) ?g5a ?g5b; (case g5a => exact (by refine' r_BinOp ?g4a ?g4b; (case g4a => exact r_str); (case g4b => exact (by refine' r_Meth ?g3a ?g3b ?g3c ?g3d ?g3e ?g3f; (case g3a => exact r_str); (case g3b => exact (meth_str F.slot_str_join F.type_str_join)); (case g3c => exact (rs_cons (r_ListComp (caps := [none]) ["c"] (i_seq (r_Name (k := 3) (by kernel_rfl))) (a_Name (k := 0) (by kernel_rfl)) ts_nil (r_IfExp (t_Compare (r_Name (k := 0) (by kernel_rfl)) r_str) r_str (r_Name (k := 0) (by kernel_rfl))) (by kernel_rfl)) rs_nil)); (case g3d => exact rk_nil); (case g3e => exact cal_join); (case g3f => exact keep_builtin))))); (case g5b => exact (by kernel_rfl)))); (case g29b => exact (by refine' b_cons ?g28a ?g28b; (case g28a => exact (by refine' s_Assign (k := 7) ?g7a ?g7b; (case g7a => exact (by refine' r_Meth ?g6a ?g6b ?g6c ?g6d ?g6e ?g6f; (case g6a => exact r_str); (case g6b => exact (meth_str F.slot_str_join F.type_str_join)); (case g6c => exact (rs_cons (r_ListComp (caps := [none]) ["c"] (i_seq (r_Name (k := 3) (by kernel_rfl))) (a_Name (k := 0) (by kernel_rfl)) ts_nil (r_IfExp (t_or (t_Compare (r_Name (k := 0) (by kernel_rfl)) r_str) (t_or1 (t_Compare (r_Name (k := 0) (by kernel_rfl)) (r_Call (by kernel_rfl) (rs_cons r_int rs_nil) rk_nil cal_chr keep_builtin)))) (r_BinOp (r_Call (by kernel_rfl) (rs_cons r_int rs_nil) rk_nil cal_chr keep_builtin) (r_Name (k := 0) (by kernel_rfl))) (r_Name (k := 0) (by kernel_rfl))) (by kernel_rfl)) rs_nil)); (case g6d => exact rk_nil); (case g6e => exact cal_join); (case g6f => exact keep_builtin))); (case g7b => exact (by kernel_rfl)))); (case g28b => exact (by refine' b_cons ?g27a ?g27b; (case g27a => exact (by refine' s_Assign (k := 8) ?g26a ?g26b; (case g26a => exact (by refine' r_List ?g25a; (case g25a => exact (by refine' rs_cons ?g24a ?g24b; (case g24a => exact (r_Name (k := 3) (by kernel_rfl))); (case g24b => exact (by refine' rs_cons ?g23a ?g23b; (case g23a => exact r_none); (case g23b => exact (by refine' rs_cons ?g22a ?g22b; (case g22a => exact r_none); (case g22b => exact (by refine' rs_cons ?g21a ?g21b; (case g21a => exact r_none); (case g21b => exact (by refine' rs_cons ?g20a ?g20b; (case g20a => exact r_bool); (case g20b => exact (by refine' rs_cons ?g19a ?g19b; (case g19a => exact r_str); (case g19b => exact (by refine' rs_cons ?g18a ?g18b; (case g18a => exact (r_List rs_nil)); (case g18b => exact (by refine' rs_cons ?g17a ?g17b; (case g17a => exact r_str); (case g17b => exact (by refine' rs_cons ?g16a ?g16b; (case g16a => exact r_none); (case g16b => exact (by refine' rs_cons ?g15a ?g15b; (case g15a => exact r_none); (case g15b => exact (by refine' rs_cons ?g14a ?g14b; (case g14a => exact (r_List (rs_cons (r_Tuple (rs_cons (r_Name (k := 3) (by kernel_rfl)) (rs_cons r_str rs_nil))) rs_nil))); (case g14b => exact (by refine' rs_cons ?g13a ?g13b; (case g13a => exact (r_Name (k := 3) (by kernel_rfl))); (case g13b => exact (by refine' rs_cons ?g12a ?g12b; (case g12a => exact r_none); (case g12b => exact (by refine' rs_cons ?g11a ?g11b; (case g11a => exact (r_Name (k := 3) (by kernel_rfl))); (case g11b => exact (by refine' rs_cons ?g10a ?g10b; (case g10a => exact r_none); (case g10b => exact (by refine' rs_cons ?g9a ?g9b; (case g9a => exact r_none); (case g9b => exact (by refine' rs_cons ?g8a ?g8b; (case g8a => exact (r_List (rs_cons (r_Tuple (rs_cons r_str (rs_cons (r_Name (k := 3) (by kernel_rfl)) rs_nil))) rs_nil))); (case g8b => exact rs_nil))))))))))))))))))))))))))))))))))))); (case g26b => exact (by kernel_rfl)))); (case g27b => exact (b_cons (s_Assign (k := 9) (r_MulLT (r_List (rs_cons (r_List rs_nil) rs_nil)) r_int) (by kernel_rfl)) (b_cons (s_AssignM (r_List (rs_cons (r_Tuple (rs_cons (r_Name (k := 3) (by kernel_rfl)) (rs_cons r_str rs_nil))) rs_nil)) (sal_cons (a_SubSet (r_Name (k := 9) (by kernel_rfl)) r_int) (sal_cons (a_SubSet (r_Name (k := 9) (by kernel_rfl)) r_int) (sal_one (a_SubSet (r_Name (k := 9) (by kernel_rfl)) r_int))))) (b_cons (s_AssignT (r_List (rs_cons (r_Tuple (rs_cons r_str (rs_cons (r_BinOp (r_BinOp r_str (r_Name (k := 6) (by kernel_rfl))) r_str) rs_nil))) rs_nil)) (a_SubSet (r_Name (k := 9) (by kernel_rfl)) r_int)) (b_cons (s_AssignM (r_List (rs_cons (r_Tuple (rs_cons r_str (rs_cons (r_Name (k := 3) (by kernel_rfl)) rs_nil))) rs_nil)) (sal_cons (a_SubSet (r_Name (k := 9) (by kernel_rfl)) r_int) (sal_cons (a_SubSet (r_Name (k := 9) (by kernel_rfl)) r_int) (sal_one (a_SubSet (r_Name (k := 9) (by kernel_rfl)) r_int))))) (b_cons (s_AssignT (r_List (rs_cons (r_Tuple (rs_cons r_str (rs_cons (r_BinOp r_str (r_IfExp (t_Compare (r_Name (k := 3) (by kernel_rfl)) r_str) (r_BinOp (r_BinOp r_str (r_Name (k := 7) (by kernel_rfl))) r_str) r_str)) rs_nil))) rs_nil)) (a_SubSet (r_Name (k := 9) (by kernel_rfl)) r_int)) (b_cons (s_For (i_range (by kernel_rfl) (rs_cons r_int rs_nil)) (a_Name (k := 10) (by kernel_rfl)) (b_cons (s_Assign (k := 11) (r_Call (by kernel_rfl) (rs_cons (r_ListT (rs_cons (r_Tuple (rs_cons r_str (rs_cons r_str rs_nil))) rs_nil)) rs_nil) rk_nil (cal_class cls_is ok_init1 (by decide)) (.inr fun q => by kernel_rfl)) (by kernel_rfl)) (b_cons (s_Assign (k := 12) r_bool (by kernel_rfl)) (b_cons (s_Assign (k := 13) r_none (by kernel_rfl)) (b_cons (s_Try (b_cons (s_Assign (k := 13) (r_Call (by kernel_rfl) (rs_cons (r_Name (k := 11) (by kernel_rfl)) (rs_cons (r_Name (k := 10) (by kernel_rfl)) (rs_cons (r_Name (k := 3) (by kernel_rfl)) rs_nil))) rk_nil (cal_fn ok_law_door (by decide)) (.inr fun q => by kernel_rfl)) (by kernel_rfl)) b_nil) (xb_cons s_dead (x_Assign (x_Call (by kernel_rfl) (rs_cons (r_Name (k := 11) (by kernel_rfl)) (rs_cons (r_Name (k := 10) (by kernel_rfl)) (rs_cons (r_Name (k := 3) (by kernel_rfl)) rs_nil))) rk_nil (cal_fnx x_law_door (by decide)) (.inr fun q => by kernel_rfl))) xb_never) (h_cons name_ValueError (by kernel_rfl) (hb_cons (hs_AssignB (j := 12) (by kernel_rfl)) hb_nil) h_nil)) (b_cons (s_If (t_Compare (r_Name (k := 12) (by kernel_rfl)) (r_Compare (r_IfExp (t_Compare (r_Name (k := 10) (by kernel_rfl)) r_int) (r_Name (k := 4) (by kernel_rfl)) (r_Name (k := 5) (by kernel_rfl))) (r_List rs_nil))) (b_cons (s_Return r_bool) b_nil) b_nil) (b_cons (s_If (t_and (t_Not (t_plain (r_Name (k := 12) (by kernel_rfl)))) (t_and1 (t_Compare (r_Name (k := 13) (by kernel_rfl)) (r_Sub (r_Name (k := 8) (by kernel_rfl)) (r_Name (k := 10) (by kernel_rfl)))))) (b_cons (s_Return r_bool) b_nil) b_nil) (b_cons (s_If (t_Compare (r_Meth (r_Name (k := 11) (by kernel_rfl)) (meth_inst me_items) rs_nil rk_nil (cal_fn ok_items (by decide)) (.inr fun q => by kernel_rfl)) (r_BinOp (r_List (rs_cons (r_Tuple (rs_cons r_str (rs_cons r_str rs_nil))) rs_nil)) (r_IfExp (t_plain (r_Name (k := 12) (by kernel_rfl))) (r_List rs_nil) (r_Sub (r_Name (k := 9) (by kernel_rfl)) (r_Name (k := 10) (by kernel_rfl)))))) (b_cons (s_Return r_bool) b_nil) b_nil) b_nil)))))))) b_nil)))))))))))))))) (b_cons (s_Return r_bool) b_nil)))), fun ns hns => ?_⟩
  rw [show initLoc ["script", "whole", "size", "text", "bad", "worse", "named", "marked", "answers", "laid", "door", "table", "refused", "answer"] ["script"] [.lst (ns.map .int)] = [some (.lst (ns.map .int)), none, none, none, none, none, none, none, none, none, none, none, none, none] from by kernel_rfl]
  have hsl : ns.length ≤ sizeLine := leS hns
  have hz : 100000 ≤ sizeLine := by decide
  -- text
  refine seqF_of (fun σ => ∃ T : List Nat, Txts T ∧ σ = ⟨[some (.lst (ns.map .int)), some (.str (S T)), none, none, none, none, none, none, none, none, none, none, none, none], []⟩) (fun K hK => ?_) ?_
  · walk_at "mine go"
    refine slc_l (l := ns.map .int) rfl (by simpa using hsl) (by rfl) ?_
    refine itm_l rfl ⟨leS (m := 8) (List.length_take_le _ _), ?_⟩
    rw [show List.take (8 : Int).toNat (List.map V.int ns) = (ns.take 8).map V.int by simp]
    refine compL_pure V.int (fun _ => true) (fun n => .str (S [sgn n])) (fun σ => σ.objs = [] ∧ ∃ a, σ.loc = [a]) (fun σ h => rfl) (fun n hn σ Q' hJ hQ' => ?_) ⟨rfl, _, rfl⟩ fun σ' hJ => ?_
    · obtain ⟨ho, a, hl⟩ := hJ
      obtain ⟨loc, objs⟩ := σ
      cases ho; cases hl
      walk_at "mine go"
      refine ⟨n, rfl, ?_⟩
      exact hQ' ⟨[some (.int n)], []⟩ ⟨rfl, _, rfl⟩
    · obtain ⟨ho, _⟩ := hJ
      rw [ho, List.filter_eq_self.mpr fun _ _ => rfl, List.nil_append]
      walk_at "mine go"
      have hl8 : (ns.take 8).length ≤ 8 := List.length_take_le _ _
      have ef := flat1 sgn (ns.take 8)
      refine joinE (f := fun n => [sgn n]) (ns.take 8) (by rw [ef, List.length_map]; exact Nat.le_trans hl8 (by decide)) ?_
      rw [ef]
      walk_at "mine go"
      refine hK _ ⟨_, ⟨maL hl8, fun c hc => ?_⟩, rfl⟩
      obtain ⟨n, _, rfl⟩ := List.mem_map.mp hc
      exact sgn_code n
  rintro _ ⟨W, hW, rfl⟩
  have hWl := hW.1
  -- the beginnings
  refine seqF_ret (fun σ => True) (fun K hK hR => ?_) ?_
  · walk_at "mine go"
    refine len_s (by rw [S_len]; exact leS hWl) ?_
    rw [S_len]
    walk_at "mine go"
    rw [show (W.length : Int) + 1 = ((W.length + 1 : Nat) : Int) from rfl]
    have hWz := inN (n := W.length + 1) (Nat.lt_of_le_of_lt (Nat.succ_le_succ hWl) (by decide))
    refine rng1_i hWz.1 hWz.2 ?_
    refine forL_range (fun k σ => ∃ a2 a3 a4 a5 a6 a7 a8 a9 a10 a11 a12 a13 objs, σ = ⟨[some (.lst (ns.map .int)), some (.str (S W)), a2, a3, a4, a5, a6, a7, a8, a9, a10, a11, a12, a13], objs⟩) (W.length + 1) (fun _ _ _ => trivial) (fun k σ K₁ hk hI h1 _ _ hr1 => ?_) (fun σ hI => hK σ trivial) ⟨_, _, _, _, _, _, _, _, _, _, _, _, _, rfl⟩
    obtain ⟨a2, a3, a4, a5, a6, a7, a8, a9, a10, a11, a12, a13, objs, rfl⟩ := hI
    have hfin : ∀ a2 a3 a4 a5 a6 a7 a8 a9 a10 a11 a12 a13 objs, K₁ .next ⟨[some (.lst (ns.map .int)), some (.str (S W)), a2, a3, a4, a5, a6, a7, a8, a9, a10, a11, a12, a13], objs⟩ := fun _ _ _ _ _ _ _ _ _ _ _ _ _ => h1 _ ⟨_, _, _, _, _, _, _, _, _, _, _, _, _, rfl⟩
    clear h1
    have hTx : Txts (W.take k) := ⟨Nat.le_trans (List.length_take_le' _ _) hWl, fun c hc => hW.2 c (List.mem_of_mem_take hc)⟩
    walk_at "mine gn"
    refine seqF_of (fun σ => σ = ⟨[some (.lst (ns.map .int)), some (.str (S W)), some (.int (k : Int)), some (.str (S (W.take k))), a4, a5, a6, a7, a8, a9, a10, a11, a12, a13], objs⟩) (fun K₂ hK₂ => ?_) ?_
    · walk_at "mine go"
      refine slc_s (by rw [S_len]; exact leS hWl) ?_
      rw [slice_to]
      walk_at "mine go"
      exact hK₂ _ rfl
    rintro _ rfl
    generalize W.take k = T at hTx
    have hTl := hTx.1
    -- bad
    refine seqF_of (fun σ => σ = ⟨[some (.lst (ns.map .int)), some (.str (S W)), some (.int (k : Int)), some (.str (S T)), some (.lst (cV (T.filter badN))), a5, a6, a7, a8, a9, a10, a11, a12, a13], objs⟩) (fun K₂ hK₂ => ?_) ?_
    · walk_at "mine go"
      rw [sgnV_S]
      refine ⟨leS (maL hTl), ?_⟩
      refine compL_pure (fun c : Nat => V.str (S [c])) badN (fun c : Nat => V.str (S [c])) (fun σ => σ.objs = objs ∧ ∃ a, σ.loc = [a]) (fun σ h => trivial) (fun c hc σ Q' hJ hQ' => ?_) ⟨rfl, _, rfl⟩ fun σ' hJ => ?_
      · obtain ⟨ho, a, hl⟩ := hJ
        obtain ⟨loc, os⟩ := σ
        cases ho; cases hl
        have hq := hQ' ⟨[some (.str (S [c]))], os⟩ ⟨rfl, _, rfl⟩
        walk_at "mine go"
        refine ord_i rfl ?_
        walk_at "mine go"
        refine lt_i (fun h32 => ?_) (fun h32 => ?_)
        · walk_at "mine go"
          have hc32 : c < 32 := Int.ofNat_lt.mp (show ((c : Nat) : Int) < ((32 : Nat) : Int) from h32)
          have hb : badN c = true := by unfold badN; simp; omega
          rw [if_pos hb] at hq
          exact hq
        · have hc32 : ¬ c < 32 := fun h => h32 (show ((c : Nat) : Int) < ((32 : Nat) : Int) from Int.ofNat_lt.mpr h)
          walk_at "mine go"
          refine ord_i rfl ?_
          walk_at "mine go"
          refine eq_i (fun h127 => ?_) (fun h127 => ?_)
          · have hc127 : c = 127 := Int.ofNat_inj.mp (show ((c : Nat) : Int) = ((127 : Nat) : Int) from h127)
            walk_at "mine go"
            have hb : badN c = true := by unfold badN; simp; omega
            rw [if_pos hb] at hq
            exact hq
          · have hc127 : c ≠ 127 := fun h => h127 (show ((c : Nat) : Int) = ((127 : Nat) : Int) from congrArg _ h)
            walk_at "mine go"
            have hb : ¬ badN c = true := by unfold badN; simp; omega
            rw [if_neg hb] at hq
            exact hq
      · obtain ⟨ho, _⟩ := hJ
        rw [ho, List.nil_append]
        walk_at "mine go"
        exact hK₂ _ rfl
    rintro _ rfl
    have hbl : (T.filter badN).length ≤ 8 := Nat.le_trans (List.length_filter_le _ _) hTl
    -- worse
    refine seqF_of (fun σ => σ = ⟨[some (.lst (ns.map .int)), some (.str (S W)), some (.int (k : Int)), some (.str (S T)), some (.lst (cV (T.filter badN))), some (.lst (cV ((T.filter badN).filter fun c => !decide (c = 9)))), a6, a7, a8, a9, a10, a11, a12, a13], objs⟩) (fun K₂ hK₂ => ?_) ?_
    · walk_at "mine go"
      refine itm_l rfl ⟨leS (maL hbl), ?_⟩
      refine compL_pure (fun c : Nat => V.str (S [c])) (fun c => !decide (c = 9)) (fun c : Nat => V.str (S [c])) (fun σ => σ.objs = objs ∧ ∃ a, σ.loc = [a]) (fun σ h => rfl) (fun c hc σ Q' hJ hQ' => ?_) ⟨rfl, _, rfl⟩ fun σ' hJ => ?_
      · obtain ⟨ho, a, hl⟩ := hJ
        obtain ⟨loc, os⟩ := σ
        cases ho; cases hl
        have hq := hQ' ⟨[some (.str (S [c]))], os⟩ ⟨rfl, _, rfl⟩
        walk_at "mine go"
        rw [vtab]
        refine ne_s (fun h9 => ?_) (fun h9 => ?_)
        · walk_at "mine go"
          have hc9 : c = 9 := by have h := S_inj.mp h9; injection h
          simp only [hc9, decide_true, Bool.not_true, Bool.false_eq_true, if_false] at hq
          rw [hc9]
          exact hq
        · walk_at "mine go"
          have hc9 : c ≠ 9 := fun h => h9 (by rw [h])
          simp only [hc9, decide_false, Bool.not_false, if_true] at hq
          exact hq
      · obtain ⟨ho, _⟩ := hJ
        rw [ho, List.nil_append]
        walk_at "mine go"
        exact hK₂ _ rfl
    rintro _ rfl
    have hlV := worse_any T
    have hlN := bad_any T
    have hwl : ((T.filter badN).filter fun c => !decide (c = 9)).length ≤ 8 := Nat.le_trans (List.length_filter_le _ _) hbl
    generalize ((T.filter badN).filter fun c => !decide (c = 9)) = Wo at hlV hwl
    generalize T.filter badN = Ba at hlN hbl
    -- named
    refine seqF_of (fun σ => σ = ⟨[some (.lst (ns.map .int)), some (.str (S W)), some (.int (k : Int)), some (.str (S T)), some (.lst (cV Ba)), some (.lst (cV Wo)), some (.str (S (112 :: T.map hyp))), a7, a8, a9, a10, a11, a12, a13], objs⟩) (fun K₂ hK₂ => ?_) ?_
    · walk_at "mine go"
      rw [sgnV_S]
      refine ⟨leS (maL hTl), ?_⟩
      refine compL_pure (fun c : Nat => V.str (S [c])) (fun _ => true) (fun c : Nat => V.str (S [hyp c])) (fun σ => σ.objs = objs ∧ ∃ a, σ.loc = [a]) (fun σ h => trivial) (fun c hc σ Q' hJ hQ' => ?_) ⟨rfl, _, rfl⟩ fun σ' hJ => ?_
      · obtain ⟨ho, a, hl⟩ := hJ
        obtain ⟨loc, os⟩ := σ
        cases ho; cases hl
        have hq := hQ' ⟨[some (.str (S [c]))], os⟩ ⟨rfl, _, rfl⟩
        simp only [if_true] at hq
        walk_at "mine go"
        rw [vun]
        refine eq_s (fun h9 => ?_) (fun h9 => ?_)
        · walk_at "mine go"
          have hc9 : c = 95 := by have h := S_inj.mp h9; injection h
          have e : hyp c = 45 := if_pos hc9
          rw [e] at hq
          rw [vhy]
          exact hq
        · walk_at "mine go"
          have hc9 : c ≠ 95 := fun h => h9 (by rw [h])
          have e : hyp c = c := if_neg hc9
          rw [e] at hq
          exact hq
      · obtain ⟨ho, _⟩ := hJ
        rw [ho, List.filter_eq_self.mpr fun _ _ => rfl, List.nil_append]
        walk_at "mine go"
        have ef := flat1 hyp T
        refine joinE (f := fun c => [hyp c]) T (by rw [ef, List.length_map]; exact Nat.le_trans hTl (by decide)) ?_
        rw [ef]
        walk_at "mine go"
        refine add_s (by rw [vp]; exact szA (m := 1) (by decide) (maL hTl)) ?_
        rw [vp, S_app]
        walk_at "mine go"
        exact hK₂ _ rfl
    rintro _ rfl
    -- marked
    refine seqF_of (fun σ => σ = ⟨[some (.lst (ns.map .int)), some (.str (S W)), some (.int (k : Int)), some (.str (S T)), some (.lst (cV Ba)), some (.lst (cV Wo)), some (.str (S (112 :: T.map hyp))), some (.str (S (T.flatMap mrk))), a8, a9, a10, a11, a12, a13], objs⟩) (fun K₂ hK₂ => ?_) ?_
    · walk_at "mine go"
      rw [sgnV_S]
      refine ⟨leS (maL hTl), ?_⟩
      refine compL_pure (fun c : Nat => V.str (S [c])) (fun _ => true) (fun c : Nat => V.str (S (mrk c))) (fun σ => σ.objs = objs ∧ ∃ a, σ.loc = [a]) (fun σ h => trivial) (fun c hc σ Q' hJ hQ' => ?_) ⟨rfl, _, rfl⟩ fun σ' hJ => ?_
      · obtain ⟨ho, a, hl⟩ := hJ
        obtain ⟨loc, os⟩ := σ
        cases ho; cases hl
        have hq := hQ' ⟨[some (.str (S [c]))], os⟩ ⟨rfl, _, rfl⟩
        simp only [if_true] at hq
        have two : (c = 34 ∨ c = 92) → ∀ P : V → St → Prop, P (.str (S (mrk c))) ⟨[some (.str (S [c]))], os⟩ → binA .Add (.str ⟨#[(92 : Int).toNat]⟩) (.str (S [c])) P ⟨[some (.str (S [c]))], os⟩ := fun h P hP => by
          refine add_s (leS (Nat.le_refl (1 + 1))) ?_
          have e : mrk c = [92, c] := if_pos h
          rw [e] at hP
          show P (.str (S [92] ++ S [c])) _
          rw [S_app]
          exact hP
        walk_at "mine go"
        rw [vqu]
        refine eq_s (fun h9 => ?_) (fun h9 => ?_)
        · walk_at "mine go"
          have hc9 : c = 34 := by have h := S_inj.mp h9; injection h
          refine chr_i (by decide) (by decide) ?_
          walk_at "mine go"
          exact two (.inl hc9) _ hq
        · walk_at "mine go"
          have hc9 : c ≠ 34 := fun h => h9 (by rw [h])
          refine chr_i (by decide) (by decide) ?_
          walk_at "mine go"
          refine eq_s (fun h8 => ?_) (fun h8 => ?_)
          · walk_at "mine go"
            have hc8 : c = 92 := by have h := (S_inj (a := [c]) (b := [92])).mp h8; injection h
            refine chr_i (by decide) (by decide) ?_
            walk_at "mine go"
            exact two (.inr hc8) _ hq
          · walk_at "mine go"
            have hc8 : c ≠ 92 := fun h => h8 (by rw [h]; rfl)
            have e : mrk c = [c] := if_neg (fun h => h.elim hc9 hc8)
            rw [e] at hq
            exact hq
      · obtain ⟨ho, _⟩ := hJ
        rw [ho, List.filter_eq_self.mpr fun _ _ => rfl, List.nil_append]
        walk_at "mine go"
        have hml16 : (T.flatMap mrk).length ≤ 16 := Nat.le_trans (mrk_len T) (Nat.mul_le_mul_left 2 hTl)
        refine joinE (f := mrk) T (Nat.le_trans hml16 (by decide)) ?_
        walk_at "mine go"
        exact hK₂ _ rfl
    rintro _ rfl
    have hml : (T.flatMap mrk).length ≤ 16 := Nat.le_trans (mrk_len T) (Nat.mul_le_mul_left 2 hTl)
    have hnm : (112 :: T.map hyp).length ≤ 9 := coL (maL hTl)
    -- answers
    refine seqF_of (fun σ => σ = ⟨[some (.lst (ns.map .int)), some (.str (S W)), some (.int (k : Int)), some (.str (S T)), some (.lst (cV Ba)), some (.lst (cV Wo)), some (.str (S (112 :: T.map hyp))), some (.str (S (T.flatMap mrk))), some (.lst (ansL T)), a9, a10, a11, a12, a13], objs⟩) (fun K₂ hK₂ => ?_) ?_
    · walk_at "mine go"
      rw [vv, vK]
      exact hK₂ _ rfl
    rintro _ rfl
    -- laid
    have hN : ∀ l, lstAt (objs ++ [O.list l]) objs.length = some l := fun l => lst_new
    have hset : ∀ c c', (objs ++ [O.list c]).set objs.length (O.list c') = objs ++ [O.list c'] := fun c c' => by rw [List.set_append_right _ _ (Nat.le_refl _)]; simp
    refine seqF_of (fun σ => σ = ⟨[some (.lst (ns.map .int)), some (.str (S W)), some (.int (k : Int)), some (.str (S T)), some (.lst (cV Ba)), some (.lst (cV Wo)), some (.str (S (112 :: T.map hyp))), some (.str (S (T.flatMap mrk))), some (.lst (ansL T)), some (.ref objs.length), a10, a11, a12, a13], objs ++ [O.list lv0]⟩) (fun K₂ hK₂ => ?_) ?_
    · walk_at "mine go"
      refine mulT_i (l := [.lst []]) rfl (by decide) (by decide) (by decide) ?_
      walk_at "mine go"
      exact hK₂ _ rfl
    rintro _ rfl
    refine seqF_of (fun σ => σ = ⟨[some (.lst (ns.map .int)), some (.str (S W)), some (.int (k : Int)), some (.str (S T)), some (.lst (cV Ba)), some (.lst (cV Wo)), some (.str (S (112 :: T.map hyp))), some (.str (S (T.flatMap mrk))), some (.lst (ansL T)), some (.ref objs.length), a10, a11, a12, a13], objs ++ [O.list (lv1 T)]⟩) (fun K₂ hK₂ => ?_) ?_
    · walk_at "mine go"
      rw [vv]
      refine setAll_cons ?_
      walk_at "mine go"
      refine setIdx_i (by decide) (hN _) (m := 1) rfl ?_
      rw [hset]
      refine setAll_cons ?_
      walk_at "mine go"
      refine setIdx_i (by decide) (hN _) (m := 7) rfl ?_
      rw [hset]
      refine setAll_cons ?_
      walk_at "mine go"
      refine setIdx_i (by decide) (hN _) (m := 8) rfl ?_
      rw [hset]
      refine setAll_nil ?_
      walk_at "mine go"
      exact hK₂ _ rfl
    rintro _ rfl
    refine seqF_of (fun σ => σ = ⟨[some (.lst (ns.map .int)), some (.str (S W)), some (.int (k : Int)), some (.str (S T)), some (.lst (cV Ba)), some (.lst (cV Wo)), some (.str (S (112 :: T.map hyp))), some (.str (S (T.flatMap mrk))), some (.lst (ansL T)), some (.ref objs.length), a10, a11, a12, a13], objs ++ [O.list (lv2 T)]⟩) (fun K₂ hK₂ => ?_) ?_
    · walk_at "mine go"
      refine add_s (by rw [vvs]; exact szA (m := 3) (by decide) hnm) ?_
      rw [vvs, S_app]
      walk_at "mine go"
      refine add_s (by rw [veq_w]; exact szA (k := 4) (apL (m := 3) (by decide) hnm) (by decide)) ?_
      rw [veq_w, S_app, ← val9, vK]
      walk_at "mine go"
      refine setIdx_i (by decide) (hN _) (m := 9) rfl ?_
      rw [hset]
      walk_at "mine go"
      exact hK₂ _ rfl
    rintro _ rfl
    refine seqF_of (fun σ => σ = ⟨[some (.lst (ns.map .int)), some (.str (S W)), some (.int (k : Int)), some (.str (S T)), some (.lst (cV Ba)), some (.lst (cV Wo)), some (.str (S (112 :: T.map hyp))), some (.str (S (T.flatMap mrk))), some (.lst (ansL T)), some (.ref objs.length), a10, a11, a12, a13], objs ++ [O.list (lv3 T)]⟩) (fun K₂ hK₂ => ?_) ?_
    · walk_at "mine go"
      rw [vK]
      refine setAll_cons ?_
      walk_at "mine go"
      refine setIdx_i (by decide) (hN _) (m := 12) rfl ?_
      rw [hset]
      refine setAll_cons ?_
      walk_at "mine go"
      refine setIdx_i (by decide) (hN _) (m := 13) rfl ?_
      rw [hset]
      refine setAll_cons ?_
      walk_at "mine go"
      refine setIdx_i (by decide) (hN _) (m := 14) rfl ?_
      rw [hset]
      refine setAll_nil ?_
      walk_at "mine go"
      exact hK₂ _ rfl
    rintro _ rfl
    refine seqF_of (fun σ => σ = ⟨[some (.lst (ns.map .int)), some (.str (S W)), some (.int (k : Int)), some (.str (S T)), some (.lst (cV Ba)), some (.lst (cV Wo)), some (.str (S (112 :: T.map hyp))), some (.str (S (T.flatMap mrk))), some (.lst (ansL T)), some (.ref objs.length), a10, a11, a12, a13], objs ++ [O.list (lv4 T)]⟩) (fun K₂ hK₂ => ?_) ?_
    · have h15 := val15 T
      walk_at "mine go"
      rw [v0]
      refine ne_s (fun h9 => ?_) (fun h9 => ?_)
      · walk_at "mine go"
        have hT0 : T = [] := S_inj.mp h9
        rw [if_pos hT0] at h15
        refine add_s (by rw [vvp]; exact szA (m := 4) (k := 0) (by decide) (by decide)) ?_
        rw [vvp, S_app, ← h15, vK]
        walk_at "mine go"
        refine setIdx_i (by decide) (hN _) (m := 15) rfl ?_
        rw [hset]
        walk_at "mine go"
        exact hK₂ _ rfl
      · walk_at "mine go"
        have hT0 : T ≠ [] := fun e => h9 (by rw [e])
        rw [if_neg hT0] at h15
        refine add_s (by rw [veq_q]; exact szA (m := 2) (by decide) hml) ?_
        rw [veq_q, S_app]
        walk_at "mine go"
        refine add_s (by rw [vqu]; exact szA (k := 1) (apL (m := 2) (by decide) hml) (by decide)) ?_
        rw [vqu, S_app]
        walk_at "mine go"
        refine add_s (by rw [vvp]; exact szA (m := 4) (by decide) (apL (apL (m := 2) (by decide) hml) (by decide : _ ≤ 1))) ?_
        rw [vvp, S_app, ← h15, vK]
        walk_at "mine go"
        refine setIdx_i (by decide) (hN _) (m := 15) rfl ?_
        rw [hset]
        walk_at "mine go"
        exact hK₂ _ rfl
    rintro _ rfl
    -- the doors
    walk_at "mine go"
    refine rng1_i (by decide) (by decide) ?_
    refine forL_range (fun d σ => ∃ ext a10 a11 a12 a13, σ = ⟨[some (.lst (ns.map .int)), some (.str (S W)), some (.int (k : Int)), some (.str (S T)), some (.lst (cV Ba)), some (.lst (cV Wo)), some (.str (S (112 :: T.map hyp))), some (.str (S (T.flatMap mrk))), some (.lst (ansL T)), some (.ref objs.length), a10, a11, a12, a13], objs ++ [O.list (lv4 T)] ++ ext⟩) 17 (fun _ _ _ => trivial) (fun d σ K₂ hd hI h2 _ _ hr2 => ?_) (fun σ hI => ?_) ⟨[], _, _, _, _, by rw [List.append_nil]⟩
    · obtain ⟨ext, a10, a11, a12, a13, rfl⟩ := hI
      have hL : ∀ m, lstAt (objs ++ [O.list (lv4 T)] ++ ext ++ m) objs.length = some (lv4 T) := fun m => lst_app (lst_app (hN _))
      have hfin2 : ∀ more a10 a11 a12 a13, K₂ .next ⟨[some (.lst (ns.map .int)), some (.str (S W)), some (.int (k : Int)), some (.str (S T)), some (.lst (cV Ba)), some (.lst (cV Wo)), some (.str (S (112 :: T.map hyp))), some (.str (S (T.flatMap mrk))), some (.lst (ansL T)), some (.ref objs.length), a10, a11, a12, a13], objs ++ [O.list (lv4 T)] ++ ext ++ more⟩ := fun more a10 a11 a12 a13 => h2 _ ⟨ext ++ more, _, _, _, _, by rw [List.append_assoc]⟩
      clear h2
      generalize objs ++ [O.list (lv4 T)] ++ ext = O1 at hL hfin2
      walk_at "mine gn"
      refine seqF_of (fun σ => σ = ⟨[some (.lst (ns.map .int)), some (.str (S W)), some (.int (k : Int)), some (.str (S T)), some (.lst (cV Ba)), some (.lst (cV Wo)), some (.str (S (112 :: T.map hyp))), some (.str (S (T.flatMap mrk))), some (.lst (ansL T)), some (.ref objs.length), some (.int (d : Int)), some (.inst C (O1.length + 1)), a12, a13], tabO O1 L0⟩) (fun K₃ hK₃ => ?_) ?_
      · walk_at "mine go"
        rw [nmC, vz]
        refine new1 (L := L0) tab_L0 ?_
        walk_at "mine go"
        exact hK₃ _ rfl
      rintro _ rfl
      have hTB : TB (tabO O1 L0) (O1.length + 1) O1.length (L0.map prV) := tb_new O1 L0
      refine seqF_of (fun σ => σ = ⟨[some (.lst (ns.map .int)), some (.str (S W)), some (.int (k : Int)), some (.str (S T)), some (.lst (cV Ba)), some (.lst (cV Wo)), some (.str (S (112 :: T.map hyp))), some (.str (S (T.flatMap mrk))), some (.lst (ansL T)), some (.ref objs.length), some (.int (d : Int)), some (.inst C (O1.length + 1)), some (.bool false), a13], tabO O1 L0⟩) (fun K₃ hK₃ => ?_) ?_
      · walk_at "mine go"
        exact hK₃ _ rfl
      rintro _ rfl
      refine seqF_of (fun σ => σ = ⟨[some (.lst (ns.map .int)), some (.str (S W)), some (.int (k : Int)), some (.str (S T)), some (.lst (cV Ba)), some (.lst (cV Wo)), some (.str (S (112 :: T.map hyp))), some (.str (S (T.flatMap mrk))), some (.lst (ansL T)), some (.ref objs.length), some (.int (d : Int)), some (.inst C (O1.length + 1)), some (.bool false), some .none], tabO O1 L0⟩) (fun K₃ hK₃ => ?_) ?_
      · walk_at "mine go"
        exact hK₃ _ rfl
      rintro _ rfl
      refine seqF_of (fun σ => ∃ more an, (bdd d T = false → an = ansV d T) ∧ σ = ⟨[some (.lst (ns.map .int)), some (.str (S W)), some (.int (k : Int)), some (.str (S T)), some (.lst (cV Ba)), some (.lst (cV Wo)), some (.str (S (112 :: T.map hyp))), some (.str (S (T.flatMap mrk))), some (.lst (ansL T)), some (.ref objs.length), some (.int (d : Int)), some (.inst C (O1.length + 1)), some (.bool (bdd d T)), some an], tabO O1 (L0 ++ if bdd d T = true then [] else laidL d T) ++ more⟩) (fun K₃ hK₃ => ?_) ?_
      · cases hb : bdd d T with
        | false =>
          rw [hb] at hK₃
          simp only [Bool.false_eq_true, if_false] at hK₃
          refine .inl ?_
          walk_at "mine go"
          refine ⟨O1.length + 1, O1.length, T, d, rfl, hTB, hTx, hd, hb, fun more => ?_⟩
          rw [set_new]
          walk_at "mine go"
          exact hK₃ _ ⟨more, _, fun _ => rfl, rfl⟩
        | true =>
          rw [hb] at hK₃
          simp only [if_true, List.append_nil] at hK₃
          refine .inr (.inl ?_)
          walk_at "mine go"
          refine ⟨rfl, rfl, O1.length + 1, O1.length, T, d, rfl, hTB, hTx, hd, hb, fun more => ?_⟩
          refine ⟨true, sub_VV, ?_⟩
          walk_at "mine go"
          exact hK₃ _ ⟨more, _, (fun h => by cases h), rfl⟩
      rintro _ ⟨more, an, han, rfl⟩
      have hL2 : lstAt (tabO O1 (L0 ++ if bdd d T = true then [] else laidL d T) ++ more) objs.length = some (lv4 T) := by
        unfold tabO
        rw [List.append_assoc]
        exact hL _
      have hTB2 : TB (tabO O1 (L0 ++ if bdd d T = true then [] else laidL d T) ++ more) (O1.length + 1) O1.length ((L0 ++ if bdd d T = true then [] else laidL d T).map prV) := tb_keep (tb_new O1 _)
      have hfin3 : ∀ a10 a11 a12 a13, K₂ .next ⟨[some (.lst (ns.map .int)), some (.str (S W)), some (.int (k : Int)), some (.str (S T)), some (.lst (cV Ba)), some (.lst (cV Wo)), some (.str (S (112 :: T.map hyp))), some (.str (S (T.flatMap mrk))), some (.lst (ansL T)), some (.ref objs.length), a10, a11, a12, a13], tabO O1 (L0 ++ if bdd d T = true then [] else laidL d T) ++ more⟩ := fun a10 a11 a12 a13 => by
        unfold tabO
        rw [List.append_assoc]
        exact hfin2 _ _ _ _ _
      have hll : (laidL d T).length ≤ 1 := cases17 (P := fun d => (laidL d T).length ≤ 1) (by show 0 ≤ 1; decide) (by show 1 ≤ 1; decide) (by show 0 ≤ 1; decide) (by show 0 ≤ 1; decide) (by show 0 ≤ 1; decide) (by show 0 ≤ 1; decide) (by show 0 ≤ 1; decide) (by show 1 ≤ 1; decide) (by show 1 ≤ 1; decide) (by show 1 ≤ 1; decide) (by show 0 ≤ 1; decide) (by show 0 ≤ 1; decide) (by show 1 ≤ 1; decide) (by show 1 ≤ 1; decide) (by show 1 ≤ 1; decide) (by show 1 ≤ 1; decide) (by show 0 ≤ 1; decide) hd
      generalize tabO O1 (L0 ++ if bdd d T = true then [] else laidL d T) ++ more = O2 at hL2 hTB2 hfin3
      clear hfin2 hTB
      -- refused as it should be
      refine seqF_ret (fun σ => σ = ⟨[some (.lst (ns.map .int)), some (.str (S W)), some (.int (k : Int)), some (.str (S T)), some (.lst (cV Ba)), some (.lst (cV Wo)), some (.str (S (112 :: T.map hyp))), some (.str (S (T.flatMap mrk))), some (.lst (ansL T)), some (.ref objs.length), some (.int (d : Int)), some (.inst C (O1.length + 1)), some (.bool (bdd d T)), some an], O2⟩) (fun K₃ hK₃ _ => ?_) ?_
      · have hbd : bdd d T = if d < 11 then T.any badN else T.any badV := rfl
        walk_at "mine go"
        refine lt_i (fun h11 => ?_) (fun h11 => ?_)
        · walk_at "mine go"
          refine ne_v (eqA_seq (f := fun c : Nat => V.str (S [c])) veq_cV (fun _ _ => rfl) (l := Ba) (m := []) rfl rfl ?_)
          rw [hlN]
          walk_at "mine go"
          rw [if_pos (Int.ofNat_lt.mp (show ((d : Nat) : Int) < ((11 : Nat) : Int) from h11))] at hbd
          refine ne_bb ?_
          rw [hbd, Bool.not_not, bne_self_eq_false]
          walk_at "mine go"
          rw [← hbd]
          exact hK₃ _ rfl
        · walk_at "mine go"
          refine ne_v (eqA_seq (f := fun c : Nat => V.str (S [c])) veq_cV (fun _ _ => rfl) (l := Wo) (m := []) rfl rfl ?_)
          rw [hlV]
          walk_at "mine go"
          rw [if_neg (fun h => h11 (show ((d : Nat) : Int) < ((11 : Nat) : Int) from Int.ofNat_lt.mpr h))] at hbd
          refine ne_bb ?_
          rw [hbd, Bool.not_not, bne_self_eq_false]
          walk_at "mine go"
          rw [← hbd]
          exact hK₃ _ rfl
      rintro _ rfl
      -- the answer
      refine seqF_ret (fun σ => σ = ⟨[some (.lst (ns.map .int)), some (.str (S W)), some (.int (k : Int)), some (.str (S T)), some (.lst (cV Ba)), some (.lst (cV Wo)), some (.str (S (112 :: T.map hyp))), some (.str (S (T.flatMap mrk))), some (.lst (ansL T)), some (.ref objs.length), some (.int (d : Int)), some (.inst C (O1.length + 1)), some (.bool (bdd d T)), some an], O2⟩) (fun K₃ hK₃ _ => ?_) ?_
      · cases hb : bdd d T with
        | true =>
          rw [hb] at hK₃
          walk_at "mine go"
          exact hK₃ _ rfl
        | false =>
          rw [hb] at hK₃
          rw [han hb] at hK₃ ⊢
          walk_at "mine go"
          refine sub_l (l := ansL T) rfl (inN (Nat.lt_trans hd (by decide))) (ans_at T hd) ?_
          refine ans_ne T hd ?_
          walk_at "mine go"
          exact hK₃ _ rfl
      rintro _ rfl
      -- the items
      walk_at "mine go"
      refine gdW_i (noKey hTB2 (by decide +kernel)) ?_
      walk_at "mine go"
      have hll2 : (L0 ++ if bdd d T = true then [] else laidL d T).length ≤ 2 := by
        rw [List.length_append]
        have : L0.length = 1 := rfl
        split
        · simp
        · exact Nat.add_le_add_left hll 1
      refine ⟨_, _, _, rfl, hTB2, Nat.le_trans hll2 (by decide), ?_⟩
      walk_at "mine go"
      cases hb : bdd d T with
      | true =>
        walk_at "mine go"
        refine add_l (l := L0.map prV) (m := []) (by rw [nmC, vz]; rfl) rfl (by decide) ?_
        walk_at "mine go"
        refine ne_v (eqA_pairs (l := L0) (m := L0) rfl rfl ?_)
        rw [decide_eq_true rfl]
        walk_at "mine go"
        exact hfin3 _ _ _ _
      | false =>
        walk_at "mine go"
        refine sub_l (l := lv4 T) hL2 (inN (Nat.lt_trans hd (by decide))) (lv4_at T hd) ?_
        refine add_l (l := L0.map prV) (m := (laidL d T).map prV) (by rw [nmC, vz]; rfl) rfl (leS (Nat.add_le_add (maL (m := 1) (by decide)) (maL hll))) ?_
        walk_at "mine go"
        refine ne_v (eqA_pairs (l := L0 ++ laidL d T) (m := L0 ++ laidL d T) rfl (by rw [List.map_append]; rfl) ?_)
        rw [decide_eq_true rfl]
        walk_at "mine go"
        exact hfin3 _ _ _ _
    · obtain ⟨ext, a10, a11, a12, a13, rfl⟩ := hI
      exact hfin _ _ _ _ _ _ _ _ _ _ _ _ _
  intro _ _
  walk_at "mine go"
  rfl
end Mine

open PySem PySem.W PyProof.Rows
set_option Elab.async false
set_option maxRecDepth 100000
set_option maxHeartbeats 8000000
theorem Mine.glob_chk : ∀ q, Mine.globChk (Mine.PG.K q) Mine.PG.glob = true := fun q => by kernel_rfl
theorem Mine.law_nocell : ∀ x ∈ Mine.fd_law.scope.names, x.2 ≠ .cell := by decide +kernel
theorem PySem.Challenge.cw_dn0263_06_holds : PySem.Challenge.rw_dn0263_06.Holds :=
  hd (by
  w_strict (
    k_fill
    intro w s₀ s₁ mg mb gr lay fa o pm cd doc dV kV ho hd hcd hD hmg hg args vals as hpre hlay hrd hwl hlo
    refine gr.open ?_
    intro T _ _ TE TW
    obtain ⟨_, _, he, B0⟩ := based_of_top T rfl hmg ho hd
    subst he
    wrow_args hpre hlay hrd hwl hlo
    refine enter_call ?_
    w_top on
    w_call any ho hd hcd hD T F
    obtain ⟨fb, hb, hrun⟩ := Mine.law_run
    rename Well _ _ _ _ => hW
    rename Fr _ _ _ _ => F
    refine Mine.law_end hb (hrun _ (by omega)) (kIn_of lay) T.g T.b T.builtins T.nolimit Mine.glob_chk (fun _ => rfl) rfl rfl rfl rfl rfl Mine.law_nocell rfl (by decide) F ?_ (by assumption) hW (fun s' m F' hg' hos => ?_)
    · rfl
    · refine GoodW.toG (goodW_bool F' hg' (raisesW_false ?_) ?_ hos)
      · wrow_none_raised
      · wrow_post))

