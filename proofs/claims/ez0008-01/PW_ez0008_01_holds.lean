import PyProof.Rows.All
import Wide.All
import OpenK.AllK
import Wide.FinOn
import PySem.Challenge.RW_ez0008_01
open PySem PySem.W PySem.Calls PyProof.Rows
set_option Elab.async false
set_option linter.unusedVariables false
open PySem PySem.W PyProof.Rows
set_option Elab.async false
namespace Mine
set_option maxRecDepth 100000 in
set_option maxHeartbeats 8000000 in
open_top hd for PySem.Challenge.rw_ez0008_01
end Mine
set_option pp.deepTerms true
set_option pp.maxSteps 200000
#check @Mine.hd

open PySem PySem.W PySem.Calls PyProof.Rows
set_option Elab.async false
set_option linter.unusedVariables false
namespace Mine

noncomputable abbrev KF : Params → Frag := hd.heap_39

/-! heaps that grow; fs: the frames, whose slots may turn -/
def IsT (b : Addr) (o : Obj) : Prop := o.cls = .none ∧ (b = 70 ∨ b = 122) ∧ ∃ vs, o.data = .fields vs
def Flex (fs : List Addr) (b : Addr) (o : Obj) (h' : Heap) : Prop := (∃ es ep, o.data = .dict es ep) ∧ b ∈ fs ∧ ∃ sl, h'.get? b = some { o with slots := sl }

structure Grow (fs : List Addr) (h h' : Heap) : Prop where
  obj : ∀ b o, h.get? b = some o → ¬ IsT b o → h'.get? b = some o ∨ Flex fs b o h'
  tab : ∀ P, P = 70 ∨ P = 122 → ∀ ps, h.get? P = some (tabObj ps) → TriplesOk ps.toList → ∃ more, h'.get? P = some (tabObj (ps ++ more)) ∧ TriplesOk (ps ++ more).toList

namespace Grow
variable {fs gs : List Addr} {h h' h'' : Heap}
theorem of_keeps (k : ∀ b o, h.get? b = some o → h'.get? b = some o) : Grow fs h h' :=
  ⟨fun b o e _ => .inl (k b o e), fun P _ ps e t => ⟨#[], by simpa using k _ _ e, by simpa using t⟩⟩
theorem refl (fs : List Addr) (h : Heap) : Grow fs h h := of_keeps fun _ _ e => e
theorem trans (g : Grow fs h h') (g' : Grow fs h' h'') : Grow fs h h'' where
  obj := fun b o e n => by
    rcases g.obj b o e n with k | ⟨c, f, sl, k⟩
    · exact g'.obj b o k n
    · have n' : ¬ IsT b { o with slots := sl } := fun ⟨_, _, vs, q⟩ => by obtain ⟨es, ep, c⟩ := c; have : o.data = .fields vs := q; rw [c] at this; cases this
      rcases g'.obj b _ k n' with k' | ⟨_, _, sl', k'⟩
      · exact .inr ⟨c, f, sl, k'⟩
      · exact .inr ⟨c, f, sl', k'⟩
  tab := fun P hP ps e t => by
    obtain ⟨m, k, t'⟩ := g.tab P hP ps e t
    obtain ⟨m', k', t''⟩ := g'.tab P hP _ k t'
    exact ⟨m ++ m', by rw [← Array.append_assoc]; exact k', by rw [← Array.append_assoc]; exact t''⟩
theorem mono (g : Grow fs h h') (hs : ∀ b ∈ fs, (∃ o, h.get? b = some o) → b ∈ gs) : Grow gs h h' :=
  ⟨fun b o e n => (g.obj b o e n).imp id fun ⟨a, q, c⟩ => ⟨a, hs b q ⟨o, e⟩, c⟩, g.tab⟩
theorem data (g : Grow fs h h') {b : Addr} {o : Obj} (e : h.get? b = some o) (hd : ∀ vs, o.data ≠ .fields vs) : ∃ sl, h'.get? b = some { o with slots := sl } := by
  rcases g.obj b o e (fun ⟨_, _, vs, q⟩ => hd vs q) with k | ⟨_, _, sl, k⟩
  · exact ⟨o.slots, k⟩
  · exact ⟨sl, k⟩
theorem exact (g : Grow fs h h') {b : Addr} {o : Obj} (e : h.get? b = some o) (hc : o.cls ≠ .none) (hf : ∀ es ep, o.data ≠ .dict es ep) : h'.get? b = some o := by
  rcases g.obj b o e (fun ⟨q, _⟩ => hc q) with k | ⟨⟨es, ep, q⟩, _⟩
  · exact k
  · exact absurd q (hf es ep)
theorem old (g : Grow fs h h') {b : Addr} {o : Obj} (e : h.get? b = some o) (hb : b ∉ fs) (n : ¬ IsT b o) : h'.get? b = some o := by
  rcases g.obj b o e n with k | ⟨_, q, _⟩
  · exact k
  · exact absurd q hb
theorem ns (g : Grow fs h h') {a : Addr} {m : Str → Option Value} (n : h.Ns a m) : h'.Ns a m := by
  obtain ⟨o, es, ep, e, hd, r⟩ := n
  obtain ⟨sl, k⟩ := g.data e (fun vs q => by rw [hd] at q; cases q)
  exact ⟨_, es, ep, k, hd, r⟩
theorem isList (g : Grow fs h h') {a : Addr} {xs : Array Value} (n : h.IsList a xs) : h'.IsList a xs := by
  obtain ⟨o, e, hc, m, hd⟩ := n
  exact ⟨o, g.exact e (by rw [hc]; nofun) (by rw [hd]; nofun), hc, m, hd⟩
theorem isTup (g : Grow fs h h') {a : Addr} {xs : Array Value} (n : IsTup h a xs) : IsTup h' a xs := by
  obtain ⟨o, e, hc, m, hd⟩ := n
  exact ⟨o, g.exact e (by rw [hc]; nofun) (by rw [hd]; nofun), hc, m, hd⟩
theorem isCell (g : Grow fs h h') {a : Addr} {v : Option Value} (n : h.IsCell a v) : h'.IsCell a v := by
  obtain ⟨o, e, hd⟩ := n
  obtain ⟨sl, k⟩ := g.data e (fun vs q => by rw [hd] at q; cases q)
  exact ⟨_, k, hd⟩
/-- a store into an object that the first heap does not hold -/
theorem but (g : Grow fs h h') {a : Addr} (ha : h.get? a = none) (hx : Heap.ExtBut a h' h'') : Grow fs h h'' where
  obj := fun b o e n => by
    have hb : b ≠ a := fun q => by rw [q, ha] at e; cases e
    rcases g.obj b o e n with k | ⟨c, f, sl, k⟩
    · exact .inl (hx b _ hb k)
    · exact .inr ⟨c, f, sl, hx b _ hb k⟩
  tab := fun P hP ps e t => by
    have hb : P ≠ a := fun q => by rw [q, ha] at e; cases e
    obtain ⟨m, k, t'⟩ := g.tab P hP ps e t
    exact ⟨m, hx P _ hb k, t'⟩
end Grow

def fsOf (A : Around) : List Addr := (A.frames.getD []).filterMap (·.frame)

/-- what a call may do to the state -/
structure Kp (fs : List Addr) (s s' : Shared) : Prop where
  grow : Grow fs s.heap s'.heap
  os : s'.os = s.os
  gens : AllBare s.gens → AllBare s'.gens
namespace Kp
variable {fs : List Addr} {s s' s'' : Shared}
theorem refl (fs : List Addr) (s : Shared) : Kp fs s s := ⟨.refl _ _, rfl, id⟩
theorem trans (k : Kp fs s s') (k' : Kp fs s' s'') : Kp fs s s'' := ⟨k.grow.trans k'.grow, k'.os.trans k.os, fun g => k'.gens (k.gens g)⟩
theorem of_keeps (k : Keeps s s') : Kp fs s s' := by
  obtain ⟨h, t, rfl, k⟩ := k
  exact ⟨.of_keeps k, rfl, id⟩
end Kp

theorem Keeps.rfl' (s : Shared) : Keeps s s := ⟨s.heap, s.toks, rfl, fun _ _ e => e⟩
theorem Keeps.tr {s s' s'' : Shared} (k : Keeps s s') (k' : Keeps s' s'') : Keeps s s'' := by
  obtain ⟨h, t, rfl, k⟩ := k
  obtain ⟨h', t', rfl, k'⟩ := k'
  exact ⟨h', t', rfl, fun b o e => k' b o (k b o e)⟩
theorem Keeps.mk' {s : Shared} {h' : Heap} {tk : Nat} (k : ∀ b o, s.heap.get? b = some o → h'.get? b = some o) : Keeps s { s with heap := h', toks := tk } := ⟨h', tk, rfl, k⟩
theorem Keeps.tk {s : Shared} {tk : Nat} : Keeps s { s with toks := tk } := ⟨s.heap, tk, rfl, fun _ _ e => e⟩
theorem Keeps.hp {s : Shared} {h' : Heap} (k : ∀ b o, s.heap.get? b = some o → h'.get? b = some o) : Keeps s { s with heap := h' } := ⟨h', s.toks, rfl, k⟩
theorem Keeps.kk {s s' : Shared} (k : Keeps s s') : ∀ b o, s.heap.get? b = some o → s'.heap.get? b = some o := by obtain ⟨h, t, rfl, k⟩ := k; exact k

/-- strict (true) or loose (false) -/
def Kb (fs : List Addr) : Bool → Shared → Shared → Prop
  | true, s, s' => Keeps s s'
  | false, s, s' => Kp fs s s'
namespace Kb
variable {fs : List Addr} {s s' s'' : Shared} {b : Bool}
theorem refl (fs : List Addr) (b : Bool) (s : Shared) : Kb fs b s s := by cases b; exact Kp.refl _ _; exact Keeps.rfl' _
theorem trans (k : Kb fs b s s') (k' : Kb fs b s' s'') : Kb fs b s s'' := by cases b; exact Kp.trans k k'; exact Keeps.tr k k'
theorem of_keeps (k : Keeps s s') : Kb fs b s s' := by cases b; exact .of_keeps k; exact k
theorem kp (k : Kb fs b s s') : Kp fs s s' := by cases b; exact k; exact .of_keeps k
end Kb

/-! data -/
inductive PV where
  | none
  | bool (b : Bool)
  | int (i : Int)
  | str (x : Str)
  | bytes (x : Array UInt8)
  | list (l : List PV)
  | tup (l : List PV)

def Prim : Value → PV → Prop
  | v, .none => v = .none
  | v, .bool b => v = .bool b
  | v, .int i => ∃ t, v = .int i t
  | v, .str x => ∃ t, v = .str x t
  | v, .bytes x => ∃ t, v = .bytes x t
  | _, .list _ => False
  | _, .tup _ => False

inductive Prims : List Value → List PV → Prop
  | nil : Prims [] []
  | cons {v vs p ps} : Prim v p → Prims vs ps → Prims (v :: vs) (p :: ps)

def Rep1 (h : Heap) : Value → PV → Prop
  | v, .list l => ∃ a vs, v = .ref a ∧ h.IsList a vs.toArray ∧ Prims vs l
  | v, p => Prim v p

inductive Reps1 (h : Heap) : List Value → List PV → Prop
  | nil : Reps1 h [] []
  | cons {v vs p ps} : Rep1 h v p → Reps1 h vs ps → Reps1 h (v :: vs) (p :: ps)

def Rep (h : Heap) : Value → PV → Prop
  | v, .tup l => ∃ a vs, v = .ref a ∧ IsTup h a vs.toArray ∧ Reps1 h vs l
  | v, p => Rep1 h v p

inductive Reps (h : Heap) : List Value → List PV → Prop
  | nil : Reps h [] []
  | cons {v vs p ps} : Rep h v p → Reps h vs ps → Reps h (v :: vs) (p :: ps)

theorem Prim.rep1 {h : Heap} {v : Value} {p : PV} (x : Prim v p) : Rep1 h v p := by cases p <;> first | exact x | exact False.elim x
theorem Prim.rep {h : Heap} {v : Value} {p : PV} (x : Prim v p) : Rep h v p := by cases p <;> first | exact x | exact False.elim x
theorem Rep1.rep {h : Heap} {v : Value} {p : PV} (x : Rep1 h v p) : Rep h v p := by cases p <;> first | exact x | exact False.elim x

theorem Rep1.grow {fs : List Addr} {h h' : Heap} (g : Grow fs h h') {v : Value} {p : PV} (r : Rep1 h v p) : Rep1 h' v p := by
  cases p with
  | list l => obtain ⟨a, vs, e, hl, ps⟩ := r; exact ⟨a, vs, e, g.isList hl, ps⟩
  | _ => exact r
theorem Reps1.grow {fs : List Addr} {h h' : Heap} (g : Grow fs h h') {vs : List Value} {ps : List PV} (r : Reps1 h vs ps) : Reps1 h' vs ps := by
  induction r with
  | nil => exact .nil
  | cons a _ ih => exact .cons (a.grow g) ih
theorem rep_eq {h : Heap} {v : Value} {p : PV} (hp : ∀ l, p ≠ .tup l) : Rep h v p = Rep1 h v p := by
  cases p <;> first | rfl | exact absurd rfl (hp _)
theorem Rep.grow {fs : List Addr} {h h' : Heap} (g : Grow fs h h') {v : Value} {p : PV} (r : Rep h v p) : Rep h' v p := by
  cases p with
  | tup l => obtain ⟨a, vs, e, hl, ps⟩ := r; exact ⟨a, vs, e, g.isTup hl, ps.grow g⟩
  | _ => rw [rep_eq (by nofun)] at r ⊢; exact r.grow g
theorem Reps.grow {fs : List Addr} {h h' : Heap} (g : Grow fs h h') {vs : List Value} {ps : List PV} (r : Reps h vs ps) : Reps h' vs ps := by
  induction r with
  | nil => exact .nil
  | cons a _ ih => exact .cons (a.grow g) ih

/-- kept, whatever a store into a's object does, where a holds a dict or a cell -/
theorem Rep1.but {h h' : Heap} {a : Addr} (hx : Heap.ExtBut a h h') (hn : ∀ xs, ¬ h.IsList a xs) {v : Value} {p : PV} (r : Rep1 h v p) : Rep1 h' v p := by
  cases p with
  | list l => obtain ⟨b, vs, e, hl, ps⟩ := r; exact ⟨b, vs, e, hl.extBut hx (fun q => hn _ (q ▸ hl)), ps⟩
  | _ => exact r
theorem Reps1.but {h h' : Heap} {a : Addr} (hx : Heap.ExtBut a h h') (hn : ∀ xs, ¬ h.IsList a xs) {vs : List Value} {ps : List PV} (r : Reps1 h vs ps) : Reps1 h' vs ps := by
  induction r with
  | nil => exact .nil
  | cons a _ ih => exact .cons (a.but hx hn) ih
theorem Rep.but {h h' : Heap} {a : Addr} (hx : Heap.ExtBut a h h') (hn : ∀ xs, ¬ h.IsList a xs) (ht : ∀ xs, ¬ IsTup h a xs) {v : Value} {p : PV} (r : Rep h v p) : Rep h' v p := by
  cases p with
  | tup l => obtain ⟨b, vs, e, hl, ps⟩ := r; exact ⟨b, vs, e, hl.extBut hx (fun q => ht _ (q ▸ hl)), ps.but hx hn⟩
  | _ => rw [rep_eq (by nofun)] at r ⊢; exact r.but hx hn

/-! the top -/
structure TopOk (H : Heap) (w : World) (h : Heap) : Prop where
  base : (KF w.params).In H
  there : ∀ b o, H.get? b = some o → ∃ o', h.get? b = some o'
  K : (KF w.params).In h
  names : ∃ mg mb, h.Ns mainGlobals mg ∧ h.Ns builtinsNs mb ∧ (∀ x : Str, x ≠ "__name__" → mb x = bootBuiltins x) ∧ ∃ bm ob, BMod h mainGlobals mg bm ob
  nolimit : h.NoLimit
  t70 : ∃ ps, h.get? 70 = some (tabObj ps) ∧ TriplesOk ps.toList
  t122 : ∃ ps, h.get? 122 = some (tabObj ps) ∧ TriplesOk ps.toList

def kfOk (K : Frag) : Bool := K.all fun p => p.2.cls != .none || (p.1 != 70 && p.1 != 122)

theorem In.grow {K : Frag} {fs : List Addr} {H h h' : Heap} (hk : kfOk K = true) (HX : K.In H) (hfs : ∀ b ∈ fs, H.get? b = none) (g : Grow fs h h') (X : K.In h) : K.In h' := by
  intro a o e
  have q := List.all_eq_true.mp hk (a, o) (kb_mem e)
  simp only [Bool.and_eq_true, Bool.or_eq_true, bne_iff_ne, ne_eq] at q
  refine g.old (X a o e) (fun hm => by have := hfs a hm; rw [HX a o e] at this; cases this) fun ⟨c, p, _⟩ => ?_
  rcases q with r | ⟨r1, r2⟩
  · exact r c
  · rcases p with p | p
    · exact r1 p
    · exact r2 p
theorem kfOk_KF (P : Params) : kfOk (KF P) = true := by kernel_rfl

theorem TopOk.grow {w : World} {fs : List Addr} {H h h' : Heap} (hfs : ∀ b ∈ fs, H.get? b = none) (g : Grow fs h h') (T : TopOk H w h) : TopOk H w h' where
  base := T.base
  there := fun b o e => by
    obtain ⟨o', e'⟩ := T.there b o e
    by_cases n : IsT b o'
    · obtain ⟨_, p, _⟩ := n
      rcases p with rfl | rfl
      · obtain ⟨ps, a, b⟩ := T.t70
        obtain ⟨m, c, d⟩ := g.tab 70 (.inl rfl) ps a b
        exact ⟨_, c⟩
      · obtain ⟨ps, a, b⟩ := T.t122
        obtain ⟨m, c, d⟩ := g.tab 122 (.inr rfl) ps a b
        exact ⟨_, c⟩
    · rcases g.obj b o' e' n with k | ⟨_, _, sl, k⟩
      · exact ⟨_, k⟩
      · exact ⟨_, k⟩
  K := In.grow (kfOk_KF _) T.base hfs g T.K
  names := by
    obtain ⟨mg, mb, a, b, c, bm, ob, M⟩ := T.names
    have hc : ob.cls = .type "module" := M.cls
    have hd : ob.data = .plain := M.data
    exact ⟨mg, mb, g.ns a, g.ns b, c, bm, ob, g.ns M.ns, M.name, M.ne, g.exact M.obj (by rw [hc]; nofun) (by rw [hd]; nofun), M.cls, M.dict, M.data⟩
  nolimit := let ⟨mc, a, b⟩ := T.nolimit; ⟨mc, g.ns a, b⟩
  t70 := let ⟨ps, a, b⟩ := T.t70; let ⟨m, c, d⟩ := g.tab 70 (.inl rfl) ps a b; ⟨_, c, d⟩
  t122 := let ⟨ps, a, b⟩ := T.t122; let ⟨m, c, d⟩ := g.tab 122 (.inr rfl) ps a b; ⟨_, c, d⟩

/-! frames -/
def FramesIn (H : Heap) (l : List Env) (h : Heap) : Prop :=
  ∀ env ∈ l, env.scope.kind ≠ .module ∧ ∃ L o es ep, env.frame = some L ∧ H.get? L = none ∧ h.get? L = some o ∧ o.data = .dict es ep
theorem FramesIn.grow {fs : List Addr} {H h h' : Heap} {l : List Env} (g : Grow fs h h') (F : FramesIn H l h) : FramesIn H l h' := fun env he => by
  obtain ⟨k, L, o, es, ep, a, b, c, e⟩ := F env he
  obtain ⟨sl, q⟩ := g.data c (fun vs q => by rw [e] at q; cases q)
  exact ⟨k, L, _, es, ep, a, b, q, e⟩
theorem FramesIn.mem {H h : Heap} {l : List Env} (F : FramesIn H l h) {b : Addr} (hb : b ∈ l.filterMap (·.frame)) : H.get? b = none ∧ ∃ o es ep, h.get? b = some o ∧ o.data = .dict es ep := by
  obtain ⟨env, he, hf⟩ := List.mem_filterMap.mp hb
  obtain ⟨_, L, o, es, ep, a, c, d, e⟩ := F env he
  have : L = b := Option.some.inj (a.symm.trans hf)
  subst this
  exact ⟨c, o, es, ep, d, e⟩

structure AOk (n : Nat) (A : Around) : Prop where
  handled : A.handled = none
  depth : A.depth + 4 * n ≤ 600
  units : A.units + 20 * n ≤ 4000
theorem AOk.mono {n m : Nat} {A : Around} (h : AOk n A) (hm : m ≤ n) : AOk m A := ⟨h.handled, by have := h.depth; omega, by have := h.units; omega⟩
theorem AOk.deeper {n : Nat} {A : Around} (h : AOk (n + 1) A) (env : Env) : AOk n (A.deeper env) :=
  ⟨h.handled, by have := h.depth; show A.depth + 1 + _ ≤ _; omega, by have := h.units; show A.units + 3 + _ ≤ _; omega⟩
theorem AOk.room {n : Nat} {A : Around} (h : AOk n A) : A.depth < recursionLimit := by have := h.depth; show A.depth < 1000; omega

/-- what a call asks of the state (b: true where only the heap is told) -/
structure Pre (H : Heap) (w : World) (b : Bool) (A : Around) (s : Shared) : Prop where
  top : TopOk H w s.heap
  gens : b = false → AllBare s.gens
  fr : b = false → ∀ l, A.frames = some l → FramesIn H l s.heap
theorem Pre.fs {H : Heap} {w : World} {A : Around} {s : Shared} (x : Pre H w false A s) : ∀ b ∈ fsOf A, H.get? b = none ∧ ∃ o es ep, s.heap.get? b = some o ∧ o.data = .dict es ep := fun b hb => by
  unfold fsOf at hb
  cases e : A.frames with
  | none => rw [e] at hb; simp at hb
  | some l => rw [e] at hb; exact (x.fr rfl l e).mem hb
theorem Pre.kp {H : Heap} {w : World} {A : Around} {s s' : Shared} (k : Kp (fsOf A) s s') (x : Pre H w false A s) : Pre H w false A s' :=
  ⟨x.top.grow (fun b hb => (x.fs b hb).1) k.grow, fun _ => k.gens (x.gens rfl), fun _ l e => (x.fr rfl l e).grow k.grow⟩
theorem Pre.kb {H : Heap} {w : World} {b : Bool} {A : Around} {s s' : Shared} (k : Kb (fsOf A) b s s') (x : Pre H w b A s) : Pre H w b A s' := by
  cases b with
  | false => exact x.kp k
  | true => exact ⟨x.top.grow (fs := []) (by simp) (.of_keeps (Keeps.kk k)), nofun, nofun⟩
theorem Pre.up {H : Heap} {w : World} {b : Bool} {A A' : Around} {s : Shared} (x : Pre H w b A s) : Pre H w true A' s := ⟨x.top, nofun, nofun⟩

/-! names -/
def HasVar (env : Env) (h : Heap) (x : Str) (p : PV) : Prop :=
  (env.kindOf x = some .local ∧ ∃ m v, h.Ns env.locals m ∧ m x = some v ∧ Rep h v p) ∨
  (env.kindOf x = some .cell ∧ ∃ c v, env.cells.lookup x = some c ∧ h.IsCell c (some v) ∧ Rep h v p)
theorem HasVar.grow {fs : List Addr} {h h' : Heap} (g : Grow fs h h') {env : Env} {x : Str} {p : PV} (v : HasVar env h x p) : HasVar env h' x p := by
  rcases v with ⟨a, m, v, b, c, d⟩ | ⟨a, m, v, b, c, d⟩
  · exact .inl ⟨a, m, v, g.ns b, c, d.grow g⟩
  · exact .inr ⟨a, m, v, b, g.isCell c, d.grow g⟩

structure EnvOk (env : Env) : Prop where
  kind : env.scope.kind = .function
  globals : env.globals = mainGlobals
  builtins : env.builtins = builtinsNs

abbrev Rho := List (Str × PV)

structure St (H : Heap) (w : World) (b : Bool) (A : Around) (env : Env) (ρ : Rho) (s : Shared) : Prop extends Pre H w b A s where
  vars : ∀ x p, ρ.lookup x = some p → HasVar env s.heap x p
theorem St.kb {H : Heap} {w : World} {A : Around} {env : Env} {ρ : Rho} {s s' : Shared} {b : Bool} (k : Kb (fsOf A) b s s') (x : St H w b A env ρ s) : St H w b A env ρ s' :=
  ⟨x.toPre.kb k, fun n p e => (x.vars n p e).grow k.kp.grow⟩
theorem St.up {H : Heap} {w : World} {A A' : Around} {env : Env} {ρ : Rho} {s : Shared} {b : Bool} (x : St H w b A env ρ s) : St H w true A' env ρ s := ⟨x.toPre.up, x.vars⟩

/-! expressions -/
section
variable (prog : Program) (w : World) (H : Heap) (b : Bool) (A : Around) (env : Env) (ρ : Rho)
def Ev (e : Expr) (p : PV) : Prop := ∀ s E, St H w b A env ρ s → wpAny (model prog w) A (eval e env) (fun v s' => Kb (fsOf A) b s s' ∧ Rep s'.heap v p) E s
/-- a test -/
def Tr (e : Expr) (c : Bool) : Prop := ∀ s E, St H w b A env ρ s → wpAny (model prog w) A (isTrue e env (eval e env)) (fun x s' => Kb (fsOf A) b s s' ∧ x = c) E s
end

end Mine

open PySem PySem.W PySem.Calls PyProof.Rows
set_option Elab.async false
set_option linter.unusedVariables false
namespace Mine

section
variable {prog : Program} {w : World} {H : Heap} {b : Bool} {A : Around} {env : Env} {ρ : Rho}

abbrev same_ : ∀ (e : Value) (s : Shared) {E : Value → Shared → Prop}, E e s → E e s := fun _ _ _ x => x

theorem Ev.up {e : Expr} {p : PV} (h : Ev prog w H true A env ρ e p) : Ev prog w H b A env ρ e p := fun s E S =>
  wpAny_mono (h s E S.up) (fun _ _ k => ⟨.of_keeps k.1, k.2⟩) fun _ _ x => x
theorem Ev.eq {e : Expr} {p q : PV} (h : Ev prog w H b A env ρ e p) (hp : p = q) : Ev prog w H b A env ρ e q := hp ▸ h
theorem Tr.up {e : Expr} {c : Bool} (h : Tr prog w H true A env ρ e c) : Tr prog w H b A env ρ e c := fun s E S =>
  wpAny_mono (h s E S.up) (fun _ _ k => ⟨.of_keeps k.1, k.2⟩) fun _ _ x => x
theorem Tr.eq {e : Expr} {c d : Bool} (h : Tr prog w H b A env ρ e c) (hc : c = d) : Tr prog w H b A env ρ e d := hc ▸ h

/-! names -/
def EvV (prog : Program) (w : World) (H : Heap) (A : Around) (env : Env) (ρ : Rho) (e : Expr) (v : Value) : Prop :=
  ∀ s E (Q : Value → Shared → Prop), St H w true A env ρ s → Q v s → wpAny (model prog w) A (eval e env) Q E s

theorem Ev.name {x : Str} {pos : Pos} {p : PV} (hE : EnvOk env) (hx : ρ.lookup x = some p) (hd : (x == ("__debug__" : Str)) = false := by decide) : Ev prog w H b A env ρ (.Name x pos) p := fun s E S => by
  rcases S.vars x p hx with ⟨hk, m, v, hn, hm, hr⟩ | ⟨hk, c, v, hc, hcell, hr⟩
  · exact wpAny_Name (wpAny_loadName_local hE.kind hk hn hm ⟨Kb.refl _ _ _, hr⟩) hd
  · exact wpAny_Name (wpAny_loadName_cell hE.kind hk hc hcell ⟨Kb.refl _ _ _, hr⟩) hd
theorem EvV.glob {x : Str} {pos : Pos} {v : Value} (hE : EnvOk env) (hk : env.kindOf x = some .globalImplicit) (he : nsIn (KF w.params) mainGlobals x = some (some v))
    (hd : (x == ("__debug__" : Str)) = false := by decide) : EvV prog w H A env ρ (.Name x pos) v := fun s E Q S hq => by
  obtain ⟨mg, mb, hg, _⟩ := S.top.names
  exact Name_function_global hE.kind hk (loadGlobal_global (hE.globals ▸ hg) (mg_of S.top.K hg he) hq) hd
theorem EvV.boot {x : Str} {pos : Pos} {v : Value} (hE : EnvOk env) (hk : env.kindOf x = some .globalImplicit) (he : nsIn (KF w.params) mainGlobals x = some none) (hv : bootBuiltins x = some v)
    (hn : x ≠ "__name__" := by decide) (hd : (x == ("__debug__" : Str)) = false := by decide) : EvV prog w H A env ρ (.Name x pos) v := fun s E Q S hq => by
  obtain ⟨mg, mb, hg, hb, hbi, _⟩ := S.top.names
  exact Name_function_global hE.kind hk (loadGlobal_builtin (hE.globals ▸ hg) (mg_none_of S.top.K hg he) (hE.builtins ▸ hb) ((hbi x hn).trans hv) hq) hd
theorem EvV.ev {e : Expr} {v : Value} {p : PV} (h : EvV prog w H A env ρ e v) (hp : Prim v p) : Ev prog w H b A env ρ e p := fun s E S =>
  h s E _ S.up ⟨Kb.refl _ _ _, hp.rep⟩

/-! constants -/
theorem Ev.int {i : Int} {k : Nat} {pos : Pos} : Ev prog w H b A env ρ (.Constant (.int i) k pos) (.int i) := fun s E _ =>
  wpAny_Constant_int ⟨.of_keeps Keeps.tk, ⟨_, rfl⟩⟩
theorem Ev.str {x : Str} {k : Nat} {pos : Pos} : Ev prog w H b A env ρ (.Constant (.str x) k pos) (.str x) := fun s E _ =>
  Constant_str ⟨.of_keeps Keeps.tk, ⟨_, rfl⟩⟩
theorem Ev.bool {c : Bool} {k : Nat} {pos : Pos} : Ev prog w H b A env ρ (.Constant (.bool c) k pos) (.bool c) := fun s E _ =>
  Constant_bool ⟨Kb.refl _ _ _, rfl⟩
theorem Ev.none {k : Nat} {pos : Pos} : Ev prog w H b A env ρ (.Constant .none k pos) .none := fun s E _ =>
  Constant_none ⟨Kb.refl _ _ _, rfl⟩

/-! operators -/
def Op2 (prog : Program) (w : World) (H : Heap) (b : Bool) (A : Around) (op : Operator) (p q r : PV) : Prop :=
  ∀ s v u E, Pre H w b A s → Rep s.heap v p → Rep s.heap u q → wpAny (model prog w) A (binaryOp op v u) (fun z s' => Kb (fsOf A) b s s' ∧ Rep s'.heap z r) E s
def Cmp2 (prog : Program) (w : World) (H : Heap) (b : Bool) (A : Around) (op : CmpOp) (p q : PV) (c : Bool) : Prop :=
  ∀ s v u E, Pre H w b A s → Rep s.heap v p → Rep s.heap u q → wpAny (model prog w) A (compareOp op v u) (fun z s' => Kb (fsOf A) b s s' ∧ z = .bool c) E s

theorem Ev.bin {l r : Expr} {op : Operator} {pos : Pos} {p q z : PV} (hl : Ev prog w H b A env ρ l p) (hr : Ev prog w H b A env ρ r q) (ho : Op2 prog w H b A op p q z) :
    Ev prog w H b A env ρ (.BinOp l op r pos) z := fun s E S => by
  refine wpAny_BinOp (wpAny_mono (hl s E S) (fun v s₁ h1 => wpAny_mono (hr s₁ E (S.kb h1.1)) (fun u s₂ h2 => ?_) fun _ _ x => x) fun _ _ x => x)
  exact wpAny_mono (ho s₂ v u E (S.kb (h1.1.trans h2.1)).toPre (h1.2.grow h2.1.kp.grow) h2.2) (fun z s₃ h3 => ⟨(h1.1.trans h2.1).trans h3.1, h3.2⟩) fun _ _ x => x

theorem Ev.cmp {l r : Expr} {op : CmpOp} {pos : Pos} {p q : PV} {c : Bool} (hl : Ev prog w H b A env ρ l p) (hr : Ev prog w H b A env ρ r q) (ho : Cmp2 prog w H b A op p q c)
    (hm : behindInMarks op r = false := by with_unfolding_all rfl) : Ev prog w H b A env ρ (.Compare l [op] [r] pos) (.bool c) := fun s E S => by
  refine wpAny_Compare1 (wpAny_mono (hl s E S) (fun v s₁ h1 => wpAny_mono (hr s₁ E (S.kb h1.1)) (fun u s₂ h2 => ?_) fun _ _ x => x) fun _ _ x => x) hm
  exact wpAny_mono (ho s₂ v u E (S.kb (h1.1.trans h2.1)).toPre (h1.2.grow h2.1.kp.grow) h2.2) (fun z s₃ h3 => ⟨(h1.1.trans h2.1).trans h3.1, h3.2⟩) fun _ _ x => x
theorem Tr.cmp {l r : Expr} {op : CmpOp} {pos : Pos} {p q : PV} {c : Bool} (hl : Ev prog w H b A env ρ l p) (hr : Ev prog w H b A env ρ r q) (ho : Cmp2 prog w H b A op p q c)
    (hm : behindInMarks op r = false := by with_unfolding_all rfl) : Tr prog w H b A env ρ (.Compare l [op] [r] pos) c := fun s E S => by
  refine wpAny_isTrue_Compare1 (wpAny_mono (hl s E S) (fun v s₁ h1 => wpAny_mono (hr s₁ E (S.kb h1.1)) (fun u s₂ h2 => ?_) fun _ _ x => x) fun _ _ x => x) hm
  refine wpAny_mono (ho s₂ v u E (S.kb (h1.1.trans h2.1)).toPre (h1.2.grow h2.1.kp.grow) h2.2) (fun z s₃ h3 => ?_) fun _ _ x => x
  obtain ⟨k, rfl⟩ := h3
  exact wpAny_truthy_bool ⟨(h1.1.trans h2.1).trans k, rfl⟩
theorem Ev.cmp2 {l r₁ r₂ : Expr} {o₁ o₂ : CmpOp} {pos : Pos} {p q₁ q₂ : PV} {c₁ c₂ : Bool} (hl : Ev prog w H b A env ρ l p) (h₁ : Ev prog w H b A env ρ r₁ q₁) (h₂ : Ev prog w H b A env ρ r₂ q₂)
    (k₁ : Cmp2 prog w H b A o₁ p q₁ c₁) (k₂ : Cmp2 prog w H b A o₂ q₁ q₂ c₂) (hm : lastMarks [o₁, o₂] [r₁, r₂] = false := by with_unfolding_all rfl) :
    Ev prog w H b A env ρ (.Compare l [o₁, o₂] [r₁, r₂] pos) (.bool (c₁ && c₂)) := fun s E S => by
  refine Compare_chain (wpAny_mono (hl s E S) (fun v s₁ h1 => chain_link (wpAny_mono (h₁ s₁ E (S.kb h1.1)) (fun u s₂ h2 => ?_) fun _ _ x => x)) fun _ _ x => x) hm
  refine wpAny_mono (k₁ s₂ v u E (S.kb (h1.1.trans h2.1)).toPre (h1.2.grow h2.1.kp.grow) h2.2) (fun z s₃ h3 => ?_) fun _ _ x => x
  obtain ⟨k3, rfl⟩ := h3
  have kk := (h1.1.trans h2.1).trans k3
  refine wpAny_truthy_bool ?_
  cases c₁ with
  | false => exact ⟨kk, rfl⟩
  | true =>
    refine chain_last (wpAny_mono (h₂ s₃ E (S.kb kk)) (fun u' s₄ h4 => ?_) fun _ _ x => x)
    exact wpAny_mono (k₂ s₄ u u' E (S.kb (kk.trans h4.1)).toPre (h2.2.grow (k3.trans h4.1).kp.grow) h4.2) (fun z s₅ h5 => ⟨(kk.trans h4.1).trans h5.1, by rw [h5.2]; rfl⟩) fun _ _ x => x
theorem Tr.cmp2 {l r₁ r₂ : Expr} {o₁ o₂ : CmpOp} {pos : Pos} {p q₁ q₂ : PV} {c₁ c₂ : Bool} (hl : Ev prog w H b A env ρ l p) (h₁ : Ev prog w H b A env ρ r₁ q₁) (h₂ : Ev prog w H b A env ρ r₂ q₂)
    (k₁ : Cmp2 prog w H b A o₁ p q₁ c₁) (k₂ : Cmp2 prog w H b A o₂ q₁ q₂ c₂) (hm : lastMarks [o₁, o₂] [r₁, r₂] = false := by with_unfolding_all rfl) :
    Tr prog w H b A env ρ (.Compare l [o₁, o₂] [r₁, r₂] pos) (c₁ && c₂) := fun s E S => by
  refine isTrue_chain (wpAny_mono (hl s E S) (fun v s₁ h1 => test_link (wpAny_mono (h₁ s₁ E (S.kb h1.1)) (fun u s₂ h2 => ?_) fun _ _ x => x)) fun _ _ x => x) hm
  refine wpAny_mono (k₁ s₂ v u E (S.kb (h1.1.trans h2.1)).toPre (h1.2.grow h2.1.kp.grow) h2.2) (fun z s₃ h3 => ?_) fun _ _ x => x
  obtain ⟨k3, rfl⟩ := h3
  have kk := (h1.1.trans h2.1).trans k3
  refine wpAny_truthy_bool ?_
  cases c₁ with
  | false => exact ⟨kk, rfl⟩
  | true =>
    refine test_last (wpAny_mono (h₂ s₃ E (S.kb kk)) (fun u' s₄ h4 => ?_) fun _ _ x => x)
    refine wpAny_mono (k₂ s₄ u u' E (S.kb (kk.trans h4.1)).toPre (h2.2.grow (k3.trans h4.1).kp.grow) h4.2) (fun z s₅ h5 => ?_) fun _ _ x => x
    obtain ⟨k5, rfl⟩ := h5
    exact wpAny_truthy_bool ⟨(kk.trans h4.1).trans k5, rfl⟩

theorem Tr.not {x : Expr} {pos : Pos} {c : Bool} (h : Tr prog w H b A env ρ x c) : Tr prog w H b A env ρ (.UnaryOp .Not x pos) (!c) := fun s E S =>
  isTrue_not (wpAny_mono (h s E S) (fun _ _ k => ⟨k.1, by rw [k.2]⟩) fun _ _ x => x)
theorem Ev.neg {x : Expr} {pos : Pos} {i : Int} (h : Ev prog w H b A env ρ x (.int i)) : Ev prog w H b A env ρ (.UnaryOp .USub x pos) (.int (-i)) := fun s E S => by
  refine UnaryOp_ (wpAny_mono (h s E S) (fun v s₁ h1 => ?_) fun _ _ x => x)
  obtain ⟨k, t, rfl⟩ := h1
  exact neg_int ⟨k.trans (.of_keeps Keeps.tk), _, rfl⟩
theorem Tr.or_nil {pos : Pos} : Tr prog w H b A env ρ (.BoolOp .Or [] pos) false := fun s E S => isTrue_or_nil ⟨Kb.refl _ _ _, rfl⟩
theorem Tr.and_nil {pos : Pos} : Tr prog w H b A env ρ (.BoolOp .And [] pos) true := fun s E S => isTrue_and_nil ⟨Kb.refl _ _ _, rfl⟩
theorem Tr.or {x : Expr} {rest : List Expr} {pos : Pos} {c d : Bool} (h : Tr prog w H b A env ρ x c) (h' : c = false → Tr prog w H b A env ρ (.BoolOp .Or rest pos) d) :
    Tr prog w H b A env ρ (.BoolOp .Or (x :: rest) pos) (c || d) := fun s E S => by
  refine isTrue_or (wpAny_mono (h s E S) (fun v s₁ h1 => ?_) fun _ _ x => x)
  obtain ⟨k, rfl⟩ := h1
  cases v with
  | true => exact ⟨k, rfl⟩
  | false => exact wpAny_mono (h' rfl s₁ E (S.kb k)) (fun _ _ k' => ⟨k.trans k'.1, k'.2⟩) fun _ _ x => x
theorem Tr.and {x : Expr} {rest : List Expr} {pos : Pos} {c d : Bool} (h : Tr prog w H b A env ρ x c) (h' : c = true → Tr prog w H b A env ρ (.BoolOp .And rest pos) d) :
    Tr prog w H b A env ρ (.BoolOp .And (x :: rest) pos) (c && d) := fun s E S => by
  refine isTrue_and (wpAny_mono (h s E S) (fun v s₁ h1 => ?_) fun _ _ x => x)
  obtain ⟨k, rfl⟩ := h1
  cases v with
  | false => exact ⟨k, rfl⟩
  | true => exact wpAny_mono (h' rfl s₁ E (S.kb k)) (fun _ _ k' => ⟨k.trans k'.1, k'.2⟩) fun _ _ x => x
/-- `x and y and ..` as a value, all of them true -/
theorem Ev.and_one {x : Expr} {pos : Pos} {p : PV} (h : Ev prog w H b A env ρ x p) : Ev prog w H b A env ρ (.BoolOp .And [x] pos) p := fun s E S => BoolOp_one (h s E S)
theorem Ev.and {x y : Expr} {rest : List Expr} {pos : Pos} {p : PV} (h : Ev prog w H b A env ρ x (.bool true)) (h' : Ev prog w H b A env ρ (.BoolOp .And (y :: rest) pos) p) :
    Ev prog w H b A env ρ (.BoolOp .And (x :: y :: rest) pos) p := fun s E S => by
  refine BoolOp_and (wpAny_mono (h s E S) (fun v s₁ h1 => ?_) fun _ _ x => x)
  obtain ⟨k, e⟩ := h1
  have e : v = .bool true := e
  subst e
  refine wpAny_truthy_bool ?_
  exact wpAny_mono (h' s₁ E (S.kb k)) (fun _ _ k' => ⟨k.trans k'.1, k'.2⟩) fun _ _ x => x
/-- `x and y` as a bool -/
theorem Ev.and2 {x y : Expr} {pos : Pos} {c d : Bool} (h : Ev prog w H b A env ρ x (.bool c)) (h' : Ev prog w H b A env ρ y (.bool d)) :
    Ev prog w H b A env ρ (.BoolOp .And [x, y] pos) (.bool (c && d)) := fun s E S => by
  refine BoolOp_and (wpAny_mono (h s E S) (fun v s₁ h1 => ?_) fun _ _ x => x)
  obtain ⟨k, e⟩ := h1
  have e : v = .bool c := e
  subst e
  refine wpAny_truthy_bool ?_
  cases c with
  | false => exact ⟨k, rfl⟩
  | true => exact wpAny_mono (BoolOp_one (h' s₁ E (S.kb k))) (fun _ _ k' => ⟨k.trans k'.1, k'.2⟩) fun _ _ x => x
theorem Ev.not {x : Expr} {pos : Pos} {c : Bool} (h : Ev prog w H b A env ρ x (.bool c)) : Ev prog w H b A env ρ (.UnaryOp .Not x pos) (.bool (!c)) := fun s E S => by
  refine UnaryOp_ (wpAny_mono (h s E S) (fun v s₁ h1 => ?_) fun _ _ x => x)
  obtain ⟨k, e⟩ := h1
  have e : v = .bool c := e
  subst e
  exact not_of (wpAny_truthy_bool ⟨k, rfl⟩)
theorem Ev.ite {t x y : Expr} {pos : Pos} {c : Bool} {p : PV} (h : Tr prog w H b A env ρ t c) (h1 : c = true → Ev prog w H b A env ρ x p) (h2 : c = false → Ev prog w H b A env ρ y p) :
    Ev prog w H b A env ρ (.IfExp t x y pos) p := fun s E S => by
  refine IfExp_ (wpAny_mono (h s E S) (fun v s₁ k => ?_) fun _ _ x => x)
  obtain ⟨k, rfl⟩ := k
  cases v with
  | true => exact wpAny_mono (h1 rfl s₁ E (S.kb k)) (fun _ _ k' => ⟨k.trans k'.1, k'.2⟩) fun _ _ x => x
  | false => exact wpAny_mono (h2 rfl s₁ E (S.kb k)) (fun _ _ k' => ⟨k.trans k'.1, k'.2⟩) fun _ _ x => x

/-! ints -/
theorem op_add {a c : Int} : Op2 prog w H b A .Add (.int a) (.int c) (.int (a + c)) := by
  rintro s v u E P ⟨t, rfl⟩ ⟨t', rfl⟩; exact add_int ⟨.of_keeps Keeps.tk, _, rfl⟩
theorem op_sub {a c : Int} : Op2 prog w H b A .Sub (.int a) (.int c) (.int (a - c)) := by
  rintro s v u E P ⟨t, rfl⟩ ⟨t', rfl⟩; exact sub_int ⟨.of_keeps Keeps.tk, _, rfl⟩
theorem op_mul {a c : Int} (h : IntMulOk a c) : Op2 prog w H b A .Mult (.int a) (.int c) (.int (a * c)) := by
  rintro s v u E P ⟨t, rfl⟩ ⟨t', rfl⟩; exact mul_int ⟨.of_keeps Keeps.tk, _, rfl⟩ h
theorem op_fdiv {a c : Int} (h : c ≠ 0) (h' : Builtin.divisionGoesByPylong a c = false) : Op2 prog w H b A .FloorDiv (.int a) (.int c) (.int (a.fdiv c)) := by
  rintro s v u E P ⟨t, rfl⟩ ⟨t', rfl⟩; exact floordiv_int h ⟨.of_keeps Keeps.tk, _, rfl⟩ (.inl h')
theorem op_fmod {a c : Int} (h : c ≠ 0) : Op2 prog w H b A .Mod (.int a) (.int c) (.int (a.fmod c)) := by
  rintro s v u E P ⟨t, rfl⟩ ⟨t', rfl⟩; exact mod_int h ⟨.of_keeps Keeps.tk, _, rfl⟩
theorem op_and {a c : Int} : Op2 prog w H b A .BitAnd (.int a) (.int c) (.int (Builtin.bitAnd a c)) := by
  rintro s v u E P ⟨t, rfl⟩ ⟨t', rfl⟩; exact and_int ⟨.of_keeps Keeps.tk, _, rfl⟩
theorem op_xor {a c : Int} : Op2 prog w H b A .BitXor (.int a) (.int c) (.int (Builtin.bitXor a c)) := by
  rintro s v u E P ⟨t, rfl⟩ ⟨t', rfl⟩; exact xor_int ⟨.of_keeps Keeps.tk, _, rfl⟩
theorem op_shl {a c : Int} (h0 : 0 ≤ c) (h1 : c ≤ 1000000) (h2 : a.natAbs < 2 ^ 64) : Op2 prog w H b A .LShift (.int a) (.int c) (.int (a * 2 ^ c.toNat)) := by
  rintro s v u E P ⟨t, rfl⟩ ⟨t', rfl⟩; exact lshift_int_small h0 h1 h2 ⟨.of_keeps Keeps.tk, _, rfl⟩
theorem op_shr {a c : Int} (h0 : 0 ≤ c) : Op2 prog w H b A .RShift (.int a) (.int c) (.int (a.fdiv (2 ^ c.toNat))) := by
  rintro s v u E P ⟨t, rfl⟩ ⟨t', rfl⟩; exact rshift_int h0 ⟨.of_keeps Keeps.tk, _, rfl⟩
theorem op_addS {x y : Str} (h : x.length + y.length ≤ sizeLine) : Op2 prog w H b A .Add (.str x) (.str y) (.str (x ++ y)) := by
  rintro s v u E P ⟨t, rfl⟩ ⟨t', rfl⟩; exact add_str (fun _ _ => ⟨.of_keeps Keeps.tk, _, rfl⟩) h
theorem c_lt {a c : Int} : Cmp2 prog w H b A .Lt (.int a) (.int c) (decide (a < c)) := by
  rintro s v u E P ⟨t, rfl⟩ ⟨t', rfl⟩; exact lt_int ⟨Kb.refl _ _ _, rfl⟩
theorem c_le {a c : Int} : Cmp2 prog w H b A .LtE (.int a) (.int c) (decide (a ≤ c)) := by
  rintro s v u E P ⟨t, rfl⟩ ⟨t', rfl⟩; exact le_int ⟨Kb.refl _ _ _, rfl⟩
theorem c_gt {a c : Int} : Cmp2 prog w H b A .Gt (.int a) (.int c) (decide (c < a)) := by
  rintro s v u E P ⟨t, rfl⟩ ⟨t', rfl⟩; exact gt_int ⟨Kb.refl _ _ _, rfl⟩
theorem c_eq {a c : Int} : Cmp2 prog w H b A .Eq (.int a) (.int c) (a == c) := by
  rintro s v u E P ⟨t, rfl⟩ ⟨t', rfl⟩; exact eq_int ⟨Kb.refl _ _ _, rfl⟩
theorem c_ne {a c : Int} : Cmp2 prog w H b A .NotEq (.int a) (.int c) (a != c) := by
  rintro s v u E P ⟨t, rfl⟩ ⟨t', rfl⟩; exact ne_int ⟨Kb.refl _ _ _, rfl⟩
theorem c_eqS {x y : Str} : Cmp2 prog w H b A .Eq (.str x) (.str y) (x == y) := by
  rintro s v u E P ⟨t, rfl⟩ ⟨t', rfl⟩; exact eq_str ⟨Kb.refl _ _ _, rfl⟩
theorem c_neS {x y : Str} : Cmp2 prog w H b A .NotEq (.str x) (.str y) (x != y) := by
  rintro s v u E P ⟨t, rfl⟩ ⟨t', rfl⟩; exact ne_str ⟨Kb.refl _ _ _, rfl⟩
end

/-! what a call gives -/
inductive Res where
  | ok (p : PV)
  | exc (C : Addr)

/-- an exception of class C on its way through the frames l -/
structure Fly (l : List Env) (s : Shared) (C e : Addr) (s' : Shared) : Prop where
  os : s'.os = s.os
  gens : AllBare s.gens → AllBare s'.gens
  on : ∃ B a0, Heap.FlyingW B l e (.ref C) a0 s'.heap ∧
    (∀ b o, b ∉ l.filterMap (·.frame) → s.heap.get? b = some o → ¬ IsT b o → B.get? b = some o) ∧
    (∀ P, P = 70 ∨ P = 122 → ∀ ps, s.heap.get? P = some (tabObj ps) → TriplesOk ps.toList → ∃ more, B.get? P = some (tabObj (ps ++ more)) ∧ TriplesOk (ps ++ more).toList)
  slots : ∀ b o, b ∈ l.filterMap (·.frame) → s.heap.get? b = some o → (∀ vs, o.data ≠ .fields vs) → ∃ sl, s'.heap.get? b = some { o with slots := sl }

def Post (A : Around) (s : Shared) : Res → Result → Shared → Prop
  | .ok p, r, s' => ∃ v, r = .ok (.ret v) ∧ Kp (fsOf A) s s' ∧ Rep s'.heap v p
  | .exc C, r, s' => ∃ e l, r = .error (.ref e) ∧ A.frames = some l ∧ Fly l s C e s'

def FnOk (prog : Program) (w : World) (H : Heap) (n : Nat) (f : Addr) (args : List PV) (out : Res) : Prop :=
  ∀ A s vs, AOk n A → (∃ l, A.frames = some l) → Pre H w false A s → Reps s.heap vs args → codeAny (model prog w) A (.call (.ref f) ⟨vs, []⟩) (Post A s out) s

/-! arguments, calls -/
section
variable {prog : Program} {w : World} {H : Heap} {b : Bool} {A : Around} {env : Env} {ρ : Rho}
def EvA (prog : Program) (w : World) (H : Heap) (b : Bool) (A : Around) (env : Env) (ρ : Rho) (args : List Expr) (ps : List PV) : Prop :=
  ∀ s E pos, St H w b A env ρ s → wpAny (model prog w) A (spliced (backTo pos (starEach args env))) (fun vs s' => Kb (fsOf A) b s s' ∧ Reps s'.heap vs ps) E s
theorem EvA.nil : EvA prog w H b A env ρ [] [] := fun s E pos S => args_nil ⟨Kb.refl _ _ _, .nil⟩
theorem EvA.cons {e : Expr} {rest : List Expr} {p : PV} {ps : List PV} (h : Ev prog w H b A env ρ e p) (h' : EvA prog w H b A env ρ rest ps)
    (he : starEach (e :: rest) env = (false, eval e env) :: starEach rest env := by rfl) : EvA prog w H b A env ρ (e :: rest) (p :: ps) := fun s E pos S => by
  refine args_cons (wpAny_mono (h s E S) (fun v s₁ h1 => wpAny_mono (h' s₁ E pos (S.kb h1.1)) (fun vs s₂ h2 => ?_) fun _ _ x => x) fun _ _ x => x) he
  exact ⟨h1.1.trans h2.1, .cons (h1.2.grow h2.1.kp.grow) h2.2⟩

/-- a call of a value with these data -/
def CallOk (prog : Program) (w : World) (H : Heap) (b : Bool) (A : Around) (f : Value) (ps : List PV) (r : PV) : Prop :=
  ∀ s vs E, Pre H w b A s → Reps s.heap vs ps → wpAny (model prog w) A (call f vs) (fun z s' => Kb (fsOf A) b s s' ∧ Rep s'.heap z r) E s

theorem Ev.callB {fx : Str} {fp : Pos} {e : Expr} {rest : List Expr} {pos : Pos} {id : String} {ps : List PV} {r : PV} (hf : EvV prog w H A env ρ (.Name fx fp) (.builtin id)) (ha : EvA prog w H b A env ρ (e :: rest) ps)
    (hc : CallOk prog w H b A (.builtin id) ps r) (he : starEach (e :: rest) env = (false, eval e env) :: starEach rest env := by rfl)
    (hp : (backTo pos (starEach rest env)).any (·.1) = false := by rfl) : Ev prog w H b A env ρ (.Call (.Name fx fp) (e :: rest) [] pos) r := fun s E S => by
  refine Call_ (hf s E _ S.up ?_)
  have ha' := ha s E pos S
  rw [he] at ha' ⊢
  refine callWith_builtin (by show (false || (backTo pos (starEach rest env)).any (·.1)) = false; rw [hp]; rfl) (evalArgs_plain (wpAny_mono ha' (fun vs s₁ h1 => ?_) fun _ _ x => x))
  exact wpAny_mono (hc s₁ vs E (S.kb h1.1).toPre h1.2) (fun z s₂ h2 => ⟨h1.1.trans h2.1, h2.2⟩) fun _ _ x => x
theorem Ev.callT {fx : Str} {fp : Pos} {e : Expr} {rest : List Expr} {pos : Pos} {id : String} {ps : List PV} {r : PV} (hf : EvV prog w H A env ρ (.Name fx fp) (.type id)) (ha : EvA prog w H b A env ρ (e :: rest) ps)
    (hc : CallOk prog w H b A (.type id) ps r) (he : starEach (e :: rest) env = (false, eval e env) :: starEach rest env := by rfl)
    (hp : (backTo pos (starEach rest env)).any (·.1) = false := by rfl) : Ev prog w H b A env ρ (.Call (.Name fx fp) (e :: rest) [] pos) r := fun s E S => by
  refine Call_ (hf s E _ S.up ?_)
  have ha' := ha s E pos S
  rw [he] at ha' ⊢
  refine PyProof.Rows.callWith_type (by show (false || (backTo pos (starEach rest env)).any (·.1)) = false; rw [hp]; rfl) (evalArgs_plain (wpAny_mono ha' (fun vs s₁ h1 => ?_) fun _ _ x => x))
  exact wpAny_mono (hc s₁ vs E (S.kb h1.1).toPre h1.2) (fun z s₂ h2 => ⟨h1.1.trans h2.1, h2.2⟩) fun _ _ x => x

theorem wp_callF {fx : Str} {fp : Pos} {e : Expr} {rest : List Expr} {pos : Pos} {f : Addr} {n : Nat} {ps : List PV} {out : Res} {s : Shared} {E : Value → Shared → Prop} {Q : Value → Shared → Prop}
    (S : St H w false A env ρ s) (hA : AOk n A) (hl : ∃ l, A.frames = some l) (hf : EvV prog w H A env ρ (.Name fx fp) (.ref f)) (ha : EvA prog w H false A env ρ (e :: rest) ps) (hc : FnOk prog w H n f ps out) (hk : keepIn (KF w.params) (.ref f) = true)
    (hQ : ∀ s₁ r s', Kp (fsOf A) s s₁ → Post A s₁ out r s' → match r with | .ok (.ret v) => Q v s' | .ok _ => False | .error e => E e s')
    (he : starEach (e :: rest) env = (false, eval e env) :: starEach rest env := by rfl)
    (hp : (backTo pos (starEach rest env)).any (·.1) = false := by rfl) : wpAny (model prog w) A (eval (.Call (.Name fx fp) (e :: rest) [] pos) env) Q E s := by
  refine Call_ (hf s E _ S.up ?_)
  have ha' := ha s E pos S
  rw [he] at ha' ⊢
  refine callWith_of (P := fun h => (KF w.params).In h) (by show ((false || (backTo pos (starEach rest env)).any (·.1)) || false) = false; rw [hp]; rfl) (keeps_K hk) (evalArgs_plain (wpAny_mono ha' (fun vs s₁ h1 => ?_) fun _ _ x => x))
  have P₁ := (S.kb h1.1).toPre
  exact ⟨P₁.top.K, wpAny_call (codeAny_mono (hc A s₁ vs hA hl P₁ h1.2) fun r s' h => hQ s₁ r s' h1.1 h)⟩
theorem Ev.callF {fx : Str} {fp : Pos} {e : Expr} {rest : List Expr} {pos : Pos} {f : Addr} {n : Nat} {ps : List PV} {p : PV}
    (hA : AOk n A) (hl : ∃ l, A.frames = some l) (hf : EvV prog w H A env ρ (.Name fx fp) (.ref f)) (ha : EvA prog w H false A env ρ (e :: rest) ps) (hc : FnOk prog w H n f ps (.ok p)) (hk : keepIn (KF w.params) (.ref f) = true)
    (he : starEach (e :: rest) env = (false, eval e env) :: starEach rest env := by rfl)
    (hp : (backTo pos (starEach rest env)).any (·.1) = false := by rfl) : Ev prog w H false A env ρ (.Call (.Name fx fp) (e :: rest) [] pos) p := fun s E S => by
  refine wp_callF S hA hl hf ha hc hk (fun s₁ r s' k h => ?_) he hp
  obtain ⟨v, rfl, k', r⟩ := h
  exact ⟨Kb.trans k k', r⟩

/-! data read -/
theorem Rep.list {h : Heap} {v : Value} {l : List PV} (r : Rep h v (.list l)) : ∃ a vs, v = .ref a ∧ h.IsList a vs.toArray ∧ Prims vs l := r
theorem Prims.length {vs : List Value} {ps : List PV} (h : Prims vs ps) : vs.length = ps.length := by
  induction h with
  | nil => rfl
  | cons _ _ ih => simp [ih]
theorem Prims.get : ∀ {vs : List Value} {ps : List PV}, Prims vs ps → ∀ (i : Nat) (v : Value), vs[i]? = some v → ∃ p, ps[i]? = some p ∧ Prim v p
  | _, _, .nil, _, _, e => nomatch e
  | _, _, .cons a _, 0, _, e => ⟨_, rfl, Option.some.inj e ▸ a⟩
  | _, _, .cons _ r, i + 1, v, e => r.get i v e
theorem Prims.get' : ∀ {vs : List Value} {ps : List PV}, Prims vs ps → ∀ (i : Nat) (p : PV), ps[i]? = some p → ∃ v, vs[i]? = some v ∧ Prim v p
  | _, _, .nil, _, _, e => nomatch e
  | _, _, .cons a _, 0, _, e => ⟨_, rfl, Option.some.inj e ▸ a⟩
  | _, _, .cons _ r, i + 1, p, e => r.get' i p e
theorem Prims.append {vs us : List Value} {ps qs : List PV} (h : Prims vs ps) (h' : Prims us qs) : Prims (vs ++ us) (ps ++ qs) := by
  induction h with
  | nil => exact h'
  | cons a _ ih => exact .cons a ih
theorem Prims.take {vs : List Value} {ps : List PV} (h : Prims vs ps) : ∀ k, Prims (vs.take k) (ps.take k) := by
  induction h with
  | nil => intro k; simpa using Prims.nil
  | cons a _ ih =>
    intro k
    cases k with
    | zero => exact .nil
    | succ k => exact .cons a (ih k)
theorem Prims.drop {vs : List Value} {ps : List PV} (h : Prims vs ps) : ∀ k, Prims (vs.drop k) (ps.drop k) := by
  induction h with
  | nil => intro k; simpa using Prims.nil
  | cons a h' ih =>
    intro k
    cases k with
    | zero => exact .cons a h'
    | succ k => exact ih k
theorem Prims.ints {vs : List Value} {ns : List Int} (h : Prims vs (ns.map .int)) : IntsAre vs ns := by
  induction ns generalizing vs with
  | nil => cases h; exact .nil
  | cons n r ih =>
    cases h with
    | cons a h =>
      obtain ⟨t, rfl⟩ := a
      exact .cons n t (ih h)
theorem Prims.ofInts {vs : List Value} {ns : List Int} (h : IntsAre vs ns) : Prims vs (ns.map .int) := by
  induction h with
  | nil => exact .nil
  | cons n t _ ih => exact .cons ⟨t, rfl⟩ ih
theorem Prims.strs {vs : List Value} {ns : List Str} (h : Prims vs (ns.map .str)) : StrsAre vs ns := by
  induction ns generalizing vs with
  | nil => cases h; exact .nil
  | cons n r ih =>
    cases h with
    | cons a h =>
      obtain ⟨t, rfl⟩ := a
      exact .cons n t (ih h)
def pvOf : Value → PV
  | .none => .none
  | .bool b => .bool b
  | .int i _ => .int i
  | .str x _ => .str x
  | .bytes x _ => .bytes x
  | _ => .list []
theorem Prim.pv {v : Value} {p : PV} (h : Prim v p) : p = pvOf v := by
  cases p with
  | none => have h : v = .none := h; subst h; rfl
  | bool b => have h : v = .bool b := h; subst h; rfl
  | int i => obtain ⟨t, rfl⟩ := h; rfl
  | str i => obtain ⟨t, rfl⟩ := h; rfl
  | bytes i => obtain ⟨t, rfl⟩ := h; rfl
  | list l => exact h.elim
  | tup l => exact h.elim
theorem Prim.inj {v : Value} {p q : PV} (h : Prim v p) (h' : Prim v q) : p = q := h.pv.trans h'.pv.symm
end
end Mine

open PySem PySem.W PySem.Calls PyProof.Rows
set_option Elab.async false
set_option linter.unusedVariables false
namespace Mine

/-! a frame of the text's own -/
structure FrameOk (H : Heap) (w : World) (A : Around) (env : Env) (s₀ : Shared) : Prop where
  ok : EnvOk env
  frame : env.frame = some env.locals
  new : s₀.heap.get? env.locals = none
  newH : H.get? env.locals = none
  top : TopOk H w s₀.heap
  gens : AllBare s₀.gens
  fr : ∃ l, A.frames = some (env :: l) ∧ FramesIn H l s₀.heap
  cells : ∀ n c, env.cells.lookup n = some c → s₀.heap.get? c = none
  apart : ∀ n n' c, env.cells.lookup n = some c → env.cells.lookup n' = some c → n = n'

/-- from state to state in a frame: all but its own names stands -/
structure Stp (fs : List Addr) (env : Env) (s s' : Shared) : Prop where
  obj : ∀ b o, b ≠ env.locals → (∀ n, env.cells.lookup n ≠ some b) → s.heap.get? b = some o → ¬ IsT b o → s'.heap.get? b = some o ∨ Flex fs b o s'.heap
  tab : ∀ P, P = 70 ∨ P = 122 → ∀ ps, s.heap.get? P = some (tabObj ps) → TriplesOk ps.toList → ∃ more, s'.heap.get? P = some (tabObj (ps ++ more)) ∧ TriplesOk (ps ++ more).toList
theorem Stp.of_kp {fs : List Addr} {env : Env} {s s' : Shared} (k : Kp fs s s') : Stp fs env s s' := ⟨fun b o _ _ e n => k.grow.obj b o e n, k.grow.tab⟩
theorem Stp.refl (fs : List Addr) (env : Env) (s : Shared) : Stp fs env s s := .of_kp (.refl _ _)
theorem Stp.trans {fs : List Addr} {env : Env} {s s' s'' : Shared} (g : Stp fs env s s') (g' : Stp fs env s' s'') : Stp fs env s s'' where
  obj := fun b o h1 h2 e n => by
    rcases g.obj b o h1 h2 e n with k | ⟨c, f, sl, k⟩
    · exact g'.obj b o h1 h2 k n
    · have n' : ¬ IsT b { o with slots := sl } := fun ⟨_, _, vs, q⟩ => by obtain ⟨es, ep, c⟩ := c; have : o.data = .fields vs := q; rw [c] at this; cases this
      rcases g'.obj b _ h1 h2 k n' with k' | ⟨_, _, sl', k'⟩
      · exact .inr ⟨c, f, sl, k'⟩
      · exact .inr ⟨c, f, sl', k'⟩
  tab := fun P hP ps e t => by
    obtain ⟨m, k, t'⟩ := g.tab P hP ps e t
    obtain ⟨m', k', t''⟩ := g'.tab P hP _ k t'
    exact ⟨m ++ m', by rw [← Array.append_assoc]; exact k', by rw [← Array.append_assoc]; exact t''⟩

structure Run (H : Heap) (w : World) (A : Around) (env : Env) (ρ : Rho) (s₀ s : Shared) : Prop where
  kp : Kp (fsOf A) s₀ s
  ns : ∃ m, s.heap.Ns env.locals m
  cellsIn : ∀ n c, env.cells.lookup n = some c → ∃ v, s.heap.IsCell c v
  vars : ∀ x p, ρ.lookup x = some p → HasVar env s.heap x p

section
variable {prog : Program} {w : World} {H : Heap} {b : Bool} {A : Around} {env : Env} {ρ ρ' : Rho} {s₀ s s' : Shared}

theorem FrameOk.fs (F : FrameOk H w A env s₀) : ∀ b ∈ fsOf A, H.get? b = none := fun b hb => by
  obtain ⟨l, hl, hf⟩ := F.fr
  unfold fsOf at hb
  rw [hl] at hb
  simp only [Option.getD_some, List.filterMap_cons, F.frame, List.mem_cons] at hb
  rcases hb with rfl | hb
  · exact F.newH
  · exact (hf.mem hb).1

theorem Run.top (F : FrameOk H w A env s₀) (R : Run H w A env ρ s₀ s) : TopOk H w s.heap := F.top.grow F.fs R.kp.grow
theorem Run.frames (F : FrameOk H w A env s₀) (R : Run H w A env ρ s₀ s) : ∀ l, A.frames = some l → FramesIn H l s.heap := fun l e => by
  obtain ⟨l', hl, hf⟩ := F.fr
  rw [hl] at e
  cases e
  intro e he
  rcases List.mem_cons.mp he with rfl | he
  · obtain ⟨m, o, es, ep, ho, hd, _⟩ := R.ns
    exact ⟨by rw [F.ok.kind]; nofun, e.locals, o, es, ep, F.frame, F.newH, ho, hd⟩
  · exact (hf.grow R.kp.grow) e he
theorem Run.st (F : FrameOk H w A env s₀) (R : Run H w A env ρ s₀ s) : St H w b A env ρ s := ⟨⟨R.top F, fun _ => R.kp.gens F.gens, fun _ => R.frames F⟩, R.vars⟩
theorem Run.step (R : Run H w A env ρ s₀ s) (k : Kp (fsOf A) s s') : Run H w A env ρ s₀ s' :=
  ⟨R.kp.trans k, let ⟨m, n⟩ := R.ns; ⟨m, k.grow.ns n⟩, fun n c e => let ⟨v, x⟩ := R.cellsIn n c e; ⟨v, k.grow.isCell x⟩, fun x p e => (R.vars x p e).grow k.grow⟩
theorem Run.weak (R : Run H w A env ρ s₀ s) (h : ∀ x p, ρ'.lookup x = some p → ρ.lookup x = some p) : Run H w A env ρ' s₀ s := ⟨R.kp, R.ns, R.cellsIn, fun x p e => R.vars x p (h x p e)⟩

theorem ns_unique {h : Heap} {a : Addr} {m m' : Str → Option Value} (n : h.Ns a m) (n' : h.Ns a m') : m = m' := by
  obtain ⟨o, es, ep, ho, hd, _, hf⟩ := n
  obtain ⟨o', es', ep', ho', hd', _, hf'⟩ := n'
  rw [ho] at ho'; cases ho'
  rw [hd] at hd'; cases hd'
  exact funext fun x => (hf x).symm.trans (hf' x)

theorem wp_store (F : FrameOk H w A env s₀) (R : Run H w A env ρ s₀ s) {x : Str} {v : Value} {p : PV} (hk : env.kindOf x = some .local ∨ (env.kindOf x = some .cell ∧ (env.cells.lookup x).isSome = true))
    (r : Rep s.heap v p) {E : Value → Shared → Prop} :
    wpAny (model prog w) A (storeName env x v) (fun _ s' => Run H w A env ((x, p) :: ρ) s₀ s' ∧ Stp (fsOf A) env s s') E s := by
  obtain ⟨m, hn⟩ := R.ns
  have hLl : ∀ xs, ¬ s.heap.IsList env.locals xs := fun xs ⟨o, e, _, _, hd⟩ => by
    obtain ⟨o', es, ep, e', hd', _⟩ := hn; rw [e] at e'; cases e'; rw [hd] at hd'; cases hd'
  have hLt : ∀ xs, ¬ IsTup s.heap env.locals xs := fun xs ⟨o, e, _, _, hd⟩ => by
    obtain ⟨o', es, ep, e', hd', _⟩ := hn; rw [e] at e'; cases e'; rw [hd] at hd'; cases hd'
  have hLc : ∀ c v, s.heap.IsCell c v → c ≠ env.locals := fun c v ⟨o, e, hd⟩ q => by
    subst q; obtain ⟨o', es, ep, e', hd', _⟩ := hn; rw [e] at e'; cases e'; rw [hd] at hd'; cases hd'
  have hfsT : ∀ a, s₀.heap.get? a = none → (a = 70 ∨ a = 122) → False := fun a ha q => by
    rcases q with rfl | rfl
    · obtain ⟨_, e, _⟩ := F.top.t70; rw [ha] at e; cases e
    · obtain ⟨_, e, _⟩ := F.top.t122; rw [ha] at e; cases e
  rcases hk with hk | ⟨hk, hc⟩
  · refine wpAny_storeName_local hk hn (fun h' hn' hs => ?_) (by rw [F.ok.kind]; rfl)
    refine ⟨⟨⟨R.kp.grow.but F.new hs.extBut, R.kp.os, R.kp.gens⟩, ⟨_, hn'⟩, fun n c e => ?_, fun y q e => ?_⟩, ⟨fun b o h1 _ e _ => .inl (hs.extBut b o h1 e), fun P hP ps e t => ⟨#[], ?_, by simpa using t⟩⟩⟩
    · obtain ⟨v', x'⟩ := R.cellsIn n c e
      exact ⟨v', x'.sameBut hs (hLc _ _ x')⟩
    · rw [List.lookup_cons] at e
      by_cases hyx : y = x
      · subst hyx
        simp only [beq_self_eq_true] at e
        cases e
        exact .inl ⟨hk, _, v, hn', by simp, r.but hs.extBut hLl hLt⟩
      · rw [beq_false_of_ne hyx] at e
        rcases R.vars y q e with ⟨a, m₁, v₁, b, c, d⟩ | ⟨a, c₁, v₁, b, c, d⟩
        · rw [ns_unique b hn] at c
          exact .inl ⟨a, _, v₁, hn', by simp [hyx, c], d.but hs.extBut hLl hLt⟩
        · exact .inr ⟨a, c₁, v₁, b, c.sameBut hs (hLc _ _ c), d.but hs.extBut hLl hLt⟩
    · have := hs.extBut P _ (fun q => hfsT P (q ▸ F.new) hP) e
      simpa using this
  · obtain ⟨c, hc⟩ := Option.isSome_iff_exists.mp hc
    obtain ⟨v₀, hcell⟩ := R.cellsIn x c hc
    have hCl : ∀ xs, ¬ s.heap.IsList c xs := fun xs ⟨o, e, _, _, hd⟩ => by
      obtain ⟨o', e', hd'⟩ := hcell; rw [e] at e'; cases e'; rw [hd] at hd'; cases hd'
    have hCt : ∀ xs, ¬ IsTup s.heap c xs := fun xs ⟨o, e, _, _, hd⟩ => by
      obtain ⟨o', e', hd'⟩ := hcell; rw [e] at e'; cases e'; rw [hd] at hd'; cases hd'
    refine wpAny_storeName_cell F.ok.kind hk hc hcell (fun h' hcell' hs => ?_)
    refine ⟨⟨⟨R.kp.grow.but (F.cells _ _ hc) hs.extBut, R.kp.os, R.kp.gens⟩, ⟨_, hn.sameBut hs (Ne.symm (hLc _ _ hcell))⟩, fun n c' e => ?_, fun y q e => ?_⟩, ⟨fun b o _ h2 e _ => .inl (hs.extBut b o (fun q => h2 x (q ▸ hc)) e), fun P hP ps e t => ⟨#[], ?_, by simpa using t⟩⟩⟩
    · by_cases hcc : c' = c
      · subst hcc; exact ⟨_, hcell'⟩
      · obtain ⟨v', x'⟩ := R.cellsIn n c' e
        exact ⟨v', x'.sameBut hs hcc⟩
    · rw [List.lookup_cons] at e
      by_cases hyx : y = x
      · subst hyx
        simp only [beq_self_eq_true] at e
        cases e
        exact .inr ⟨hk, c, v, hc, hcell', r.but hs.extBut hCl hCt⟩
      · rw [beq_false_of_ne hyx] at e
        rcases R.vars y q e with ⟨a, m₁, v₁, b, c₁, d⟩ | ⟨a, c₁, v₁, b, c₂, d⟩
        · exact .inl ⟨a, _, v₁, b.sameBut hs (Ne.symm (hLc _ _ hcell)), c₁, d.but hs.extBut hCl hCt⟩
        · exact .inr ⟨a, c₁, v₁, b, c₂.sameBut hs (fun q => hyx (F.apart _ _ c (q ▸ b) hc)), d.but hs.extBut hCl hCt⟩
    · have := hs.extBut P _ (fun q => hfsT P (q ▸ F.cells _ _ hc) hP) e
      simpa using this
end

/-! how a statement ends -/
inductive Out where
  | next (ρ : Rho)
  | ret (p : PV)
  | exc (C : Addr)

/-- an exception in a frame -/
def ExcIn (prog : Program) (H : Heap) (w : World) (A : Around) (env : Env) (s₀ : Shared) (C : Addr) (ev : Value) (s' : Shared) : Prop :=
  ∃ e, ev = .ref e ∧
    ((∃ s₁ args, Run H w A env [] s₀ s₁ ∧ s'.os = s₁.os ∧ s'.gens = s₁.gens ∧ Heap.MadeExcOf s₁.heap s'.heap e (.ref C) args) ∨
     (∃ s₁ l, Run H w A env [] s₀ s₁ ∧ A.frames = some l ∧ Fly l s₁ C e s') ∨
     (∃ l, A.frames = some (env :: l) ∧ wpAny (model prog w) A (leaving env ev) (fun _ s'' => ∃ e, ev = .ref e ∧ Fly l s₀ C e s'') (fun _ _ => False) s'))

def OutQ (H : Heap) (w : World) (A : Around) (env : Env) (s₀ s : Shared) : Out → Flow → Shared → Prop
  | .next ρ', f, s' => f = .next ∧ Run H w A env ρ' s₀ s' ∧ Stp (fsOf A) env s s'
  | .ret p, f, s' => ∃ v, f = .ret v ∧ Run H w A env [] s₀ s' ∧ Rep s'.heap v p
  | .exc _, _, _ => False
def OutE (prog : Program) (H : Heap) (w : World) (A : Around) (env : Env) (s₀ : Shared) : Out → Value → Shared → Prop
  | .exc C, ev, s' => ExcIn prog H w A env s₀ C ev s'
  | _, _, _ => False

section
variable (prog : Program) (w : World) (H : Heap) (A : Around) (env : Env) (ρ : Rho)
def Ex1 (st : Stmt) (o : Out) : Prop := ∀ s₀ s, FrameOk H w A env s₀ → Run H w A env ρ s₀ s → wpAny (model prog w) A (exec st env) (OutQ H w A env s₀ s o) (OutE prog H w A env s₀ o) s
def Ex (ss : List Stmt) (o : Out) : Prop := ∀ s₀ s, FrameOk H w A env s₀ → Run H w A env ρ s₀ s → wpAny (model prog w) A (execs ss env) (OutQ H w A env s₀ s o) (OutE prog H w A env s₀ o) s
end

section
variable {prog : Program} {w : World} {H : Heap} {b : Bool} {A : Around} {env : Env} {ρ ρ' : Rho}

theorem Ex.nil : Ex prog w H A env ρ [] (.next ρ) := fun s₀ s F R => wpAny_execs_nil ⟨rfl, R, .refl _ _ _⟩
theorem OutQ.pre {s₀ s s₁ : Shared} {o : Out} {f : Flow} {s' : Shared} (k : Stp (fsOf A) env s s₁) (q : OutQ H w A env s₀ s₁ o f s') : OutQ H w A env s₀ s o f s' := by
  cases o with
  | next ρ => exact ⟨q.1, q.2.1, k.trans q.2.2⟩
  | ret p => exact q
  | exc C => exact q
theorem Ex.cons {st : Stmt} {rest : List Stmt} {o : Out} (h : Ex1 prog w H A env ρ st (.next ρ')) (h' : Ex prog w H A env ρ' rest o) : Ex prog w H A env ρ (st :: rest) o := fun s₀ s F R => by
  refine wpAny_execs_cons (wpAny_mono (h s₀ s F R) (fun f s₁ q => ?_) fun _ _ x => x.elim)
  obtain ⟨rfl, R₁, k⟩ := q
  exact wpAny_mono (h' s₀ s₁ F R₁) (fun _ _ q => q.pre k) fun _ _ x => x
theorem Ex.ret {st : Stmt} {rest : List Stmt} {p : PV} (h : Ex1 prog w H A env ρ st (.ret p)) : Ex prog w H A env ρ (st :: rest) (.ret p) := fun s₀ s F R => by
  refine wpAny_execs_cons (wpAny_mono (h s₀ s F R) (fun f s₁ q => ?_) fun _ _ x => x.elim)
  obtain ⟨v, rfl, q⟩ := q
  exact ⟨v, rfl, q⟩
theorem Ex.exc {st : Stmt} {rest : List Stmt} {C : Addr} (h : Ex1 prog w H A env ρ st (.exc C)) : Ex prog w H A env ρ (st :: rest) (.exc C) := fun s₀ s F R =>
  wpAny_execs_cons (wpAny_mono (h s₀ s F R) (fun f s₁ q => q.elim) fun _ _ x => x)
theorem Ex.weak {ss : List Stmt} {o : Out} {ρ'' : Rho} (h : Ex prog w H A env ρ'' ss o) (hs : ∀ x p, ρ''.lookup x = some p → ρ.lookup x = some p) : Ex prog w H A env ρ ss o := fun s₀ s F R =>
  h s₀ s F (R.weak hs)
theorem Ex.to {ss : List Stmt} {ρ'' : Rho} (h : Ex prog w H A env ρ ss (.next ρ')) (hs : ∀ x p, ρ''.lookup x = some p → ρ'.lookup x = some p) : Ex prog w H A env ρ ss (.next ρ'') := fun s₀ s F R =>
  wpAny_mono (h s₀ s F R) (fun _ _ q => ⟨q.1, q.2.1.weak hs, q.2.2⟩) fun _ _ x => x.elim

abbrev Bound (env : Env) (x : Str) : Prop := env.kindOf x = some .local ∨ (env.kindOf x = some .cell ∧ (env.cells.lookup x).isSome = true)

theorem Ex1.assign {x : Str} {pp : Pos} {e : Expr} {pos : Pos} {p : PV} (h : Ev prog w H b A env ρ e p) (hk : Bound env x)
    (hs : swapsWith e (some (.Name x pp)) pos.line env = pure false := by rfl) : Ex1 prog w H A env ρ (.Assign [.Name x pp] e pos) (.next ((x, p) :: ρ)) := fun s₀ s F R => by
  refine wpAny_Assign_Name (wpAny_mono (h s _ (R.st F)) (fun v s₁ h1 => ?_) fun _ _ x => x) hs
  exact wpAny_mono (wp_store F (R.step h1.1.kp) hk h1.2) (fun _ s₂ h2 => ⟨rfl, h2.1, (Stp.of_kp h1.1.kp).trans h2.2⟩) fun _ _ x => x
theorem Ex1.ret {e : Expr} {pos : Pos} {p : PV} (h : Ev prog w H b A env ρ e p) : Ex1 prog w H A env ρ (.Return (some e) pos) (.ret p) := fun s₀ s F R =>
  wpAny_Return_some (wpAny_mono (h s _ (R.st F)) (fun v s₁ h1 => ⟨v, rfl, (R.step h1.1.kp).weak (by intro x p e; cases e), h1.2⟩) fun _ _ x => x)
theorem Ex1.if_ {t : Expr} {body orelse : List Stmt} {pos : Pos} {c : Bool} {o : Out} (h : Tr prog w H b A env ρ t c) (h1 : c = true → Ex prog w H A env ρ body o)
    (h2 : c = false → Ex prog w H A env ρ orelse o) : Ex1 prog w H A env ρ (.If t body orelse pos) o := fun s₀ s F R => by
  refine wpAny_If (wpAny_mono (h s (OutE prog H w A env s₀ o) (R.st F)) (fun v s₁ k => ?_) fun _ _ x => x)
  obtain ⟨k, rfl⟩ := k
  cases v with
  | true => exact wpAny_mono (h1 rfl s₀ s₁ F (R.step k.kp)) (fun _ _ q => q.pre (.of_kp k.kp)) fun _ _ x => x
  | false => exact wpAny_mono (h2 rfl s₀ s₁ F (R.step k.kp)) (fun _ _ q => q.pre (.of_kp k.kp)) fun _ _ x => x
theorem Ex1.pass {pos : Pos} : Ex1 prog w H A env ρ (.Pass pos) (.next ρ) := fun s₀ s F R => wpAny_Pass ⟨rfl, R, .refl _ _ _⟩

/-! leaving a frame by an exception -/
theorem funFrames_of {H h B : Heap} : ∀ {l : List Env}, FramesIn H l h → (∀ b ∈ l.filterMap (·.frame), B.get? b = none) → h.FunFrames B l
  | [], _, _ => trivial
  | env :: l, F, hB => by
    obtain ⟨k, L, o, es, ep, a, b, c, e⟩ := F env (.head _)
    refine ⟨k, ⟨L, o, a, hB L (List.mem_filterMap.mpr ⟨env, .head _, a⟩), c, fun vs q => by rw [e] at q; cases q⟩, funFrames_of (fun e he => F e (.tail _ he)) fun b hb => hB b ?_⟩
    obtain ⟨e', he, hf⟩ := List.mem_filterMap.mp hb
    exact List.mem_filterMap.mpr ⟨e', .tail _ he, hf⟩

theorem fs_cons {l : List Env} (hl : A.frames = some (env :: l)) (hf : env.frame = some env.locals) : fsOf A = env.locals :: l.filterMap (·.frame) := by
  unfold fsOf; rw [hl]; simp [hf]

theorem leave_exc {s₀ s' : Shared} {C : Addr} {ev : Value} {l : List Env} {E : Value → Shared → Prop} (F : FrameOk H w A env s₀) (hl : A.frames = some (env :: l)) (x : ExcIn prog H w A env s₀ C ev s') :
    wpAny (model prog w) A (leaving env ev) (fun _ s'' => ∃ e, ev = .ref e ∧ Fly l s₀ C e s'') E s' := by
  obtain ⟨e, rfl, x⟩ := x
  have hnotT : ∀ b o, b ∉ l.filterMap (·.frame) → s₀.heap.get? b = some o → b ∉ fsOf A := fun b o hb e hm => by
    rw [fs_cons hl F.frame] at hm
    rcases List.mem_cons.mp hm with rfl | hm
    · rw [F.new] at e; cases e
    · exact hb hm
  rcases x with ⟨s₁, args, R, hos, hg, hx⟩ | ⟨s₁, l', R, hl', X⟩ | ⟨l', hl', h⟩
  · have hfr := R.frames F _ hl
    have hsub : ∀ b, b ∈ (env :: l).filterMap (·.frame) ↔ b ∈ fsOf A := fun b => by unfold fsOf; rw [hl]; rfl
    refine wpAny_leaves_madeW (base := hideAll s₁.heap (fsOf A)) hl F.frame (fun b o q => of_hideAll _ q) (funFrames_of hfr fun b hb => hideAll_none _ ((hsub b).mp hb)) hx fun h' t hfl _ _ hup => ?_
    refine ⟨e, rfl, ⟨hos.trans R.kp.os, fun g => hg ▸ R.kp.gens g, ⟨_, _, hfl, fun b o hb hbe n => ?_, fun P hP ps hPe ht => ?_⟩, fun b o hb hbe hd => ?_⟩⟩
    · have hn := hnotT b o hb hbe
      exact hideAll_get _ (R.kp.grow.old hbe hn n) hn
    · obtain ⟨m, k, t'⟩ := R.kp.grow.tab P hP ps hPe ht
      refine ⟨m, hideAll_get _ k ?_, t'⟩
      refine hnotT P _ (fun hm => ?_) hPe
      obtain ⟨l₀, hl₀, hf₀⟩ := F.fr
      rw [hl] at hl₀; cases hl₀
      obtain ⟨_, o, es, ep, e1, e2⟩ := hf₀.mem hm
      rw [hPe] at e1; cases e1; cases e2
    · obtain ⟨sl, k⟩ := R.kp.grow.data hbe hd
      have k' := hx.keeps _ _ k
      obtain ⟨sl', k''⟩ := hup _ _ k' hd
      exact ⟨sl', k''⟩
  · rw [hl] at hl'; cases hl'
    obtain ⟨B, a0, hfl, hobj, htab⟩ := X.on
    refine wpAny_leaves_onW hl F.frame hfl fun h' hfl' hup => ?_
    refine ⟨e, rfl, ⟨X.os.trans R.kp.os, fun g => X.gens (R.kp.gens g), ⟨B, a0, hfl', fun b o hb hbe n => ?_, fun P hP ps hPe ht => ?_⟩, fun b o hb hbe hd => ?_⟩⟩
    · have hn := hnotT b o hb hbe
      exact hobj b o (fun hm => hn (by unfold fsOf; rw [hl]; exact hm)) (R.kp.grow.old hbe hn n) n
    · obtain ⟨m, k, t'⟩ := R.kp.grow.tab P hP ps hPe ht
      obtain ⟨m', k', t''⟩ := htab P hP _ k t'
      exact ⟨m ++ m', by rw [← Array.append_assoc]; exact k', by rw [← Array.append_assoc]; exact t''⟩
    · obtain ⟨sl, k⟩ := R.kp.grow.data hbe hd
      obtain ⟨sl', k'⟩ := X.slots b _ (by simp only [List.filterMap_cons, F.frame]; exact .tail _ hb) k hd
      obtain ⟨sl'', k''⟩ := hup _ _ k' hd
      exact ⟨sl'', k''⟩
  · rw [hl] at hl'; cases hl'
    exact wpAny_mono h (fun _ _ q => q) fun _ _ q => q.elim

/-- what stands behind an exception -/
theorem Fly.kp {l : List Env} {s s' : Shared} {C e : Addr} (hl : A.frames = some l) (hfr : FramesIn H l s.heap) (X : Fly l s C e s') : Kp (fsOf A) s s' := by
  obtain ⟨B, a0, hfl, hobj, htab⟩ := X.on
  have hfs : fsOf A = l.filterMap (·.frame) := by unfold fsOf; rw [hl]; rfl
  refine ⟨⟨fun b o e n => ?_, fun P hP ps e t => ?_⟩, X.os, X.gens⟩
  · by_cases hb : b ∈ l.filterMap (·.frame)
    · obtain ⟨_, o', es, ep, e1, e2⟩ := hfr.mem hb
      rw [e] at e1; cases e1
      exact .inr ⟨⟨es, ep, e2⟩, hfs ▸ hb, X.slots b o hb e fun vs q => by rw [e2] at q; cases q⟩
    · exact .inl (hfl.1 _ _ (hobj b o hb e n))
  · obtain ⟨m, k, t'⟩ := htab P hP ps e t
    exact ⟨m, hfl.1 _ _ k, t'⟩
end

/-! into a def -/
theorem Pre.entry {w : World} {H : Heap} {A : Around} {s : Shared} {h₁ : Heap} {tk : Nat} {env : Env} (P : Pre H w false A s) (hl : ∃ l, A.frames = some l) (hE : EnvOk env) (hf : env.frame = some env.locals) (hL : env.locals = s.heap.objs.size)
    (hcells : ∀ n c, env.cells.lookup n = some c → s.heap.objs.size ≤ c) (hap : ∀ n n' c, env.cells.lookup n = some c → env.cells.lookup n' = some c → n = n') :
    FrameOk H w (A.deeper env) env s := by
  have hnew : s.heap.get? env.locals = none := by
    cases e : s.heap.get? env.locals with
    | none => rfl
    | some o => rw [hL] at e; exact absurd (Heap.lt_size e) (Nat.lt_irrefl _)
  refine ⟨hE, hf, hnew, ?_, P.top, P.gens rfl, ?_, fun n c e => ?_, hap⟩
  · cases e : H.get? env.locals with
    | none => rfl
    | some o => obtain ⟨o', e'⟩ := P.top.there _ _ e; rw [hnew] at e'; cases e'
  · obtain ⟨l, hl⟩ := hl
    exact ⟨l, Around.frames_deeper hl, P.fr rfl l hl⟩
  · cases e' : s.heap.get? c with
    | none => rfl
    | some o => exact absurd (Heap.lt_size e') (Nat.not_lt.mpr (hcells n c e))

theorem fs_deeper {A : Around} {env : Env} {l : List Env} (hl : A.frames = some l) (hf : env.frame = some env.locals) : fsOf (A.deeper env) = env.locals :: fsOf A := by
  rw [fs_cons (Around.frames_deeper hl) hf]; unfold fsOf; rw [hl]; rfl
theorem Kp.out {A : Around} {env : Env} {s s' : Shared} (hl : ∃ l, A.frames = some l) (hf : env.frame = some env.locals) (hnew : s.heap.get? env.locals = none) (k : Kp (fsOf (A.deeper env)) s s') : Kp (fsOf A) s s' := by
  obtain ⟨l, hl⟩ := hl
  refine ⟨k.grow.mono fun b hb ⟨o, e⟩ => ?_, k.os, k.gens⟩
  rw [fs_deeper hl hf] at hb
  rcases List.mem_cons.mp hb with rfl | hb
  · rw [hnew] at e; cases e
  · exact hb

/-- out of Ex, into what a caller sees -/
def bodyOut : Res → Out
  | .ok p => .ret p
  | .exc C => .exc C
theorem post_of_body {prog : Program} {w : World} {H : Heap} {A : Around} {env : Env} {s s₁ : Shared} {ρ : Rho} {body : List Stmt} {out : Res} (hl : ∃ l, A.frames = some l) (F : FrameOk H w (A.deeper env) env s) (R : Run H w (A.deeper env) env ρ s s₁)
    (h : Ex prog w H (A.deeper env) env ρ body (bodyOut out)) :
    wpAny (model prog w) (A.deeper env) (execs body env) (fun f s' => Post A s out (.ok (.ret (match f with | .ret v => v | _ => .none))) s')
      (fun e s' => wpAny (model prog w) (A.deeper env) (leaving env e) (fun _ s'' => Post A s out (.error e) s'') (fun e' s'' => Post A s out (.error e') s'') s') s₁ := by
  refine wpAny_mono (h s s₁ F R) (fun f s' q => ?_) fun e s' q => ?_
  · cases out with
    | ok p =>
      obtain ⟨v, rfl, R', r⟩ := q
      exact ⟨v, rfl, R'.kp.out hl F.frame F.new, r⟩
    | exc C => exact q.elim
  · cases out with
    | ok p => exact q.elim
    | exc C =>
      obtain ⟨l, hl'⟩ := hl
      refine wpAny_mono (leave_exc F (Around.frames_deeper hl') q) (fun _ s'' q' => ?_) fun _ _ x => x
      obtain ⟨e', rfl, X⟩ := q'
      exact ⟨e', l, rfl, hl', X⟩

end Mine

open PySem PySem.W PySem.Calls PyProof.Rows
set_option Elab.async false
set_option linter.unusedVariables false
namespace Mine

theorem mem2 {α β : Type} [BEq α] [LawfulBEq α] {y : α} {p : β} : ∀ {l : List (α × β)}, l.lookup y = some p → (y, p) ∈ l
  | [], e => by cases e
  | (m, d) :: r, e => by
    rw [List.lookup_cons] at e
    cases hb : y == m with
    | true =>
      rw [hb] at e
      cases e
      rw [eq_of_beq hb]
      exact .head _
    | false =>
      rw [hb] at e
      exact .tail _ (mem2 e)
theorem pairwise_apart : ∀ {cs : List (Str × Addr)}, (cs.Pairwise fun x y => x.2 ≠ y.2) → ∀ n n' c, cs.lookup n = some c → cs.lookup n' = some c → n = n'
  | [], _, _, _, _, e, _ => by cases e
  | (m, d) :: r, h, n, n', c, e, e' => by
    obtain ⟨h1, h2⟩ := List.pairwise_cons.mp h
    rw [List.lookup_cons] at e e'
    by_cases hn : n = m
    · by_cases hn' : n' = m
      · rw [hn, hn']
      · subst hn
        simp only [beq_self_eq_true] at e
        rw [beq_false_of_ne hn'] at e'
        cases e
        exact (h1 (n', d) (mem2 e') rfl).elim
    · rw [beq_false_of_ne hn] at e
      by_cases hn' : n' = m
      · subst hn'
        simp only [beq_self_eq_true] at e'
        cases e'
        exact (h1 (n, d) (mem2 e) rfl).elim
      · rw [beq_false_of_ne hn'] at e'
        exact pairwise_apart h2 n n' c e e'
theorem bindL_else {k : Str → Option NameKind} {x : Str} : ∀ (names : List Str) (vs : List Value) (m : Str → Option Value), x ∉ names → bindL k (names.zip vs) m x = m x
  | [], _, m, _ => by simp [bindL]
  | _ :: _, [], m, _ => by simp [bindL]
  | n :: ns, v :: vs, m, h => by
    simp only [List.zip_cons_cons, bindL]
    rw [bindL_else ns vs _ (fun q => h (.tail _ q))]
    split
    · have hx : x ≠ n := by rintro rfl; exact h (.head _)
      simp [hx]
    · rfl
theorem bindL_zip {k : Str → Option NameKind} {h : Heap} : ∀ (names : List Str) (vs : List Value) (ps : List PV) (m : Str → Option Value), names.Nodup → (∀ x ∈ names, k x = some .local) → Reps h vs ps →
    ∀ x p, (names.zip ps).lookup x = some p → ∃ v, bindL k (names.zip vs) m x = some v ∧ Rep h v p
  | [], _, _, _, _, _, _, x, p, e => by simp at e
  | _ :: _, _, _, _, _, _, .nil, x, p, e => by simp at e
  | n :: ns, v :: vs, q :: qs, m, hn, hk, .cons r rs, x, p, e => by
    obtain ⟨h1, h2⟩ := List.nodup_cons.mp hn
    simp only [List.zip_cons_cons, List.lookup_cons, bindL] at e ⊢
    rw [if_pos (hk n (.head _))]
    by_cases hx : x = n
    · subst hx
      simp only [beq_self_eq_true] at e
      cases e
      exact ⟨v, by rw [bindL_else ns vs _ h1]; simp, r⟩
    · rw [beq_false_of_ne hx] at e
      exact bindL_zip ns vs qs _ h2 (fun y hy => hk y (.tail _ hy)) rs x p e

theorem Reps.append {h : Heap} {vs us : List Value} {ps qs : List PV} (r : Reps h vs ps) (r' : Reps h us qs) : Reps h (vs ++ us) (ps ++ qs) := by
  induction r with
  | nil => exact r'
  | cons a _ ih => exact .cons a ih
theorem Reps.length {h : Heap} {vs : List Value} {ps : List PV} (r : Reps h vs ps) : vs.length = ps.length := by
  induction r with
  | nil => rfl
  | cons _ _ ih => simp [ih]

theorem FnOk.def {prog : Program} {w : World} {H : Heap} {n : Nat} {f : Addr} {oc : Value} {od : Option Addr} {osl : Array (Option Value)} {fd : FuncData} {body : List Stmt} {names : List Str} {args : List PV} {out : Res} (extra : List Value) (extraP : List PV)
    (ho : (KF w.params).lookup f = some ⟨oc, od, .func fd, osl⟩) (hcd : codeIn (KF w.params) fd.code fd.qualname = true) (hbody : fd.body = .stmts body)
    (hbind : ∀ (s : Shared) (vs : List Value), TopOk H w s.heap → vs.length = args.length → BindsTo s fd ⟨vs, []⟩ (names.zip (vs ++ extra)))
    (hx : ∀ h, Reps h extra extraP) (hloc : ∀ x ∈ names, fd.scope.names.lookup x = some .local) (hnd : names.Nodup) (hclo : fd.closure = []) (hgl : fd.globals = mainGlobals) (hbi : fd.builtins = builtinsNs)
    (hco : fd.scope.isCoroutine = false) (hgen : fd.scope.isGenerator = false) (hk : fd.scope.kind = .function)
    (h : ∀ A env, AOk n A → EnvOk env → env.scope = fd.scope → env.code = fd.code → env.qual = fd.qualname ++ ".<locals>." → env.cells = cellsFrom (env.locals + 1) fd.scope.names [] → (∃ l, A.frames = some (env :: l)) →
      Ex prog w H A env (names.zip (args ++ extraP)) body (bodyOut out)) : FnOk prog w H (n + 1) f args out := by
  intro A s vs hA hl P hvs
  refine codeAny_call_function hA.room (P.top.K _ _ ho) rfl hco hgen hbody (codeRec_of P.top.K hcd) (hbind s vs P.top hvs.length _ _ _ _ ?_)
  rw [hclo]
  refine wpAny_newFunctionEnv_cells hk (fun x hx' => .inl (hloc x.1 (List.of_mem_zip hx').1)) fun env he s' x => ?_
  refine ⟨P.top.nolimit.keeps x.toInCall.keep, codeAny_func ?_⟩
  have hE : EnvOk env := by subst he; exact ⟨hk, hgl, hbi⟩
  have hfr : env.frame = some env.locals := by subst he; rfl
  have hL : env.locals = s.heap.objs.size := by subst he; rfl
  have hsc : env.scope = fd.scope := by subst he; rfl
  have hcl : env.cells = cellsFrom (env.locals + 1) fd.scope.names [] := by subst he; rfl
  have hcode : env.code = fd.code := by subst he; rfl
  have hqual : env.qual = fd.qualname ++ ".<locals>." := by subst he; rfl
  clear he
  have hF : FrameOk H w (A.deeper env) env s := P.entry (h₁ := s'.heap) (tk := 0) hl hE hfr hL (fun m c e => Nat.le_of_lt (hL ▸ x.above m c (mem2 e))) (pairwise_apart x.apart)
  have hsame : Keeps s s' := by
    obtain ⟨h', tk, e⟩ := x.toInCall.same
    have k := x.toInCall.keep
    subst e
    exact ⟨h', tk, rfl, k⟩
  have hR : Run H w (A.deeper env) env (names.zip (args ++ extraP)) s s' := by
    refine ⟨.of_keeps hsame, ⟨_, x.toInCall.ns⟩, fun m c e => ⟨_, x.cell m c e⟩, fun y p e => ?_⟩
    have hky : ∀ z ∈ names, env.kindOf z = some .local := fun z hz => by unfold Env.kindOf; rw [hsc]; exact hloc z hz
    obtain ⟨v, e1, e2⟩ := bindL_zip names (vs ++ extra) (args ++ extraP) (fun _ => none) hnd hky ((hvs.append (hx s.heap)).grow (.of_keeps (fs := []) (Keeps.kk hsame))) y p e
    have hy : y ∈ names := (List.of_mem_zip (mem2 e)).1
    exact .inl ⟨hky y hy, _, v, x.toInCall.ns, e1, e2⟩
  obtain ⟨l, hl'⟩ := id hl
  exact post_of_body hl hF hR (h _ env (hA.deeper env) hE hsc hcode hqual hcl ⟨l, Around.frames_deeper hl'⟩)

end Mine

open PySem PySem.W PySem.Calls PyProof.Rows
set_option Elab.async false
set_option linter.unusedVariables false
namespace Mine

def Solid (o : Obj) : Prop := o.cls ≠ .none ∧ (∀ es ep, o.data ≠ .dict es ep) ∧ (∀ v, o.data ≠ .cell v)

section
variable {prog : Program} {w : World} {H : Heap} {b : Bool} {A : Around} {env : Env} {ρ ρ' : Rho}

theorem Walks.imp {I : Addr} {fp wr : List Addr} {n : Nat} {P P' : Nat → Value → Prop} {S : Nat → Heap → Prop} (W : Walks prog w A I fp wr n P S) (h : ∀ i v, P i v → P' i v) : Walks prog w A I fp wr n P' S where
  sub := W.sub
  frame := W.frame
  item := fun i s Q E hi st hQ => W.item i s Q E hi st fun v h' tk hP => hQ v h' tk (h _ _ hP)
  done := W.done
  self := W.self

/-- an iterator's road over these data -/
structure Road (prog : Program) (w : World) (s : Shared) (I : Addr) (fp wr : List Addr) (items : List PV) (S : Nat → Heap → Prop) (h : Heap) : Prop where
  walks : ∀ A' : Around, A'.handled = none → Walks prog w A' I fp wr items.length (fun i v => ∃ p, items[i]? = some p ∧ Prim v p) S
  start : S 0 h
  low : ∀ b ∈ fp, b < h.objs.size
  new : ∀ b ∈ wr, s.heap.get? b = none
  solid : ∀ i h, S i h → ∀ b ∈ fp, ∃ o, h.get? b = some o ∧ Solid o
  flds : ∀ i h, S i h → ∀ b ∈ wr, ∃ o vs, h.get? b = some o ∧ o.data = .fields vs

def ItEv (prog : Program) (w : World) (H : Heap) (A : Around) (env : Env) (ρ : Rho) (e : Expr) (items : List PV) : Prop :=
  ∀ s E, St H w true A env ρ s → wpAny (model prog w) A (eval e env) (fun xv s₁ => wpAny (model prog w) A (pyIter xv) (fun it s₂ => Keeps s s₂ ∧ ∃ I fp wr S, it = .ref I ∧ Road prog w s I fp wr items S s₂.heap) E s₁) E s

theorem none_of_size {h : Heap} {a : Addr} (ha : h.objs.size ≤ a) : h.get? a = none := by
  cases e : h.get? a with
  | none => rfl
  | some o => exact absurd (Heap.lt_size e) (Nat.not_lt.mpr ha)
theorem none_keeps {h h' : Heap} (k : ∀ b o, h.get? b = some o → h'.get? b = some o) {a : Addr} (e : h'.get? a = none) : h.get? a = none := by
  cases e' : h.get? a with
  | none => rfl
  | some o => rw [k _ _ e'] at e; cases e

theorem ItEv.ofList {e : Expr} {l : List PV} (h : Ev prog w H true A env ρ e (.list l)) : ItEv prog w H A env ρ e l := fun s E S => by
  refine wpAny_mono (h s E S) (fun v s₁ h1 => ?_) fun _ _ x => x
  obtain ⟨k, a, vs, rfl, hl, ps⟩ := h1
  have ha : a < s₁.heap.objs.size := by obtain ⟨_, e, _⟩ := hl; exact Heap.lt_size e
  refine wpAny_pyIter_list hl ⟨Keeps.tr k (Keeps.hp fun _ _ e => Heap.get?_push_of_some _ e), s₁.heap.objs.size, [s₁.heap.objs.size, a], [s₁.heap.objs.size], (fun i h => h.IsListIter s₁.heap.objs.size a i ∧ h.IsList a vs.toArray), rfl, ?_⟩
  refine ⟨fun A' hA => ?_, ?_, ?_, ?_, ?_, ?_⟩
  · have W := Walks.list (prog := prog) (w := w) (A := A') hA s₁.heap.objs.size a (Nat.ne_of_lt ha) vs.toArray
    have e : vs.toArray.size = l.length := by simp [ps.length]
    rw [e] at W
    exact Walks.imp W fun i v hv => ps.get i v (by simpa using hv)
  · exact ⟨⟨_, Heap.get?_push_size _ rfl, rfl, rfl⟩, hl.push _⟩
  · intro b hb
    show b < (s₁.heap.push _).objs.size
    rw [Heap.size_push]
    simp only [List.mem_cons, List.not_mem_nil, or_false] at hb
    rcases hb with rfl | rfl
    · exact Nat.lt_succ_self _
    · exact Nat.lt_succ_of_lt ha
  · intro b hb
    simp only [List.mem_cons, List.not_mem_nil, or_false] at hb
    subst hb
    exact none_keeps (Keeps.kk k) (none_of_size (Nat.le_refl _))
  · intro i h ⟨⟨o, e, c, d⟩, ⟨o', e', c', n', d'⟩⟩ b hb
    simp only [List.mem_cons, List.not_mem_nil, or_false] at hb
    rcases hb with rfl | rfl
    · exact ⟨o, e, by rw [c]; nofun, by rw [d]; nofun, by rw [d]; nofun⟩
    · exact ⟨o', e', by rw [c']; nofun, by rw [d']; nofun, by rw [d']; nofun⟩
  · intro i h ⟨⟨o, e, c, d⟩, _⟩ b hb
    simp only [List.mem_cons, List.not_mem_nil, or_false] at hb
    subst hb
    exact ⟨o, _, e, d⟩

def chr1 (c : Nat) : Str := ⟨#[c]⟩

theorem ItEv.ofStr {e : Expr} {x : Str} (h : Ev prog w H true A env ρ e (.str x)) : ItEv prog w H A env ρ e (x.cps.toList.map fun c => .str (chr1 c)) := fun s E S => by
  refine wpAny_mono (h s E S) (fun v s₁ h1 => ?_) fun _ _ x => x
  obtain ⟨k, t, rfl⟩ := h1
  have go : ∀ (ty : String) (o : Obj), (∀ A' : Around, A'.handled = none → Walks prog w A' s₁.heap.objs.size [s₁.heap.objs.size] [s₁.heap.objs.size] x.cps.size (SignAt x) (fun i h => h.IsStrIter s₁.heap.objs.size ty x t i)) →
      (s₁.heap.push o).IsStrIter s₁.heap.objs.size ty x t 0 → (Keeps s { s₁ with heap := s₁.heap.push o } ∧ ∃ I fp wr S, (Value.ref s₁.heap.objs.size) = .ref I ∧ Road prog w s I fp wr (x.cps.toList.map fun c => .str (chr1 c)) S (s₁.heap.push o)) := by
    intro ty o W st
    refine ⟨Keeps.tr k (Keeps.hp fun _ _ e => Heap.get?_push_of_some _ e), s₁.heap.objs.size, [s₁.heap.objs.size], [s₁.heap.objs.size], (fun i h => h.IsStrIter s₁.heap.objs.size ty x t i), rfl, ⟨fun A' hA => ?_, st, ?_, ?_, ?_, ?_⟩⟩
    · have W' := W A' hA
      have e : x.cps.size = (x.cps.toList.map fun c => PV.str (chr1 c)).length := by simp
      rw [e] at W'
      refine Walks.imp W' fun i v hv => ?_
      obtain ⟨c, u, h1, rfl⟩ := hv
      exact ⟨.str (chr1 c), by simp [h1], u, rfl⟩
    · intro b hb
      show b < (s₁.heap.push _).objs.size
      rw [Heap.size_push]
      simp only [List.mem_cons, List.not_mem_nil, or_false] at hb
      subst hb
      exact Nat.lt_succ_self _
    · intro b hb
      simp only [List.mem_cons, List.not_mem_nil, or_false] at hb
      subst hb
      exact none_keeps (Keeps.kk k) (none_of_size (Nat.le_refl _))
    · intro i h ⟨o, e, c, d⟩ b hb
      simp only [List.mem_cons, List.not_mem_nil, or_false] at hb
      subst hb
      exact ⟨o, e, by rw [c]; nofun, by rw [d]; nofun, by rw [d]; nofun⟩
    · intro i h ⟨o, e, c, d⟩ b hb
      simp only [List.mem_cons, List.not_mem_nil, or_false] at hb
      subst hb
      exact ⟨o, _, e, d⟩
  cases ha : x.cps.all (· < 128)
  · exact wpAny_pyIter_wide ha (go "str_iterator" _ (fun A' hA => Walks.strWide hA _ x t) ⟨_, Heap.get?_push_size _ rfl, rfl, rfl⟩)
  · exact wpAny_pyIter_ascii ha (go "str_ascii_iterator" _ (fun A' hA => Walks.strAscii hA _ x t) ⟨_, Heap.get?_push_size _ rfl, rfl, rfl⟩)

/-- range(e) -/
theorem ItEv.range {fx : Str} {fp pos : Pos} {e : Expr} {n : Nat} (hf : EvV prog w H A env ρ (.Name fx fp) (.type "range")) (h : Ev prog w H true A env ρ e (.int (n : Int))) (hn : n ≤ 1000000)
    (he : starEach [e] env = (false, eval e env) :: starEach [] env := by rfl) :
    ItEv prog w H A env ρ (.Call (.Name fx fp) [e] [] pos) ((List.range n).map fun i : Nat => PV.int (i : Int)) := fun s E S => by
  refine Call_ (hf s E _ S ?_)
  rw [he]
  refine PyProof.Rows.callWith_type rfl (evalArgs_plain (spliced_cons (wpAny_mono (h s E S) (fun v s₁ h1 => spliced_nil ?_) fun _ _ x => x)))
  obtain ⟨k, t, rfl⟩ := h1
  refine call_range_1 ?_
  have hsz : Builtin.Range.rangeSize 0 (n : Int) 1 = (n : Int) := by rw [rangeSize_one]; split <;> omega
  have f : ∀ i : Int, 0 ≤ i → i ≤ 2000000 → Builtin.Range.rangeFitsLong i = true := fun i h1 h2 => by
    unfold Builtin.Range.rangeFitsLong
    rw [Bool.and_eq_true, decide_eq_true_eq, decide_eq_true_eq]
    constructor <;> omega
  have hsm : Builtin.Range.small 0 (n : Int) 1 = true := by
    unfold Builtin.Range.small
    rw [hsz, f 0 (by omega) (by omega), f n (by omega) (by omega), f 1 (by omega) (by omega), if_pos (by decide), f _ (by omega) (by omega)]
    simp
  refine wpAny_pyIter_range (IsRange.new ..) hsm ?_
  rw [hsz]
  have hkk : ∀ b o, s₁.heap.get? b = some o → ((s₁.heap.push { cls := .type "range", data := .fields #[.int 0 s₁.toks, .int n t, .int 1 (s₁.toks + 1)] }).push { cls := .type "range_iterator", data := .fields #[rawInt 0, rawInt n, rawInt 1] }).get? b = some o :=
    fun _ _ e => Heap.get?_push_of_some _ (Heap.get?_push_of_some _ e)
  have hI : (s₁.heap.push { cls := .type "range", data := .fields #[.int 0 s₁.toks, .int n t, .int 1 (s₁.toks + 1)] }).objs.size = s₁.heap.objs.size + 1 := Heap.size_push ..
  generalize hP : (s₁.heap.push { cls := .type "range", data := .fields #[.int 0 s₁.toks, .int n t, .int 1 (s₁.toks + 1)] }) = P at hkk hI ⊢
  refine ⟨Keeps.tr k (Keeps.mk' hkk), P.objs.size, [P.objs.size], [P.objs.size], (fun i h => IsRangeIter h P.objs.size (0 + (i : Nat) * 1) ((n : Int) - (i : Nat)) 1), rfl, ⟨fun A' hA => ?_, ?_, ?_, ?_, ?_, ?_⟩⟩
  · have W := Walks.range (prog := prog) (w := w) (A := A') hA P.objs.size 0 1 n
    have e : n = ((List.range n).map fun i : Nat => PV.int (i : Int)).length := by simp
    refine ⟨W.sub, W.frame, ?_, ?_, W.self⟩
    · intro i s' Q E hi st hQ
      have hi' : i < n := e ▸ hi
      exact W.item i s' Q E hi' st fun v h' tk hv => hQ v h' tk (by obtain ⟨u, rfl⟩ := hv; exact ⟨.int (i : Int), by simp [hi'], u, by simp⟩)
    · intro s' Q E st hQ
      rw [List.length_map, List.length_range] at st
      exact W.done s' Q E st hQ
  · show IsRangeIter _ _ _ _ _
    have := Heap.get?_push_size P (o := { cls := .type "range_iterator", data := .fields #[rawInt 0, rawInt n, rawInt 1] }) rfl
    simpa [IsRangeIter] using this
  · intro b hb
    simp only [List.mem_cons, List.not_mem_nil, or_false] at hb
    subst hb
    show P.objs.size < (P.push _).objs.size
    rw [Heap.size_push]
    exact Nat.lt_succ_self _
  · intro b hb
    simp only [List.mem_cons, List.not_mem_nil, or_false] at hb
    subst hb
    exact none_keeps (Keeps.kk k) (none_of_size (by rw [hI]; exact Nat.le_succ _))
  · intro i h st b hb
    simp only [List.mem_cons, List.not_mem_nil, or_false] at hb
    subst hb
    exact ⟨_, st, nofun, nofun, nofun⟩
  · intro i h st b hb
    simp only [List.mem_cons, List.not_mem_nil, or_false] at hb
    subst hb
    exact ⟨_, _, st, rfl⟩
end
end Mine

open PySem PySem.W PySem.Calls PyProof.Rows
set_option Elab.async false
set_option linter.unusedVariables false
namespace Mine

def PV.isPrim : PV → Bool
  | .list _ => false
  | .tup _ => false
  | _ => true
def PV.isTup : PV → Bool
  | .tup _ => true
  | _ => false

theorem Rep.prim {h : Heap} {v : Value} {p : PV} (r : Rep h v p) (hp : p.isPrim = true) : Prim v p := by
  cases p <;> first | exact r | cases hp
theorem Reps.prims {h : Heap} {vs : List Value} {ps : List PV} (r : Reps h vs ps) (hp : ps.all PV.isPrim = true) : Prims vs ps := by
  induction r with
  | nil => exact .nil
  | cons a _ ih =>
    rw [List.all_cons, Bool.and_eq_true] at hp
    exact .cons (a.prim hp.1) (ih hp.2)
theorem Reps.reps1 {h : Heap} {vs : List Value} {ps : List PV} (r : Reps h vs ps) (hp : ps.any PV.isTup = false) : Reps1 h vs ps := by
  induction r with
  | nil => exact .nil
  | @cons v _ p _ a _ ih =>
    rw [List.any_cons, Bool.or_eq_false_iff] at hp
    refine .cons ?_ (ih hp.2)
    rw [rep_eq (fun l e => by rw [e] at hp; cases hp.1)] at a
    exact a
theorem Rep1.prim {h : Heap} {v : Value} {p : PV} (r : Rep1 h v p) (hp : p.isPrim = true) : Prim v p := by
  cases p <;> first | exact r | cases hp
theorem Reps1.prims {h : Heap} {vs : List Value} {ps : List PV} (r : Reps1 h vs ps) (hp : ps.all PV.isPrim = true) : Prims vs ps := by
  induction r with
  | nil => exact .nil
  | cons a _ ih =>
    rw [List.all_cons, Bool.and_eq_true] at hp
    exact .cons (a.prim hp.1) (ih hp.2)

section
variable {prog : Program} {w : World} {H : Heap} {b : Bool} {A : Around} {env : Env} {ρ ρ' : Rho}

theorem Ev.list {es : List Expr} {pos : Pos} {ps : List PV} (ha : EvA prog w H b A env ρ es ps) (hp : ps.all PV.isPrim = true) (hz : ps.length ≤ sizeLine) : Ev prog w H b A env ρ (.List es pos) (.list ps) := fun s E S => by
  refine List_ (wpAny_mono (ha s E pos S) (fun vs s₁ h1 => ?_) fun _ _ x => x)
  have pr := h1.2.prims hp
  refine wpAny_newObj_type ⟨h1.1.trans (.of_keeps (Keeps.hp fun _ _ e => Heap.get?_push_of_some _ e)), _, vs, rfl, ⟨_, Heap.get?_push_size _ rfl, rfl, _, rfl⟩, pr⟩ ?_
  show vs.toArray.size ≤ sizeLine
  rw [List.size_toArray, pr.length]; exact hz
theorem Ev.tup {es : List Expr} {k : Nat} {pos : Pos} {ps : List PV} (ha : EvA prog w H b A env ρ es ps) (hp : ps.any PV.isTup = false) (hz : ps.length ≤ sizeLine) : Ev prog w H b A env ρ (.Tuple es k pos) (.tup ps) := fun s E S => by
  refine Tuple_ (wpAny_mono (ha s E pos S) (fun vs s₁ h1 => ?_) fun _ _ x => x)
  have hk : Keeps s₁ { s₁ with heap := s₁.heap.push { cls := .type "tuple", data := .seq vs.toArray } } := Keeps.hp fun _ _ e => Heap.get?_push_of_some _ e
  refine wpAny_newObj_type ⟨h1.1.trans (.of_keeps hk), _, vs, rfl, ⟨_, Heap.get?_push_size _ rfl, rfl, _, rfl⟩, (h1.2.reps1 hp).grow (.of_keeps (fs := []) (Keeps.kk hk))⟩ ?_
  show vs.toArray.size ≤ sizeLine
  rw [List.size_toArray, h1.2.length]; exact hz

theorem ItEv.ofTup {e : Expr} {l : List PV} (h : Ev prog w H true A env ρ e (.tup l)) (hp : l.all PV.isPrim = true) : ItEv prog w H A env ρ e l := fun s E S => by
  refine wpAny_mono (h s E S) (fun v s₁ h1 => ?_) fun _ _ x => x
  obtain ⟨k, a, vs, rfl, hl, ps⟩ := h1
  have ps := ps.prims hp
  have ha : a < s₁.heap.objs.size := by obtain ⟨_, e, _⟩ := hl; exact Heap.lt_size e
  have hl' : s₁.heap.IsTuple a vs.toArray := hl
  refine wpAny_pyIter_tuple hl' ⟨Keeps.tr k (Keeps.hp fun _ _ e => Heap.get?_push_of_some _ e), s₁.heap.objs.size, [s₁.heap.objs.size, a], [s₁.heap.objs.size], (fun i h => h.IsTupleIter s₁.heap.objs.size a i ∧ h.IsTuple a vs.toArray), rfl, ?_⟩
  refine ⟨fun A' hA => ?_, ?_, ?_, ?_, ?_, ?_⟩
  · have W := Walks.tuple (prog := prog) (w := w) (A := A') hA s₁.heap.objs.size a (Nat.ne_of_lt ha) vs.toArray
    have e : vs.toArray.size = l.length := by simp [ps.length]
    rw [e] at W
    exact Walks.imp W fun i v hv => ps.get i v (by simpa using hv)
  · obtain ⟨o, e, r⟩ := hl'
    exact ⟨⟨_, Heap.get?_push_size _ rfl, rfl, rfl⟩, o, Heap.get?_push_of_some _ e, r⟩
  · intro b hb
    show b < (s₁.heap.push _).objs.size
    rw [Heap.size_push]
    simp only [List.mem_cons, List.not_mem_nil, or_false] at hb
    rcases hb with rfl | rfl
    · exact Nat.lt_succ_self _
    · exact Nat.lt_succ_of_lt ha
  · intro b hb
    simp only [List.mem_cons, List.not_mem_nil, or_false] at hb
    subst hb
    exact none_keeps (Keeps.kk k) (none_of_size (Nat.le_refl _))
  · intro i h ⟨⟨o, e, c, d⟩, ⟨o', e', c', n', d'⟩⟩ b hb
    simp only [List.mem_cons, List.not_mem_nil, or_false] at hb
    rcases hb with rfl | rfl
    · exact ⟨o, e, by rw [c]; nofun, by rw [d]; nofun, by rw [d]; nofun⟩
    · exact ⟨o', e', by rw [c']; nofun, by rw [d']; nofun, by rw [d']; nofun⟩
  · intro i h ⟨⟨o, e, c, d⟩, _⟩ b hb
    simp only [List.mem_cons, List.not_mem_nil, or_false] at hb
    subst hb
    exact ⟨o, _, e, d⟩

/-! what a step of an iterator leaves standing -/
theorem Run.iter {s₀ s s' : Shared} {wr : List Addr} {h' : Heap} {tk : Nat} (R : Run H w A env ρ s₀ s) (hw : ∀ b ∈ wr, s₀.heap.get? b = none) (hf : ∀ b ∈ wr, ∃ o vs, s.heap.get? b = some o ∧ o.data = .fields vs)
    (hk : ∀ b o, b ∉ wr → s.heap.get? b = some o → h'.get? b = some o) : Run H w A env ρ s₀ { s with heap := h', toks := tk } := by
  have hns : ∀ a m, s.heap.Ns a m → h'.Ns a m := fun a m ⟨o, es, ep, e, d, r⟩ => ⟨o, es, ep, hk a o (fun hb => by obtain ⟨o', vs, e', d'⟩ := hf a hb; rw [e] at e'; cases e'; rw [d] at d'; cases d') e, d, r⟩
  have hcell : ∀ a v, s.heap.IsCell a v → h'.IsCell a v := fun a v ⟨o, e, d⟩ => ⟨o, hk a o (fun hb => by obtain ⟨o', vs, e', d'⟩ := hf a hb; rw [e] at e'; cases e'; rw [d] at d'; cases d') e, d⟩
  have hlist : ∀ a xs, s.heap.IsList a xs → h'.IsList a xs := fun a xs ⟨o, e, c, n, d⟩ => ⟨o, hk a o (fun hb => by obtain ⟨o', vs, e', d'⟩ := hf a hb; rw [e] at e'; cases e'; rw [d] at d'; cases d') e, c, n, d⟩
  have htup : ∀ a xs, IsTup s.heap a xs → IsTup h' a xs := fun a xs ⟨o, e, c, n, d⟩ => ⟨o, hk a o (fun hb => by obtain ⟨o', vs, e', d'⟩ := hf a hb; rw [e] at e'; cases e'; rw [d] at d'; cases d') e, c, n, d⟩
  have h1 : ∀ v p, Rep1 s.heap v p → Rep1 h' v p := fun v p r => by
    cases p with
    | list l => obtain ⟨a, vs, e, hl, ps⟩ := r; exact ⟨a, vs, e, hlist _ _ hl, ps⟩
    | _ => exact r
  have h1s : ∀ vs ps, Reps1 s.heap vs ps → Reps1 h' vs ps := fun vs ps r => by
    induction r with
    | nil => exact .nil
    | cons a _ ih => exact .cons (h1 _ _ a) ih
  have h2 : ∀ v p, Rep s.heap v p → Rep h' v p := fun v p r => by
    cases p with
    | tup l => obtain ⟨a, vs, e, hl, ps⟩ := r; exact ⟨a, vs, e, htup _ _ hl, h1s _ _ ps⟩
    | _ => rw [rep_eq (by nofun)] at r ⊢; exact h1 _ _ r
  refine ⟨⟨⟨fun b o e n => ?_, fun P hP ps e t => ?_⟩, R.kp.os, R.kp.gens⟩, let ⟨m, n⟩ := R.ns; ⟨m, hns _ _ n⟩, fun n c e => let ⟨v, x⟩ := R.cellsIn n c e; ⟨v, hcell _ _ x⟩, fun x p e => ?_⟩
  · have hb : b ∉ wr := fun hb => by rw [hw b hb] at e; cases e
    rcases R.kp.grow.obj b o e n with k | ⟨c, f, sl, k⟩
    · exact .inl (hk b _ hb k)
    · exact .inr ⟨c, f, sl, hk b _ hb k⟩
  · have hb : P ∉ wr := fun hb => by rw [hw P hb] at e; cases e
    obtain ⟨m, k, t'⟩ := R.kp.grow.tab P hP ps e t
    exact ⟨m, hk P _ hb k, t'⟩
  · rcases R.vars x p e with ⟨a, m, v, b, c, d⟩ | ⟨a, m, v, b, c, d⟩
    · exact .inl ⟨a, m, v, hns _ _ b, c, h2 _ _ d⟩
    · exact .inr ⟨a, m, v, b, hcell _ _ c, h2 _ _ d⟩

theorem Stp.solid {s₀ s s' : Shared} (R : Run H w A env ρ s₀ s) (k : Stp (fsOf A) env s s') {b : Addr} {o : Obj} (e : s.heap.get? b = some o) (hs : Solid o) : s'.heap.get? b = some o := by
  obtain ⟨h1, h2, h3⟩ := hs
  have q1 : b ≠ env.locals := fun q => by
    obtain ⟨m, o', es, ep, e', d, _⟩ := R.ns
    rw [← q, e] at e'; cases e'
    exact h2 es ep d
  have q2 : ∀ n, env.cells.lookup n ≠ some b := fun n q => by
    obtain ⟨v, o', e', d⟩ := R.cellsIn n b q
    rw [e] at e'; cases e'
    exact h3 _ d
  rcases k.obj b o q1 q2 e (fun ⟨c, _⟩ => h1 c) with k | ⟨⟨es, ep, d⟩, _⟩
  · exact k
  · exact absurd d (h2 es ep)

/-- a loop by what holds ahead of each turn -/
theorem Ex1.for_ {x : Str} {px : Pos} {iter : Expr} {body : List Stmt} {pos : Pos} {items : List PV} (I : Nat → Rho) (hi : ItEv prog w H A env ρ iter items) (hh : A.handled = none) (hk : Bound env x)
    (h0 : ∀ y p, (I 0).lookup y = some p → ρ.lookup y = some p)
    (step : ∀ i p, items[i]? = some p → Ex prog w H A env ((x, p) :: I i) body (.next (I (i + 1))))
    (hs : ∀ v, foldedSetIterable iter env v = pure v := by intro _; rfl) : Ex1 prog w H A env ρ (.For (.Name x px) iter body [] pos) (.next (I items.length)) := fun s₀ s F R => by
  refine wpAny_For (wpAny_mono (hi s (OutE prog H w A env s₀ (.next (I items.length))) (R.st (b := true) F)) (fun xv s₁ h1 => wpAny_mono h1 (fun it s₂ h2 => ?_) fun _ _ x => x) fun _ _ x => x) hs
  obtain ⟨k, Ia, fp, wr, S, rfl, Rd⟩ := h2
  have hw : ∀ b ∈ wr, s₀.heap.get? b = none := fun b hb => by
    have := Rd.new b hb
    cases e : s₀.heap.get? b with
    | none => rfl
    | some o =>
      exfalso
      by_cases n : IsT b o
      · obtain ⟨_, p, _⟩ := n
        have T := R.top F
        rcases p with rfl | rfl
        · obtain ⟨_, e', _⟩ := T.t70; rw [this] at e'; cases e'
        · obtain ⟨_, e', _⟩ := T.t122; rw [this] at e'; cases e'
      · rcases R.kp.grow.obj b o e n with k | ⟨_, _, sl, k⟩
        · rw [this] at k; cases k
        · rw [this] at k; cases k
  refine codeAny_forLoop (fun k' s' => ∃ i, k' = items.length + 1 - i ∧ i ≤ items.length ∧ S i s'.heap ∧ Run H w A env (I i) s₀ s' ∧ Stp (fsOf A) env s s') ?_ (items.length + 1)
    ⟨0, rfl, Nat.zero_le _, Rd.start, (R.weak h0).step (.of_keeps k), .of_kp (.of_keeps k)⟩
  rintro k' s' ⟨i, rfl, hile, hst, R', stp⟩
  by_cases hlt : i < items.length
  · refine (Rd.walks A hh).item i s' _ _ hlt hst fun v h' tk hP hst1 hk1 => ?_
    obtain ⟨p, hp, hv⟩ := hP
    have R1 := R'.iter (s' := s') (tk := tk) hw (Rd.flds i _ hst) hk1
    have stp1 : Stp (fsOf A) env s' { s' with heap := h', toks := tk } → Stp (fsOf A) env s { s' with heap := h', toks := tk } := stp.trans
    dsimp only
    refine wpAny_assign_Name (wpAny_mono (wp_store F R1 hk hv.rep) (fun _ s3 h3 => ?_) fun _ _ x => x)
    obtain ⟨R3, stp3⟩ := h3
    refine wpAny_mono (step i p hp s₀ s3 F R3) (fun f s4 h4 => ?_) fun _ _ x => x.elim
    obtain ⟨rfl, R4, stp4⟩ := h4
    refine ⟨items.length + 1 - (i + 1), by omega, i + 1, rfl, hlt, ?_, R4, ?_⟩
    · refine (Rd.walks A hh).frame _ _ _ hst1 fun b hb o e => ?_
      obtain ⟨o', e', hs'⟩ := Rd.solid _ _ hst1 b hb
      rw [e] at e'; cases e'
      exact stp4.solid R3 (stp3.solid R1 e hs') hs'
    · refine Stp.trans ?_ (stp3.trans stp4)
      refine ⟨fun b o hb1 hb2 e n => ?_, fun P hP ps e t => ?_⟩
      · have hbw : b ∉ wr := fun hb => by rw [Rd.new b hb] at e; cases e
        rcases stp.obj b o hb1 hb2 e n with k | ⟨c, f, sl, k⟩
        · exact .inl (hk1 b _ hbw k)
        · exact .inr ⟨c, f, sl, hk1 b _ hbw k⟩
      · have hbw : P ∉ wr := fun hb => by rw [Rd.new P hb] at e; cases e
        obtain ⟨m, k, t'⟩ := stp.tab P hP ps e t
        exact ⟨m, hk1 P _ hbw k, t'⟩
  · have hi' : i = items.length := Nat.le_antisymm hile (Nat.not_lt.mp hlt)
    subst hi'
    refine (Rd.walks A hh).done s' _ _ hst fun h' tk hk1 => ?_
    have R1 := R'.iter (s' := s') (tk := tk) hw (Rd.flds _ _ hst) hk1
    refine wpAny_execs_nil ⟨rfl, R1, ?_⟩
    refine ⟨fun b o hb1 hb2 e n => ?_, fun P hP ps e t => ?_⟩
    · have hbw : b ∉ wr := fun hb => by rw [Rd.new b hb] at e; cases e
      rcases stp.obj b o hb1 hb2 e n with k | ⟨c, f, sl, k⟩
      · exact .inl (hk1 b _ hbw k)
      · exact .inr ⟨c, f, sl, hk1 b _ hbw k⟩
    · have hbw : P ∉ wr := fun hb => by rw [Rd.new P hb] at e; cases e
      obtain ⟨m, k, t'⟩ := stp.tab P hP ps e t
      exact ⟨m, hk1 P _ hbw k, t'⟩
end
end Mine

open PySem PySem.W PySem.Calls PyProof.Rows
set_option Elab.async false
set_option linter.unusedVariables false
namespace Mine

def closTo (env : Env) : List (Str × NameKind) → List (Str × Addr) → List (Str × Addr)
  | [], acc => acc
  | (n, k) :: r, acc => if k == .free then closTo env r ((n, (env.cells.lookup n).getD 0) :: acc) else closTo env r acc

theorem closTo_get {env : Env} {n : Str} {c : Addr} : ∀ {names : List (Str × NameKind)} {acc : List (Str × Addr)}, (∀ x ∈ names, x.2 = .free → (env.cells.lookup x.1).isSome = true) →
    (env.cells.lookup n = some c) → ((n, NameKind.free) ∈ names ∨ acc.lookup n = some c) → (∀ m d, acc.lookup m = some d → env.cells.lookup m = some d) → (closTo env names acc).lookup n = some c
  | [], acc, _, _, h, _ => by simpa [closTo] using h
  | (m, k) :: r, acc, hf, hc, h, ha => by
    have hr : ∀ x ∈ r, x.2 = .free → (env.cells.lookup x.1).isSome = true := fun x hx => hf x (.tail _ hx)
    by_cases hk : k = .free
    · subst hk
      have hm := hf (m, .free) (.head _) rfl
      obtain ⟨d, hd⟩ := Option.isSome_iff_exists.mp hm
      have hd : env.cells.lookup m = some d := hd
      have e : closTo env ((m, .free) :: r) acc = closTo env r ((m, d) :: acc) := by
        show (if (NameKind.free == .free) = true then _ else _) = _
        rw [if_pos (by decide), hd]; rfl
      rw [e]
      refine closTo_get hr hc ?_ ?_
      · by_cases hn : n = m
        · subst hn
          rw [hc] at hd; cases hd
          exact .inr (by simp [List.lookup_cons])
        · rcases h with h | h
          · rcases List.mem_cons.mp h with h | h
            · cases h; exact absurd rfl hn
            · exact .inl h
          · exact .inr (by rw [List.lookup_cons, beq_false_of_ne hn]; exact h)
      · intro y z hyz
        rw [List.lookup_cons] at hyz
        by_cases hy : y = m
        · subst hy
          simp only [beq_self_eq_true] at hyz
          cases hyz; exact hd
        · rw [beq_false_of_ne hy] at hyz
          exact ha y z hyz
    · have hkb : (k == NameKind.free) = false := by cases k <;> first | rfl | exact absurd rfl hk
      have e : closTo env ((m, k) :: r) acc = closTo env r acc := by
        show (if (k == .free) = true then _ else _) = _
        rw [if_neg (by rw [hkb]; nofun)]
      rw [e]
      refine closTo_get hr hc ?_ ha
      rcases h with h | h
      · rcases List.mem_cons.mp h with h | h
        · cases h; exact absurd rfl hk
        · exact .inl h
      · exact .inr h

theorem closureFor_ok {scope : Scope} {env : Env} (hf : ∀ x ∈ scope.names, x.2 = .free → (env.cells.lookup x.1).isSome = true) : closureFor scope env = pure (closTo env scope.names []) := by
  have go : ∀ (l : List (Str × NameKind)) (acc : List (Str × Addr)), (∀ x ∈ l, x.2 = .free → (env.cells.lookup x.1).isSome = true) →
      (forIn l acc fun (x : Str × NameKind) r => if (x.2 == NameKind.free) = true then do let a ← cellOf env x.1; pure (ForInStep.yield ((x.1, a) :: r)) else pure (ForInStep.yield r) : Sem (List (Str × Addr))) = pure (closTo env l acc) := by
    intro l
    induction l with
    | nil => intro acc _; rfl
    | cons x r ih =>
      intro acc h
      obtain ⟨m, k⟩ := x
      rw [List.forIn_cons]
      by_cases hk : k = .free
      · subst hk
        obtain ⟨d, hd⟩ := Option.isSome_iff_exists.mp (h (m, .free) (.head _) rfl)
        have hd : env.cells.lookup m = some d := hd
        have e : cellOf env m = pure d := by unfold cellOf; rw [hd]
        have e2 : closTo env ((m, .free) :: r) acc = closTo env r ((m, d) :: acc) := by
          show (if (NameKind.free == .free) = true then _ else _) = _
          rw [if_pos (by decide), hd]; rfl
        rw [e2, ← ih _ fun x hx => h x (.tail _ hx)]
        simp only [e]
        rfl
      · have hkb : (k == NameKind.free) = false := by cases k <;> first | rfl | exact absurd rfl hk
        have e : closTo env ((m, k) :: r) acc = closTo env r acc := by
          show (if (k == .free) = true then _ else _) = _
          rw [if_neg (by rw [hkb]; nofun)]
        rw [e, ← ih _ fun x hx => h x (.tail _ hx)]
        simp only [hkb]
        rfl
  have := go scope.names [] hf
  unfold closureFor
  rw [← this]
  simp only [bind_pure]

section
variable {prog : Program} {w : World} {H : Heap} {b : Bool} {A : Around} {env : Env} {ρ ρ' : Rho}

/-- a block's names -/
structure CompOk (env : Env) (scope : Scope) (x : Str) (cap : Rho) : Prop where
  free : ∀ y ∈ scope.names, y.2 = .free → (env.cells.lookup y.1).isSome = true
  cell : ∀ y ∈ scope.names, y.2 ≠ .cell
  kind : scope.kind = .function
  names : ∀ y ∈ scope.names, y.2 = .local → scope.names.lookup y.1 = some .local
  x : scope.names.lookup x = some .local
  cap : ∀ q ∈ cap, scope.names.lookup q.1 = some .free ∧ env.kindOf q.1 = some .cell

theorem lookup_relabel_free {env : Env} (hkd : env.scope.kind = .function) : ∀ {names : List (Str × NameKind)} {y : Str}, names.lookup y = some .free → env.kindOf y = some .cell →
    (names.map fun (n, k) => if (k == NameKind.free && env.scope.kind == .function && env.kindOf n == some .cell) then (n, NameKind.cell) else (n, k)).lookup y = some .cell := by
  intro names y h hc
  induction names with
  | nil => cases h
  | cons q r ih =>
    rw [List.map_cons]
    by_cases hy : y = q.1
    · have hk : q.2 = .free := by simpa [List.lookup, hy] using h
      rw [hy] at hc ⊢
      simp [List.lookup, hkd, hc, hk]
    · have away : ∀ (k : NameKind) (l : List (Str × NameKind)), List.lookup y ((q.1, k) :: l) = l.lookup y := fun k l => by rw [List.lookup_cons, beq_false_of_ne hy]
      have rest := ih ((away q.2 r).symm.trans h)
      dsimp only
      split
      · exact (away _ _).trans rest
      · exact (away _ _).trans rest

theorem comp_quiet {s : Shared} {s₂ : Shared} {scope : Scope} {x : Str} {elt : Expr} {cap : Rho} {items : List PV} {g : PV → PV} {wr : List Addr} (hE : EnvOk env) (hC : CompOk env scope x cap) (hcap : ∀ q ∈ cap, ρ.lookup q.1 = some q.2)
    (S : St H w true A env ρ s) (kk : Keeps s s₂) (hwr : ∀ b ∈ wr, s.heap.get? b = none)
    (hel : ∀ cenv, EnvOk cenv → cenv.scope = relabel scope env → ∀ p ∈ items, Ev prog w H true A cenv ((x, p) :: cap) elt (g p))
    (hpr : ∀ p ∈ items, (g p).isPrim = true) :
    QuietOnC prog w A env scope (closTo env scope.names []) x [] elt wr (fun i v => ∃ p, items[i]? = some p ∧ Prim v p) (fun _ => true) (fun v y => ∃ p, Prim v p ∧ Prim y (g p)) s₂ where
  tests := fun C i v s₃ m₃ E' _ _ _ _ _ _ => by
    exact wpAny_pure ⟨rfl, Keeps.rfl' _⟩
  elt := fun C i v s₃ m₃ E' hle hP _ hns hm hk _ => by
    obtain ⟨p, hp, hv⟩ := hP
    have k2 : ∀ b o, s.heap.get? b = some o → s₃.heap.get? b = some o := fun b o e => hk b o (fun hb => by rw [hwr b hb] at e; cases e) (Keeps.kk kk b o e)
    have hkc : (compEnvC scope (closTo env scope.names []) C env).scope = relabel scope env := rfl
    have hmem := List.mem_of_getElem? hp
    have hEc : EnvOk (compEnvC scope (closTo env scope.names []) C env) := ⟨hC.kind, hE.globals, hE.builtins⟩
    refine wpAny_mono (hel _ hEc hkc p hmem s₃ E' ⟨⟨S.top.grow (fs := []) (by simp) (.of_keeps k2), nofun, nofun⟩, fun y q e => ?_⟩) (fun y s₄ h4 => ⟨⟨p, hv, h4.2.prim (hpr p hmem)⟩, h4.1⟩) fun _ _ x => x
    rw [List.lookup_cons] at e
    by_cases hy : y = x
    · subst hy
      simp only [beq_self_eq_true] at e
      cases e
      exact .inl ⟨lookup_relabel_local hC.x, m₃, v, hns, hm, hv.rep⟩
    · rw [beq_false_of_ne hy] at e
      have hq := mem2 e
      obtain ⟨h1, h2⟩ := hC.cap _ hq
      rcases S.vars y q (hcap _ hq) with ⟨a, _⟩ | ⟨a, c, v', b, d, r⟩
      · rw [show env.kindOf y = _ from h2] at a; cases a
      · exact .inr ⟨lookup_relabel_free hE.kind h1 h2, c, v', closTo_get hC.free b (.inl (mem2 h1)) (by intro m d e; cases e), ⟨_, k2 _ _ d.choose_spec.1, d.choose_spec.2⟩, r.grow (.of_keeps (fs := []) k2)⟩

theorem paired_prims {g : PV → PV} : ∀ {vs ys : List Value} {items : List PV}, vs.length = items.length → (∀ (j : Nat) (v : Value), vs[j]? = some v → ∃ p, items[j]? = some p ∧ Prim v p) → Paired (fun v y => ∃ p, Prim v p ∧ Prim y (g p)) vs ys → Prims ys (items.map g)
  | [], _, items, hl, _, .nil => by
    cases items with
    | nil => exact .nil
    | cons => simp at hl
  | v :: vs, y :: ys, items, hl, hP, .cons f r => by
    cases items with
    | nil => simp at hl
    | cons p ps =>
      obtain ⟨q, h1, h2⟩ := f
      obtain ⟨p', h3, h4⟩ := hP 0 v rfl
      simp at h3
      subst h3
      have := h1.inj h4
      subst this
      exact .cons h2 (paired_prims (by simpa using hl) (fun j v h => by simpa using hP (j + 1) v (by simpa using h)) r)

theorem filter_all {α : Type} : ∀ (l : List α), l.filter (fun _ => true) = l
  | [] => rfl
  | a :: l => by rw [List.filter_cons, if_pos rfl, filter_all l]

theorem Ev.comp {elt iter : Expr} {x : Str} {px : Pos} {scope : Scope} {pos : Pos} {items : List PV} (cap : Rho) (g : PV → PV) (hi : ItEv prog w H A env ρ iter items) (hh : A.handled = Option.none) (hE : EnvOk env) (hC : CompOk env scope x cap)
    (hcap : ∀ q ∈ cap, ρ.lookup q.1 = some q.2)
    (hel : ∀ cenv, EnvOk cenv → cenv.scope = relabel scope env → ∀ p ∈ items, Ev prog w H true A cenv ((x, p) :: cap) elt (g p))
    (hpr : ∀ p ∈ items, (g p).isPrim = true) (hsz : items.length ≤ sizeLine)
    (hs : ∀ v, foldedSetIterable iter env v = pure v := by intro _; rfl) : Ev prog w H b A env ρ (.ListComp elt [⟨.Name x px, iter, [], 0⟩] scope pos) (.list (items.map g)) := Ev.up fun s E S => by
  refine wpAny_ListComp_free (fun _ => true) (fun v y => ∃ p, Prim v p ∧ Prim y (g p)) (closureFor_ok hC.free) hC.cell hC.kind hC.names hC.x ?_ hs
  refine wpAny_mono (hi s E S) (fun xv s₁ h1 => wpAny_mono h1 (fun it s₂ h2 => ?_) fun _ _ x => x) fun _ _ x => x
  obtain ⟨k, Ia, fp, wr, S', rfl, Rd⟩ := h2
  refine ⟨Ia, fp, wr, items.length, _, S', rfl, Rd.walks A hh, hsz, Rd.start, Rd.low, comp_quiet hE hC hcap S k Rd.new hel hpr, ?_⟩
  intro D h' tk ys vs hD hl _ hlen hP hF hk
  rw [filter_all] at hF
  have k2 : ∀ b o, s.heap.get? b = some o → h'.get? b = some o := fun b o e => hk b o (fun hb => by rw [Rd.new b hb] at e; cases e) (Keeps.kk k b o e)
  obtain ⟨h0, t0, e0, _⟩ := k
  subst e0
  exact ⟨Keeps.mk' (s := s) k2, D, ys.toList, rfl, by simpa using hl, paired_prims hlen hP hF⟩

theorem swaps_true {elt : Expr} {gens : List Comprehension} {scope : Scope} {pos py : Pos} {y : Str} {line : Nat} (hE : EnvOk env) (hy : env.kindOf y = some .local) (hl : (py.line == pos.line) = true)
    (hn : (scope.names.any fun (n, k) => n == y && (k == .local || k == .cell)) = false) : swapsWith (.ListComp elt gens scope pos) (some (.Name y py)) line env = pure true := by
  show (pure (env.blockKind == .function && env.kindOf y == some .local && py.line == pos.line && !(scope.names.any fun (n, k) => n == y && (k == .local || k == .cell))) : Sem Bool) = pure true
  have hb : (env.blockKind == ScopeKind.function) = true := by
    unfold Env.blockKind
    rw [hE.kind]
    rfl
  rw [hb, hy, hl, hn]
  rfl

theorem Ex1.comp {elt iter : Expr} {x y : Str} {px py : Pos} {scope : Scope} {pos spos : Pos} {items : List PV} (cap : Rho) (g : PV → PV) (hi : ItEv prog w H A env ρ iter items) (hh : A.handled = Option.none) (hE : EnvOk env) (hC : CompOk env scope x cap)
    (hcap : ∀ q ∈ cap, ρ.lookup q.1 = some q.2) (hy : env.kindOf y = some .local)
    (hel : ∀ cenv, EnvOk cenv → cenv.scope = relabel scope env → ∀ p ∈ items, Ev prog w H true A cenv ((x, p) :: cap) elt (g p))
    (hpr : ∀ p ∈ items, (g p).isPrim = true) (hsz : items.length ≤ sizeLine)
    (hsw : swapsWith (.ListComp elt [⟨.Name x px, iter, [], 0⟩] scope pos) (some (.Name y py)) spos.line env = pure true)
    (hs : ∀ v, foldedSetIterable iter env v = pure v := by intro _; rfl) : Ex1 prog w H A env ρ (.Assign [.Name y py] (.ListComp elt [⟨.Name x px, iter, [], 0⟩] scope pos) spos) (.next ((y, .list (items.map g)) :: ρ)) := fun s₀ s F R => by
  have S : St H w true A env ρ s := R.st F
  refine wpAny_Assign_ListComp_free (fun _ => true) (fun v y => ∃ p, Prim v p ∧ Prim y (g p)) hsw (closureFor_ok hC.free) hC.cell hC.kind hC.names hC.x hy (by rw [hE.kind]; rfl) ?_ hs
  refine wpAny_mono (hi s _ S) (fun xv s₁ h1 => wpAny_mono h1 (fun it s₂ h2 => ?_) fun _ _ x => x) fun _ _ x => x
  obtain ⟨k, Ia, fp, wr, S', rfl, Rd⟩ := h2
  obtain ⟨m, hn⟩ := R.ns
  have hLw : env.locals ∉ wr := fun hb => by obtain ⟨o, es, ep, e, _⟩ := hn; rw [Rd.new _ hb] at e; cases e
  have kk := Keeps.kk k
  refine ⟨Ia, fp, wr, items.length, _, S', m, rfl, Rd.walks A hh, hsz, Rd.start, Rd.low, hLw, hn.at' fun o e => kk _ _ e, comp_quiet hE hC hcap S k Rd.new hel hpr, ?_⟩
  intro D h' tk ys vs hD hl _ hlen hP hF hn' hk
  rw [filter_all] at hF
  have hx : Heap.ExtBut env.locals s.heap h' := fun b o hb e => hk b o hb (fun hbw => by rw [Rd.new b hbw] at e; cases e) (kk b o e)
  have hLl : ∀ xs, ¬ s.heap.IsList env.locals xs := fun xs ⟨o, e, _, _, hd⟩ => by
    obtain ⟨o', es, ep, e', hd', _⟩ := hn; rw [e] at e'; cases e'; rw [hd] at hd'; cases hd'
  have hLt : ∀ xs, ¬ IsTup s.heap env.locals xs := fun xs ⟨o, e, _, _, hd⟩ => by
    obtain ⟨o', es, ep, e', hd', _⟩ := hn; rw [e] at e'; cases e'; rw [hd] at hd'; cases hd'
  have hLc : ∀ c v, s.heap.IsCell c v → c ≠ env.locals := fun c v ⟨o, e, hd⟩ q => by
    subst q; obtain ⟨o', es, ep, e', hd', _⟩ := hn; rw [e] at e'; cases e'; rw [hd] at hd'; cases hd'
  have hc' : ∀ c v, s.heap.IsCell c v → h'.IsCell c v := fun c v hc => by
    have := hLc c v hc
    obtain ⟨o, e, hd⟩ := hc
    exact ⟨o, hx c o this e, hd⟩
  obtain ⟨h0, t0, e0, _⟩ := k
  subst e0
  refine ⟨rfl, ⟨⟨R.kp.grow.but F.new hx, R.kp.os, R.kp.gens⟩, ⟨_, hn'⟩, fun n c e => ?_, fun z q e => ?_⟩, ⟨fun b o h1 _ e _ => .inl (hx b o h1 e), fun P hP ps e t => ⟨#[], ?_, by simpa using t⟩⟩⟩
  · obtain ⟨v', x'⟩ := R.cellsIn n c e
    exact ⟨v', hc' _ _ x'⟩
  · rw [List.lookup_cons] at e
    by_cases hzy : z = y
    · subst hzy
      simp only [beq_self_eq_true] at e
      cases e
      exact .inl ⟨hy, _, .ref D, hn', by simp, ⟨D, ys.toList, rfl, by simpa using hl, paired_prims hlen hP hF⟩⟩
    · rw [beq_false_of_ne hzy] at e
      rcases R.vars z q e with ⟨a, m₁, v₁, b, c, d⟩ | ⟨a, c₁, v₁, b, c, d⟩
      · rw [ns_unique b hn] at c
        exact .inl ⟨a, _, v₁, hn', by simp [hzy, c], d.but hx hLl hLt⟩
      · exact .inr ⟨a, c₁, v₁, b, hc' _ _ c, d.but hx hLl hLt⟩
  · have := hx P _ (fun q => by
      subst q
      have e2 := e
      obtain ⟨o, es, ep, e', d, _⟩ := hn
      rw [e'] at e2; cases e2; cases d) e
    simpa using this
end
end Mine

open PySem PySem.W PySem.Calls PyProof.Rows
set_option Elab.async false
set_option linter.unusedVariables false
namespace Mine

section
variable {prog : Program} {w : World} {H : Heap} {b : Bool} {A : Around} {env : Env} {ρ ρ' : Rho}

theorem kpush (s : Shared) (o : Obj) {tk : Nat} : Keeps s { s with heap := s.heap.push o, toks := tk } := Keeps.mk' fun _ _ e => Heap.get?_push_of_some _ e
theorem kpush' (s : Shared) (o : Obj) : Keeps s { s with heap := s.heap.push o } := Keeps.hp fun _ _ e => Heap.get?_push_of_some _ e

/-! lists -/
/-- a list on the heap, written out -/
theorem list_at {h : Heap} {a : Addr} {xs : Array Value} : h.IsList a xs → ∃ n d sl, h.get? a = some ⟨.type "list", d, .seq xs n, sl⟩
  | ⟨⟨_, d, _, sl⟩, at_, c, n, e⟩ => ⟨n, d, sl, by cases c; cases e; exact at_⟩
theorem op_addL {l l' : List PV} (hz : l.length + l'.length ≤ sizeLine) : Op2 prog w H b A .Add (.list l) (.list l') (.list (l ++ l')) := by
  rintro s _ _ E P ⟨a, vs, rfl, la, pa⟩ ⟨c, us, rfl, lc, pc⟩
  obtain ⟨n, d, sl, ga⟩ := list_at la
  obtain ⟨n', d', sl', gc⟩ := list_at lc
  have fits : vs.toArray.size + us.toArray.size ≤ sizeLine := by rwa [List.size_toArray, List.size_toArray, pa.length, pc.length]
  have made : ∀ zs : Array Value, zs = (vs ++ us).toArray → ∀ k : Keeps s _, Kb (fsOf A) b s { s with heap := s.heap.push { cls := .type "list", data := .seq zs } } ∧ Rep (s.heap.push { cls := .type "list", data := .seq zs }) (.ref s.heap.objs.size) (.list (l ++ l')) := fun zs e k =>
    e ▸ ⟨.of_keeps (e ▸ k), _, vs ++ us, rfl, ⟨_, Heap.get?_push_size _ rfl, rfl, _, rfl⟩, pa.append pc⟩
  exact concat_meets ⟨_, ga, rfl⟩ ⟨_, gc, rfl⟩ noFill_list_add seq_list_add PySem.F.slot_list_add PySem.F.entry_list_add (PySem.F.args_list_add_2 _ _) (list_addW a c _ _ n n' d d' sl sl' fits)
    ⟨ga, gc, made _ (List.append_toArray _ _) (kpush _ _)⟩

theorem foldl_app (vs : List Value) (k : Nat) (acc : Array Value) : List.foldl (fun x1 x2 => x1 ++ x2) acc (List.replicate k vs.toArray) = acc ++ (List.replicate k vs).flatten.toArray := by
  induction k generalizing acc with
  | zero => exact Array.append_empty.symm
  | succ k ih =>
    show List.foldl _ (acc ++ vs.toArray) (List.replicate k vs.toArray) = acc ++ (vs ++ (List.replicate k vs).flatten).toArray
    rw [ih, Array.append_assoc]
    exact congrArg _ (List.append_toArray _ _)
theorem Prims.rep {vs : List Value} {ps : List PV} (h : Prims vs ps) : ∀ k, Prims (List.replicate k vs).flatten (List.replicate k ps).flatten
  | 0 => .nil
  | k + 1 => by
    rw [List.replicate_succ, List.flatten_cons, List.replicate_succ, List.flatten_cons]
    exact h.append (Prims.rep h k)


set_option maxRecDepth 100000 in
theorem Ev.mulDisp {es : List Expr} {r : Expr} {lp pos : Pos} {ps : List PV} {x : Int} (ha : EvA prog w H b A env ρ es ps) (hp : ps.all PV.isPrim = true) (hr : Ev prog w H true A env ρ r (.int x)) (hz : ps.length * x.toNat ≤ 4096) (hx0 : 0 ≤ x) (hk : x ≤ 4096) (hz1 : ps.length ≤ 4096) (h0 : 0 < ps.length) :
    Ev prog w H b A env ρ (.BinOp (.List es lp) .Mult r pos) (.list (List.replicate x.toNat ps).flatten) := fun s E S => by
  refine wpAny_BinOp (List_ (wpAny_mono (ha s E lp S) (fun vs s₁ h1 => ?_) fun _ _ x => x))
  have pr := h1.2.prims hp
  refine wpAny_newObj_type ?_ (by show vs.toArray.size ≤ sizeLine; rw [List.size_toArray, pr.length]; exact Nat.le_trans hz1 (by decide))
  have k1 : Kb (fsOf A) b s { s₁ with heap := s₁.heap.push { cls := .type "list", data := .seq vs.toArray } } := h1.1.trans (.of_keeps (kpush' _ _))
  refine wpAny_mono (hr _ E (S.kb k1).up) (fun u s₂ h2 => ?_) fun _ _ x => x
  obtain ⟨k2, t, rfl⟩ := h2
  have hl : s₂.heap.get? s₁.heap.objs.size = some { cls := .type "list", dict := Option.none, data := .seq vs.toArray 0, slots := #[] } := Keeps.kk k2 _ _ (Heap.get?_push_size _ rfl)
  have hsz : vs.toArray.size = ps.length := by rw [List.size_toArray, pr.length]
  have hN : vs.toArray.size * x.toNat ≤ 4096 := by rw [hsz]; exact hz
  have hne : vs.toArray.isEmpty = false := by rw [Array.isEmpty_eq_false_iff]; intro e; rw [e] at hsz; simp at hsz; omega
  have M := AutoListH.list___mul___list_int_3 s₁.heap.objs.size vs.toArray 0 x t (by simp [Builtin.List.listFitsIndex]; omega) (by omega) (by simp [Builtin.List.listTooLong, sizeLine] at hN ⊢; omega)
  refine wpAny_binaryOp_repeat_ref (T := "list") (U := "int") (by decide) ⟨_, hl, rfl⟩ (fun s' => typeIs_int s' _ t) noFill_list_mul PySem.F.fills_int_mul PySem.F.slot_int_rmul repeat_list PySem.F.slot_int_index.lookup
    (call_meets PySem.F.slot_int_rmul (typeIs_int s₂ _ t) PySem.F.entry_int_rmul (PySem.F.args_int_rmul_2 _ _) (int___rmul___int_list x t s₁.heap.objs.size vs.toArray 0)
      ⟨hl, rfl, ⟨_, hl, rfl⟩, call_meets PySem.F.slot_list_mul ⟨_, hl, rfl⟩ PySem.F.entry_list_mul (PySem.F.args_list_mul_2 _ _) M
        ⟨hl, ?_⟩⟩)
  rw [hne]
  have e : List.foldl (fun x1 x2 => x1 ++ x2) #[] (List.replicate (if false = true then 0 else x.toNat) vs.toArray) = ((List.replicate x.toNat vs).flatten).toArray := by
    rw [foldl_app]; simp
  rw [e]
  exact ⟨k1.trans (.of_keeps (Keeps.tr k2 (kpush _ _))), _, (List.replicate x.toNat vs).flatten, rfl, ⟨_, Heap.get?_push_size _ rfl, rfl, _, rfl⟩, pr.rep _⟩

/-- a starred list at the front -/
theorem EvA.star {e : Expr} {rest : List Expr} {p : Pos} {l ps : List PV} (h : Ev prog w H b A env ρ e (.list l)) (hz : l.length ≤ sizeLine) (h' : EvA prog w H b A env ρ rest ps)
    (he : starEach (.Starred e p :: rest) env = (true, eval e env) :: starEach rest env := by rfl) : EvA prog w H b A env ρ (.Starred e p :: rest) (l ++ ps) := fun s E pos S => by
  refine items_star (wpAny_mono (h s E S) (fun v s₁ h1 => ?_) fun _ _ x => x) he
  obtain ⟨k, a, vs, rfl, ⟨o, D, hc, n, hd⟩, pl⟩ := h1
  have hT' : s₁.TypeIs (.ref a) "list" := ⟨o, D, hc⟩
  have z : wpAny (model prog w) A (collect (.ref a)) (fun here s₂ => wpAny (model prog w) A (spliced (backTo pos (starEach rest env))) (fun vs' s₃ => Kb (fsOf A) b s s₃ ∧ Reps s₃.heap (here ++ vs') (l ++ ps)) E s₂) E s₁ := by
    refine wpAny_collect_seq a (.inl rfl) D hc hd (fun h₂ hk => ?_) (by simpa [pl.length] using hz)
    have k2 : Keeps s₁ { s₁ with heap := h₂ } := Keeps.hp hk
    have kk := k.trans (Kb.of_keeps (fs := fsOf A) (b := b) k2)
    refine wpAny_mono (h' _ E pos (S.kb kk)) (fun vs' s₃ h3 => ⟨kk.trans h3.1, ?_⟩) fun _ _ x => x
    have : ∀ {us : List Value} {qs : List PV}, Prims us qs → Reps s₃.heap us qs := fun r => by
      induction r with
      | nil => exact .nil
      | cons a _ ih => exact .cons a.rep ih
    exact (this (by simpa using pl)).append h3.2
  show wpAny (model prog w) A (notIterableAtAll (.ref a)) _ E s₁
  unfold notIterableAtAll
  exact wpAny_bind (wpAny_specialOf hT' PySem.F.slot_list_iter.lookup (wpAny_pure ⟨rfl, z⟩))

/-! subscripts -/
theorem Ev.subL {value slice : Expr} {pos : Pos} {l : List PV} {i : Int} {p : PV} (h : Ev prog w H b A env ρ value (.list l)) (h' : Ev prog w H b A env ρ slice (.int i)) (h0 : 0 ≤ i) (hfit : i < 2 ^ 63) (hx : l[i.toNat]? = some p)
    (hs : ∀ a t, subscripted slice false (.ref a) (.int i t) = operate [.ref a, .int i t] (getItem (.ref a) (.int i t)) := by intro _ _; with_unfolding_all rfl) : Ev prog w H b A env ρ (.Subscript value slice pos) p := fun s E S => by
  refine Subscript_ (wpAny_mono (h s E S) (fun v s₁ h1 => wpAny_mono (h' s₁ E (S.kb h1.1)) (fun i s₂ h2 => ?_) fun _ _ x => x) fun _ _ x => x)
  have h1' := h1.2.grow h2.1.kp.grow
  obtain ⟨a, vs, rfl, hl, pl⟩ := h1'
  obtain ⟨k2, t, rfl⟩ := h2
  obtain ⟨v, hv, hp⟩ := pl.get' _ _ hx
  refine tail_any hl.typeIs list_getitem_lookup (wpAny_getItem_list hl h0 hfit (by simpa using hv) ⟨h1.1.trans k2, hp.rep⟩) (hs _ _)
theorem Ev.subS {value slice : Expr} {pos : Pos} {x : Str} {i : Int} {c : Nat} (h : Ev prog w H b A env ρ value (.str x)) (h' : Ev prog w H b A env ρ slice (.int i)) (h0 : 0 ≤ i) (hfit : i < 2 ^ 63) (hx : x.cps[i.toNat]? = some c)
    (hs : ∀ a t u, subscripted slice false (.str a t) (.int i u) = operate [.str a t, .int i u] (getItem (.str a t) (.int i u)) := by intro _ _ _; with_unfolding_all rfl) : Ev prog w H b A env ρ (.Subscript value slice pos) (.str (chr1 c)) := fun s E S => by
  refine Subscript_ (wpAny_mono (h s E S) (fun v s₁ h1 => wpAny_mono (h' s₁ E (S.kb h1.1)) (fun i s₂ h2 => ?_) fun _ _ x => x) fun _ _ x => x)
  obtain ⟨k1, t, rfl⟩ := h1
  obtain ⟨k2, u, rfl⟩ := h2
  have hlt : i.toNat < x.cps.size := by
    by_cases hh : i.toNat < x.cps.size
    · exact hh
    · rw [Array.getElem?_eq_none (Nat.not_lt.mp hh)] at hx; cases hx
  have hl : x.length = x.cps.size := rfl
  refine tail_any (typeIs_str _ _ _) PySem.F.slot_str_getitem.lookup (P.getItem_str (c := c) ?_ ?_ ⟨k1.trans (k2.trans (.of_keeps Keeps.tk)), _, rfl⟩) (hs _ _ _)
  · rw [Bool.or_eq_false_iff, decide_eq_false_iff_not, decide_eq_false_iff_not]; omega
  · unfold seqIndex?
    have e1 : ¬ i < 0 := by omega
    have e2 : (i.toNat : Int) = i := Int.toNat_of_nonneg h0
    have e3 : 0 ≤ i := h0
    rw [Array.getElem?_eq_getElem hlt] at hx
    simp [e1, e3, hl, show i < x.cps.size by omega, Option.some.inj hx]

/-! slices -/
def cut {α : Type} (lo hi : Option Int) (l : List α) : List α :=
  (sliceRange (sliceBounds lo hi none l.length).1 (sliceBounds lo hi none l.length).2.1 (sliceBounds lo hi none l.length).2.2).filterMap (l[·]?)
theorem Prims.fm {vs : List Value} {ps : List PV} (h : Prims vs ps) : ∀ idx : List Nat, Prims (idx.filterMap (vs[·]?)) (idx.filterMap (ps[·]?))
  | [] => .nil
  | i :: r => by
    have ih := Prims.fm h r
    rw [List.filterMap_cons, List.filterMap_cons]
    cases e : vs[i]? with
    | none =>
      have : ps[i]? = none := by
        rw [List.getElem?_eq_none_iff] at e ⊢
        rw [← h.length]; exact e
      rw [this]; exact ih
    | some v =>
      obtain ⟨p, hp, hv⟩ := h.get i v e
      rw [hp]; exact .cons hv ih
theorem Prims.cut {vs : List Value} {ps : List PV} (h : Prims vs ps) (lo hi : Option Int) : Prims (slicePick vs.toArray lo hi none).toList (Mine.cut lo hi ps) := by
  unfold slicePick Mine.cut
  rw [List.size_toArray, h.length]
  have := h.fm (sliceRange (sliceBounds lo hi none ps.length).1 (sliceBounds lo hi none ps.length).2.1 (sliceBounds lo hi none ps.length).2.2)
  simpa using this

/-- an end of a slice -/
def Part (prog : Program) (w : World) (H : Heap) (b : Bool) (A : Around) (env : Env) (ρ : Rho) : Option Expr → Option Int → Prop
  | .none, i => i = .none
  | .some e, i => ∃ k, i = .some k ∧ Ev prog w H b A env ρ e (.int k)
theorem Part.ev {x : Option Expr} {i : Option Int} (h : Part prog w H b A env ρ x i) (s : Shared) (E : Value → Shared → Prop) (S : St H w b A env ρ s) : wpAny (model prog w) A (evalPart x env) (fun v s' => Kb (fsOf A) b s s' ∧ ∃ t, (i = .none ∧ v = .none) ∨ (∃ k, i = .some k ∧ v = .int k t)) E s := by
  cases x with
  | none => exact wpAny_pure ⟨Kb.refl _ _ _, 0, .inl ⟨h, rfl⟩⟩
  | some e =>
    obtain ⟨k, rfl, he⟩ := h
    exact wpAny_mono (he s E S) (fun v s' h' => ⟨h'.1, let ⟨t, e⟩ := h'.2; ⟨t, .inr ⟨k, rfl, e⟩⟩⟩) fun _ _ x => x
theorem Ev.sliceL {value : Expr} {lower upper : Option Expr} {p pos : Pos} {l : List PV} {lo hi : Option Int} (h : Ev prog w H b A env ρ value (.list l)) (h1 : Part prog w H b A env ρ lower lo) (h2 : Part prog w H b A env ρ upper hi) (hz : l.length ≤ sizeLine)
    (ht : ∀ o r, letTemporaryGo value o r = pure () := by intro _ _; rfl) :
    Ev prog w H b A env ρ (.Subscript value (.Slice lower upper .none p) pos) (.list (cut lo hi l)) := fun s E S => by
  refine wpAny_Subscript_list_slice (wpAny_mono (h s E S) (fun o s₁ k1 => wpAny_mono (h1.ev s₁ E (S.kb k1.1)) (fun vl s₂ k2 => wpAny_mono (h2.ev s₂ E (S.kb (k1.1.trans k2.1))) (fun vu s₃ k3 => ?_) fun _ _ x => x) fun _ _ x => x) fun _ _ x => x) ht
  have kk := (k1.1.trans k2.1).trans k3.1
  obtain ⟨a, vs, rfl, hl, pl⟩ := k1.2.grow (k2.1.trans k3.1).kp.grow
  obtain ⟨_, t, e1⟩ := k2
  obtain ⟨_, t', e2⟩ := k3
  refine ⟨a, vs.toArray, lo, hi, rfl, hl, by simpa [pl.length] using hz, ?_, ?_, kk.trans (.of_keeps (Keeps.hp fun _ _ e => Heap.get?_push_of_some _ (Heap.get?_push_of_some _ e))), _, (slicePick vs.toArray lo hi Option.none).toList, rfl, ?_, pl.cut lo hi⟩
  · rcases e1 with ⟨rfl, rfl⟩ | ⟨k, rfl, rfl⟩
    · exact .none
    · exact .int _ _
  · rcases e2 with ⟨rfl, rfl⟩ | ⟨k, rfl, rfl⟩
    · exact .none
    · exact .int _ _
  · refine ⟨{ cls := .type "list", data := .seq (slicePick vs.toArray lo hi Option.none) }, ?_, rfl, 0, by rw [Array.toArray_toList]⟩
    rw [show s₃.heap.objs.size + 1 = (s₃.heap.push { cls := .type "slice", data := .fields #[vl, vu, .none] }).objs.size from (Heap.size_push ..).symm]
    exact Heap.get?_push_size _ rfl
theorem Ev.sliceS {value : Expr} {lower upper : Option Expr} {p pos : Pos} {x : Str} {lo hi : Option Int} (h : Ev prog w H b A env ρ value (.str x)) (h1 : Part prog w H b A env ρ lower lo) (h2 : Part prog w H b A env ρ upper hi) (hz : x.length ≤ sizeLine)
    (ht : ∀ o r, letTemporaryGo value o r = pure () := by intro _ _; rfl) :
    Ev prog w H b A env ρ (.Subscript value (.Slice lower upper .none p) pos) (.str (Txt.slice x lo hi)) := fun s E S => by
  refine wpAny_Subscript_Slice (T := "str") PySem.F.slot_str_getitem.lookup (wpAny_mono (h s E S) (fun o s₁ k1 => wpAny_Slice (wpAny_mono (h1.ev s₁ E (S.kb k1.1)) (fun vl s₂ k2 => wpAny_mono (h2.ev s₂ E (S.kb (k1.1.trans k2.1))) (fun vu s₃ k3 => ?_) fun _ _ x => x) fun _ _ x => x)) fun _ _ x => x) ht
  have kk := (k1.1.trans k2.1).trans k3.1
  obtain ⟨_, u, rfl⟩ := k1
  obtain ⟨_, t, e1⟩ := k2
  obtain ⟨_, t', e2⟩ := k3
  rw [evalPart_none]
  have key : ∀ lo' hi' : Option (Int × Tok), lo'.map (·.1) = lo → hi'.map (·.1) = hi → vl = partValue lo' → vu = partValue hi' →
      wpAny (model prog w) A (getItem (.str x u) (.ref s₃.heap.objs.size)) (fun v s' => Kb (fsOf A) b s s' ∧ Rep s'.heap v (.str (Txt.slice x lo hi))) E { s₃ with heap := s₃.heap.push { cls := .type "slice", data := .fields #[vl, vu, .none] } } := by
    rintro lo' hi' rfl rfl rfl rfl
    refine wpAny_getItem_str_slice (l := lo') (u := hi') (st := Option.none) ⟨_, Heap.get?_push_size _ rfl, rfl, rfl⟩ rfl (post_val_or_str ⟨Nat.le_trans (Txt.slice_le x _ _) hz, fun t' k => ⟨kk.trans (.of_keeps (kpush _ _)), t', rfl⟩⟩)
  refine wpAny_pure ⟨typeIs_str _ _ _, ?_⟩
  rcases e1 with ⟨rfl, rfl⟩ | ⟨k, rfl, rfl⟩
  · rcases e2 with ⟨rfl, rfl⟩ | ⟨k', rfl, rfl⟩
    · exact key Option.none Option.none rfl rfl rfl rfl
    · exact key Option.none (some (k', t')) rfl rfl rfl rfl
  · rcases e2 with ⟨rfl, rfl⟩ | ⟨k', rfl, rfl⟩
    · exact key (some (k, t)) Option.none rfl rfl rfl rfl
    · exact key (some (k, t)) (some (k', t')) rfl rfl rfl rfl
end
end Mine

open PySem PySem.W PySem.Calls PyProof.Rows
set_option Elab.async false
set_option linter.unusedVariables false
namespace Mine

section
variable {prog : Program} {w : World} {H : Heap} {b : Bool} {A : Around} {env : Env} {ρ ρ' : Rho}

/-! methods of a text -/
def MethS (name : Str) (id : String) : Prop := Slot "str" name id ∧ typeOf (.builtin id) = pure (.type "method_descriptor")
theorem m_upper : MethS "upper" "str.upper" := ⟨PySem.F.slot_str_upper, PySem.F.type_str_upper⟩
theorem m_lower : MethS "lower" "str.lower" := ⟨PySem.F.slot_str_lower, PySem.F.type_str_lower⟩
theorem m_rfind : MethS "rfind" "str.rfind" := ⟨PySem.F.slot_str_rfind, PySem.F.type_str_rfind⟩
theorem m_index : MethS "index" "str.index" := ⟨PySem.F.slot_str_index, PySem.F.type_str_index⟩
theorem m_join : MethS "join" "str.join" := ⟨PySem.F.slot_str_join, PySem.F.type_str_join⟩
theorem m_encode : MethS "encode" "str.encode" := ⟨PySem.F.slot_str_encode, PySem.F.type_str_encode⟩

def fewArgs (pos : Pos) (args : List Expr) (env : Env) : Bool :=
  (backTo pos (starEach args env)).all (fun x => !x.1) && (backToKw pos (keywordEach [] env)).all (fun x => x.1.isSome)
      && decide (args.length + ([] : List Keyword).length + (if ([] : List Keyword).isEmpty then 0 else 1) < 30)

theorem Ev.meth0 {o : Expr} {name : Str} {apos pos : Pos} {id : String} {x : Str} {r : PV} (ho : Ev prog w H b A env ρ o (.str x)) (hm : MethS name id) (hc : CallOk prog w H b A (.builtin id) [.str x] r)
    (hb : attributeBase o name env (eval o env) = eval o env := by rfl) (hf : fewArgs pos [] env = true := by rfl) (hli : (apos.endLine == pos.line) = true := by rfl) :
    Ev prog w H b A env ρ (.Call (.Attribute o name apos) [] [] pos) r := fun s E S => by
  refine wpAny_Call_method_lateS hb hf hli (wpAny_mono (ho s E S) (fun v s₁ h1 => ?_) fun _ _ x => x)
  obtain ⟨k, t, rfl⟩ := h1
  refine ⟨"str", id, PySem.F.plainAttrs_str, hm.1, hm.2, typeIs_str _ _ _, GM.noRef, ?_⟩
  exact callWith_method0 (wpAny_mono (hc s₁ _ E (S.kb k).toPre (.cons ⟨t, rfl⟩ .nil)) (fun z s₂ h2 => ⟨k.trans h2.1, h2.2⟩) fun _ _ x => x)

theorem Ev.meth1 {o e : Expr} {rest : List Expr} {name : Str} {apos pos : Pos} {id : String} {x : Str} {ps : List PV} {r : PV} (ho : Ev prog w H b A env ρ o (.str x)) (hm : MethS name id) (ha : EvA prog w H b A env ρ (e :: rest) ps)
    (hc : CallOk prog w H b A (.builtin id) (.str x :: ps) r)
    (hb : attributeBase o name env (eval o env) = eval o env := by rfl) (hf : fewArgs pos (e :: rest) env = true := by rfl) (hli : (apos.endLine == pos.line) = true := by rfl)
    (he1 : starEach (e :: rest) env = (false, eval e env) :: starEach rest env := by rfl) (hpl : (backTo pos (starEach rest env)).any (·.1) = false := by rfl) :
    Ev prog w H b A env ρ (.Call (.Attribute o name apos) (e :: rest) [] pos) r := fun s E S => by
  refine wpAny_Call_method_lateS hb hf hli (wpAny_mono (ho s E S) (fun v s₁ h1 => ?_) fun _ _ x => x)
  obtain ⟨k, t, rfl⟩ := h1
  refine ⟨"str", id, PySem.F.plainAttrs_str, hm.1, hm.2, typeIs_str _ _ _, GM.noRef, ?_⟩
  refine callWith_method1 (wpAny_mono (ha s₁ E pos (S.kb k)) (fun vs s₂ h2 => ?_) fun _ _ x => x) he1 hpl
  exact wpAny_mono (hc s₂ _ E (S.kb (k.trans h2.1)).toPre (.cons ⟨t, rfl⟩ h2.2)) (fun z s₃ h3 => ⟨(k.trans h2.1).trans h3.1, h3.2⟩) fun _ _ x => x

theorem c_upper {x : Str} (h : Builtin.Str.tooLong (Txt.upper x).length = false) : CallOk prog w H b A (.builtin "str.upper") [.str x] (.str (Txt.upper x)) := by
  rintro s vs E P (_ | ⟨⟨t, rfl⟩, _ | _⟩)
  exact SC.upper h ⟨.of_keeps Keeps.tk, _, rfl⟩
theorem c_lower {x : Str} (h : Builtin.Str.tooLong (Txt.lower x).length = false) : CallOk prog w H b A (.builtin "str.lower") [.str x] (.str (Txt.lower x)) := by
  rintro s vs E P (_ | ⟨⟨t, rfl⟩, _ | _⟩)
  exact SC.lower h ⟨.of_keeps Keeps.tk, _, rfl⟩
theorem c_rfind {x y : Str} : CallOk prog w H b A (.builtin "str.rfind") [.str x, .str y] (.int (Txt.rfind x y)) := by
  rintro s vs E P (_ | ⟨⟨t, rfl⟩, _ | ⟨⟨u, rfl⟩, _ | _⟩⟩)
  exact SC.rfind ⟨.of_keeps Keeps.tk, _, rfl⟩
theorem c_index {x y : Str} {i : Nat} {rest : List Nat} (h : Builtin.Str.occurrences x y 0 x.length 1 = i :: rest) : CallOk prog w H b A (.builtin "str.index") [.str x, .str y] (.int (i : Int)) := by
  rintro s vs E P (_ | ⟨⟨t, rfl⟩, _ | ⟨⟨u, rfl⟩, _ | _⟩⟩)
  exact SC.index h ⟨.of_keeps Keeps.tk, _, rfl⟩
theorem c_join {x : Str} {ys : List Str} (h : (ys.map (·.length)).sum + ys.length * x.length ≤ 16777216) : CallOk prog w H b A (.builtin "str.join") [.str x, .list (ys.map .str)] (.str (Txt.join x ys)) := by
  rintro s vs E P (_ | ⟨⟨t, rfl⟩, _ | ⟨⟨a, us, rfl, hl, pl⟩, _ | _⟩⟩)
  exact join_list hl (by simpa using pl.strs) h fun t' k => ⟨.of_keeps Keeps.tk, _, rfl⟩
theorem c_ord {c : Nat} : CallOk prog w H b A (.builtin "ord") [.str (chr1 c)] (.int (c : Int)) := by
  rintro s vs E P (_ | ⟨⟨t, rfl⟩, _ | _⟩)
  exact PySem.P.ord_of_char ⟨.of_keeps Keeps.tk, _, rfl⟩
theorem c_lenS {x : Str} (h : x.length ≤ sizeLine) : CallOk prog w H b A (.builtin "len") [.str x] (.int (x.length : Int)) := by
  rintro s vs E P (_ | ⟨⟨t, rfl⟩, _ | _⟩)
  exact PySem.P.len_str (by unfold sizeLine at h; omega) ⟨.of_keeps Keeps.tk, _, rfl⟩
theorem c_lenL {l : List PV} (h : l.length ≤ sizeLine) : CallOk prog w H b A (.builtin "len") [.list l] (.int (l.length : Int)) := by
  rintro s vs E P (_ | ⟨⟨a, us, rfl, hl, pl⟩, _ | _⟩)
  have e : us.toArray.size = l.length := by simp [pl.length]
  exact call_len_list hl (by rw [e]; unfold sizeLine at h; omega) ⟨.of_keeps Keeps.tk, _, by rw [e]⟩
theorem c_abs {i : Int} : CallOk prog w H b A (.builtin "abs") [.int i] (.int (if i < 0 then -i else i)) := by
  rintro s vs E P (_ | ⟨⟨t, rfl⟩, _ | _⟩)
  exact call_abs_int fun u tk => ⟨.of_keeps Keeps.tk, _, rfl⟩
theorem c_int {i : Int} : CallOk prog w H b A (.type "int") [.int i] (.int i) := by
  rintro s vs E P (_ | ⟨⟨t, rfl⟩, _ | _⟩)
  exact call_int_int ⟨Kb.refl _ _ _, _, rfl⟩

/-! encode -/
def bytesOf (x : Str) : Array UInt8 := x.cps.foldl (fun acc y => acc ++ [y.toUInt8].toArray) #[]
theorem size_bytesOf (x : Str) : (bytesOf x).size = x.length := by
  have go : ∀ (l : List Nat) (acc : Array UInt8), (l.foldl (fun acc y => acc ++ [y.toUInt8].toArray) acc).size = acc.size + l.length := by
    intro l
    induction l with
    | nil => intro acc; rfl
    | cons c r ih =>
      intro acc
      rw [List.foldl_cons, ih]
      simp
      omega
  unfold bytesOf
  rw [← Array.foldl_toList, go]
  simp [Str.length]

/-! tests -/
theorem Tr.ofList {e : Expr} {l : List PV} (h : Ev prog w H b A env ρ e (.list l)) (hz : l.length ≤ sizeLine) (he : isTrue e env (eval e env) = (do let v ← eval e env; standAt e.pos; holding [v] (truthy v)) := by rfl) : Tr prog w H b A env ρ e (!l.isEmpty) := fun s E S => by
  refine isTrue_plain (wpAny_mono (h s E S) (fun v s₁ h1 => ?_) fun _ _ x => x) he
  obtain ⟨k, a, vs, rfl, hl, pl⟩ := h1
  have e : vs.toArray.size = l.length := by simp [pl.length]
  refine wpAny_truthy_list hl (by rw [e]; unfold sizeLine at hz; omega) ⟨k.trans (.of_keeps Keeps.tk), ?_⟩
  have := pl.length
  cases vs <;> cases l <;> simp_all
theorem Tr.ofStr {e : Expr} {x : Str} (h : Ev prog w H b A env ρ e (.str x)) (hz : x.length ≤ sizeLine) (he : isTrue e env (eval e env) = (do let v ← eval e env; standAt e.pos; holding [v] (truthy v)) := by rfl) : Tr prog w H b A env ρ e ((x.length : Int) != 0) := fun s E S => by
  refine isTrue_plain (wpAny_mono (h s E S) (fun v s₁ h1 => ?_) fun _ _ x => x) he
  obtain ⟨k, t, rfl⟩ := h1
  exact PySem.P.truthy_str (by unfold sizeLine at hz; omega) ⟨k.trans (.of_keeps Keeps.tk), rfl⟩
theorem Tr.ofBool {e : Expr} {c : Bool} (h : Ev prog w H b A env ρ e (.bool c)) (he : isTrue e env (eval e env) = (do let v ← eval e env; standAt e.pos; holding [v] (truthy v)) := by rfl) : Tr prog w H b A env ρ e c := fun s E S => by
  refine isTrue_plain (wpAny_mono (h s E S) (fun v s₁ h1 => ?_) fun _ _ x => x) he
  obtain ⟨k, e⟩ := h1
  have e : v = .bool c := e
  subst e
  exact wpAny_truthy_bool ⟨k, rfl⟩

/-! isinstance -/
def IsI (prog : Program) (w : World) (p : PV) (T : String) (c : Bool) : Prop := ∀ (A : Around) s v (E : Value → Shared → Prop), Prim v p → wpAny (model prog w) A (call (.builtin "isinstance") [v, .type T]) (fun z s' => Keeps s s' ∧ z = .bool c) E s
theorem isi_int_int {i : Int} : IsI prog w (.int i) "int" true := by rintro A s v E ⟨t, rfl⟩; exact IsiPair.int_int ⟨Keeps.rfl' _, rfl⟩
theorem isi_bool_int {i : Bool} : IsI prog w (.bool i) "int" true := by rintro A s v E rfl; exact IsiPair.bool_int ⟨Keeps.rfl' _, rfl⟩
theorem isi_int_bool {i : Int} : IsI prog w (.int i) "bool" false := by rintro A s v E ⟨t, rfl⟩; exact IsiPair.int_bool ⟨Keeps.tk, rfl⟩
theorem isi_bool_bool {i : Bool} : IsI prog w (.bool i) "bool" true := by rintro A s v E rfl; exact IsiPair.bool_bool ⟨Keeps.rfl' _, rfl⟩
theorem isi_str_str {x : Str} : IsI prog w (.str x) "str" true := by rintro A s v E ⟨t, rfl⟩; exact IsiPair.str_str ⟨Keeps.rfl' _, rfl⟩
theorem isi_int_str {i : Int} : IsI prog w (.int i) "str" false := by rintro A s v E ⟨t, rfl⟩; exact IsiPair.int_str ⟨Keeps.tk, rfl⟩

theorem Ev.isi {fx tx : Str} {fp tp pos : Pos} {e : Expr} {T : String} {p : PV} {c : Bool} (hf : EvV prog w H A env ρ (.Name fx fp) (.builtin "isinstance")) (h : Ev prog w H b A env ρ e p) (hT : EvV prog w H A env ρ (.Name tx tp) (.type T)) (hi : IsI prog w p T c) (hp : p.isPrim = true)
    (he : starEach [e, .Name tx tp] env = (false, eval e env) :: starEach [.Name tx tp] env := by rfl) :
    Ev prog w H b A env ρ (.Call (.Name fx fp) [e, .Name tx tp] [] pos) (.bool c) := fun s E S => by
  refine Call_ (hf s E _ S.up ?_)
  rw [he]
  refine callWith_builtin rfl (evalArgs_plain (spliced_cons (wpAny_mono (h s E S) (fun v s₁ h1 => ?_) fun _ _ x => x)))
  refine args_cons (hT s₁ E _ (S.kb h1.1).up (args_nil ?_)) rfl
  exact wpAny_mono (hi A s₁ v E (h1.2.prim hp)) (fun z s₂ h2 => ⟨h1.1.trans (.of_keeps h2.1), h2.2⟩) fun _ _ x => x

/-! comparisons of other kinds -/
theorem c_isNone : Cmp2 prog w H b A .Is .none .none true := by
  rintro s v u E P hv hu
  have hv : v = .none := hv
  have hu : u = .none := hu
  subst hv hu
  exact is_none_gen ⟨Kb.refl _ _ _, rfl⟩
theorem c_isNone_int {i : Int} : Cmp2 prog w H b A .Is (.int i) .none false := by
  rintro s v u E P ⟨t, rfl⟩ hu
  have hu : u = .none := hu
  subst hu
  exact is_none_gen ⟨Kb.refl _ _ _, rfl⟩
theorem c_neB {x y : Array UInt8} : Cmp2 prog w H b A .NotEq (.bytes x) (.bytes y) (x.toList != y.toList) := by
  rintro s v u E P ⟨t, rfl⟩ ⟨t', rfl⟩; exact ne_bytes ⟨Kb.refl _ _ _, rfl⟩
theorem c_inL {i : Int} {ns : List Int} : Cmp2 prog w H b A .In (.int i) (.list (ns.map .int)) (ns.any (· == i)) := by
  rintro s v u E P ⟨t, rfl⟩ ⟨a, us, rfl, hl, pl⟩; exact in_list_ints hl pl.ints ⟨Kb.refl _ _ _, rfl⟩
theorem c_neT {x : Str} {ns : List Int} (hx : PyData.strOk x = true) (hu : A.units + 64 < cLine) : Cmp2 prog w H b A .NotEq (.tup [.str x, .list (ns.map .int)]) (.tup [.str x, .list (ns.map .int)]) false := by
  have key : ∀ (s : Shared) v, Rep s.heap v (.tup [.str x, .list (ns.map .int)]) → ∃ as, Reads s.heap v (.tuple [.str x, .list (ns.map PyData.int)]) as := by
    rintro s v ⟨a, vs, rfl, ⟨o, ho, hc, n, hd⟩, (_ | ⟨⟨t, rfl⟩, _ | ⟨⟨c, us, rfl, hl, pl⟩, _ | _⟩⟩)⟩
    exact ⟨_, .tuple ho hc hd (.cons (.str _ _) (.cons (reads_of_ints hl pl.ints) .nil))⟩
  rintro s v u E P hv hu'
  obtain ⟨as, ra⟩ := key s v hv
  obtain ⟨bs, rb⟩ := key s u hu'
  have hs : SeqAt.shaped (.tuple [.str x, .list (ns.map PyData.int)]) = true := by
    have h1 := canLayAll0_ints ns
    have h2 := W.depthAll_ints ns
    refine Bool.and_eq_true_iff.mpr ⟨?_, decide_eq_true ?_⟩
    · simp only [PyData.canLay0, PyData.canLayAll0, h1, hx, Bool.and_true]
    · simp only [PyData.depth, PyData.depthAll]
      omega
  refine ne_dataH ra rb hs hs hu ⟨Kb.refl _ _ _, ?_⟩
  simp [PyData.eqv, PyData.eqvAll, ked_eqvAll]
end
end Mine

open PySem PySem.W PySem.Calls PyProof.Rows
set_option Elab.async false
set_option linter.unusedVariables false
set_option maxRecDepth 100000
namespace Mine

/-! names found -/
theorem kindOf_of {env : Env} {sc : Scope} {x : Str} {k : NameKind} (h : env.scope = sc) (e : sc.names.lookup x = some k) : env.kindOf x = some k := by
  unfold Env.kindOf; rw [h]; exact e
def relab (scope sc : Scope) : Scope :=
  { scope with names := scope.names.map fun (n, k) => if (k == .free && sc.kind == .function && sc.names.lookup n == some .cell) then (n, .cell) else (n, k) }
theorem kindOf_rel {env cenv : Env} {scope sc : Scope} {x : Str} {k : NameKind} (h : cenv.scope = relabel scope env) (h' : env.scope = sc) (e : (relab scope sc).names.lookup x = some k) : cenv.kindOf x = some k := by
  subst h'
  unfold Env.kindOf; rw [h]; exact e
theorem cells_of {env : Env} {names : List (Str × NameKind)} {x : Str} (h : env.cells = cellsFrom (env.locals + 1) names []) (e : ∀ n, ((cellsFrom n names []).lookup x).isSome = true) : (env.cells.lookup x).isSome = true := by
  rw [h]; exact e _
theorem free_of {env : Env} {scope : Scope} {names : List (Str × NameKind)} (h : env.cells = cellsFrom (env.locals + 1) names []) (e : ∀ n, scope.names.all (fun y => y.2 != .free || ((cellsFrom n names []).lookup y.1).isSome) = true) :
    ∀ y ∈ scope.names, y.2 = .free → (env.cells.lookup y.1).isSome = true := fun y hy hf => by
  have := List.all_eq_true.mp (e (env.locals + 1)) y hy
  rw [hf] at this
  rw [h]
  simpa using this

section
variable {prog : Program} {w : World} {H : Heap} {b : Bool} {A : Around} {env : Env} {ρ ρ' : Rho}

/-- a list among the globals -/
theorem Ev.globList {x : Str} {pos : Pos} {a : Addr} {dd : Option Addr} {vs : List Value} {n : Nat} {sl : Array (Option Value)} {l : List PV} (hE : EnvOk env) (hk : env.kindOf x = some .globalImplicit) (he : nsIn (KF w.params) mainGlobals x = some (some (.ref a)))
    (hl : (KF w.params).lookup a = some ⟨.type "list", dd, .seq vs.toArray n, sl⟩) (hp : Prims vs l) (hd : (x == ("__debug__" : Str)) = false := by decide) : Ev prog w H b A env ρ (.Name x pos) (.list l) := fun s E S =>
  EvV.glob hE hk he hd s E _ S.up ⟨Kb.refl _ _ _, a, vs, rfl, ⟨_, S.top.K _ _ hl, rfl, n, rfl⟩, hp⟩
def primV : Value → Bool
  | .none => true
  | .bool _ => true
  | .int _ _ => true
  | .str _ _ => true
  | .bytes _ _ => true
  | _ => false
theorem prims_of : ∀ {vs : List Value}, vs.all primV = true → Prims vs (vs.map pvOf)
  | [], _ => .nil
  | v :: vs, h => by
    rw [List.all_cons, Bool.and_eq_true] at h
    refine .cons ?_ (prims_of h.2)
    cases v <;> first | exact rfl | exact ⟨_, rfl⟩ | cases h.1
end

/-! one list of names within another -/
def Sub (ρ' ρ : Rho) : Prop := ∀ x p, ρ'.lookup x = some p → ρ.lookup x = some p
theorem sub_nil {ρ : Rho} : Sub [] ρ := fun _ _ e => by cases e
theorem sub_cons {ρ' ρ : Rho} {x : Str} {p : PV} (h : ρ.lookup x = some p) (r : Sub ρ' ρ) : Sub ((x, p) :: ρ') ρ := fun y q e => by
  rw [List.lookup_cons] at e
  by_cases hy : y = x
  · subst hy; simp only [beq_self_eq_true] at e; cases e; exact h
  · rw [beq_false_of_ne hy] at e; exact r y q e

/-! bits of naturals -/
theorem andN (a c : Nat) : Builtin.bitAnd (a : Int) (c : Int) = ((a &&& c : Nat) : Int) := by
  unfold Builtin.bitAnd
  rw [decide_eq_true (by omega : (0:Int) ≤ a), decide_eq_true (by omega : (0:Int) ≤ c)]
  rfl
theorem notN (a : Nat) : Builtin.bitNot (a : Int) = -(a : Int) - 1 := rfl
theorem xor_and_add : ∀ x y : Nat, (x ^^^ y) + 2 * (x &&& y) = x + y := by
  intro x
  induction x using Nat.strongRecOn with
  | ind x ih =>
    intro y
    by_cases hx : x = 0
    · subst hx; simp
    · have h := ih (x / 2) (by omega) (y / 2)
      have a := Nat.div_add_mod (x ^^^ y) 2
      have c := Nat.div_add_mod (x &&& y) 2
      have d1 : (x ^^^ y) / 2 = x / 2 ^^^ y / 2 := by have := Nat.xor_div_two_pow (a := x) (b := y) (n := 1); rwa [Nat.pow_one] at this
      have d2 : (x &&& y) / 2 = (x / 2 &&& y / 2) := by have := Nat.and_div_two_pow (a := x) (b := y) (n := 1); rwa [Nat.pow_one] at this
      have m1 : (x ^^^ y) % 2 = (x % 2 ^^^ y % 2) := by have := Nat.xor_mod_two_pow (a := x) (b := y) (n := 1); rwa [Nat.pow_one] at this
      have m2 : (x &&& y) % 2 = (x % 2 &&& y % 2) := by have := Nat.and_mod_two_pow (a := x) (b := y) (n := 1); rwa [Nat.pow_one] at this
      have hx2 : x % 2 = 0 ∨ x % 2 = 1 := by omega
      have hy2 : y % 2 = 0 ∨ y % 2 = 1 := by omega
      have ex := Nat.div_add_mod x 2
      have ey := Nat.div_add_mod y 2
      rw [d1] at a
      rw [d2] at c
      generalize (x / 2 ^^^ y / 2) = P at *
      generalize (x / 2 &&& y / 2) = R at *
      generalize (x ^^^ y) = U at *
      generalize (x &&& y) = V at *
      rcases hx2 with e1 | e1 <;> rcases hy2 with e2 | e2 <;> rw [e1, e2] at m1 m2 <;> simp at m1 m2 <;> omega
theorem xorN (a c : Nat) : Builtin.bitXor (a : Int) (c : Int) = ((a ^^^ c : Nat) : Int) := by
  rw [bitXor_and, andN]
  have := xor_and_add a c
  omega
theorem shlN (a k : Nat) : (a : Int) * (2 : Int) ^ k = ((a <<< k : Nat) : Int) := by
  rw [Nat.shiftLeft_eq]; simp
theorem shrN (a k : Nat) : (a : Int).fdiv ((2 : Int) ^ k) = ((a >>> k : Nat) : Int) := by
  rw [Nat.shiftRight_eq_div_pow, Int.fdiv_eq_ediv_of_nonneg _ (by exact_mod_cast Nat.zero_le _)]; simp
end Mine

open PySem PySem.W PySem.Calls PyProof.Rows
set_option Elab.async false
set_option linter.unusedVariables false
set_option maxRecDepth 100000
namespace Mine
local macro_rules | `(tactic| walk_at "mine.k") => `(tactic| first
  | (refine kindOf_of (by assumption) ?_; rfl)
  | (refine kindOf_rel (by assumption) (by assumption) ?_; rfl))
local macro_rules | `(tactic| walk_at "mine.bound") => `(tactic| first
  | (refine Or.inl ?_; walk_at "mine.k")
  | (refine Or.inr ⟨?_, ?_⟩; walk_at "mine.k"; (refine cells_of (by assumption) ?_; intro _; rfl)))
local macro_rules | `(tactic| walk_at "mine.v") => `(tactic| first
  | (refine EvV.boot (by assumption) (by walk_at "mine.k") ?_ ?_; rfl; rfl)
  | (refine EvV.glob (by assumption) (by walk_at "mine.k") ?_; rfl))
local macro_rules | `(tactic| walk_at "mine.e") => `(tactic| first
  | exact Ev.int
  | exact Ev.str
  | exact Ev.bool
  | exact Ev.none
  | (refine Ev.name (by assumption) ?_; rfl)
  | (refine EvV.ev (by walk_at "mine.v") ⟨_, rfl⟩)
  | (refine Ev.neg ?_; walk_at "mine.e")
  | (refine EvA.cons ?_ ?_ <;> walk_at "mine.e")
  | exact EvA.nil
  | (refine Ev.bin ?_ ?_ op_add <;> walk_at "mine.e")
  | (refine Ev.bin ?_ ?_ op_sub <;> walk_at "mine.e")
  | (refine Ev.bin ?_ ?_ op_and <;> walk_at "mine.e")
  | (refine Ev.bin ?_ ?_ op_xor <;> walk_at "mine.e")
  | (refine Ev.bin ?_ ?_ (op_shr ?_) <;> (try walk_at "mine.e")))

section
variable {prog : Program} {w : World} {H : Heap}

theorem fn_int {i : Int} : FnOk prog w H 1 65 [.int i] (.ok (.bool true)) := by
  refine FnOk.def (names := ["value"]) (n := 0) [] [] (ho := by rfl) (hcd := by kernel_rfl) (hbody := rfl) (hbind := ?_) (hx := fun _ => .nil) (hloc := by decide) (hnd := by decide) (hclo := rfl) (hgl := rfl) (hbi := rfl) (hco := rfl) (hgen := rfl) (hk := rfl) (h := ?_)
  · intro s vs T hl
    match vs, hl with
    | [v], _ => exact BindsTo.of_eq (by rfl)
  · intro A env hA hE hsc hcode hqual hcl hl
    refine Ex.ret (Ex1.ret (b := true) ?_)
    exact Ev.and (Ev.isi (by walk_at "mine.v") (by walk_at "mine.e") (by walk_at "mine.v") isi_int_int rfl) (Ev.and_one (Ev.not (Ev.isi (by walk_at "mine.v") (by walk_at "mine.e") (by walk_at "mine.v") isi_int_bool rfl)))
theorem fn_int_b {i : Bool} : FnOk prog w H 1 65 [.bool i] (.ok (.bool false)) := by
  refine FnOk.def (names := ["value"]) (n := 0) [] [] (ho := by rfl) (hcd := by kernel_rfl) (hbody := rfl) (hbind := ?_) (hx := fun _ => .nil) (hloc := by decide) (hnd := by decide) (hclo := rfl) (hgl := rfl) (hbi := rfl) (hco := rfl) (hgen := rfl) (hk := rfl) (h := ?_)
  · intro s vs T hl
    match vs, hl with
    | [v], _ => exact BindsTo.of_eq (by rfl)
  · intro A env hA hE hsc hcode hqual hcl hl
    refine Ex.ret (Ex1.ret (b := true) ?_)
    exact Ev.and (Ev.isi (by walk_at "mine.v") (by walk_at "mine.e") (by walk_at "mine.v") isi_bool_int rfl) (Ev.and_one (Ev.not (Ev.isi (by walk_at "mine.v") (by walk_at "mine.e") (by walk_at "mine.v") isi_bool_bool rfl)))
theorem fn_str {x y : Str} : FnOk prog w H 1 58 [.str x, .str y] (.ok (.str x)) := by
  refine FnOk.def (names := ["s", "what"]) (n := 0) [] [] (ho := by rfl) (hcd := by kernel_rfl) (hbody := rfl) (hbind := ?_) (hx := fun _ => .nil) (hloc := by decide) (hnd := by decide) (hclo := rfl) (hgl := rfl) (hbi := rfl) (hco := rfl) (hgen := rfl) (hk := rfl) (h := ?_)
  · intro s vs T hl
    match vs, hl with
    | [v, u], _ => exact BindsTo.of_eq (by rfl)
  · intro A env hA hE hsc hcode hqual hcl hl
    refine Ex.ret (Ex1.if_ (b := true) (c := true) (Tr.ofBool (Ev.isi (by walk_at "mine.v") (by walk_at "mine.e") (by walk_at "mine.v") isi_str_str rfl)) (fun _ => Ex.ret (Ex1.ret (b := true) (by walk_at "mine.e"))) nofun)
end
end Mine

namespace Mine
/-! the plain side: the checksum's polynomial -/
def gens5 : List Nat := [996825010, 642813549, 513874426, 1027748829, 705979059]
def bitOf (t k : Nat) : Nat := (t >>> k) % 2
def taps (t : Nat) : Nat :=
  (bitOf t 0 * 996825010) ^^^ (bitOf t 1 * 642813549) ^^^ (bitOf t 2 * 513874426) ^^^ (bitOf t 3 * 1027748829) ^^^ (bitOf t 4 * 705979059)
def pmStep (chk v : Nat) : Nat := ((chk &&& 33554431) <<< 5) ^^^ v ^^^ taps (chk >>> 25)
def pm (vs : List Nat) : Nat := vs.foldl pmStep 1

theorem taps_lt : ∀ t < 32, taps t < 2 ^ 30 := by decide
theorem pmStep_lt {c v : Nat} (hc : c < 2 ^ 30) (hv : v < 32) : pmStep c v < 2 ^ 30 := by
  unfold pmStep
  have h1 : (c &&& 33554431) <<< 5 < 2 ^ 30 := by
    rw [Nat.shiftLeft_eq]
    have : c &&& 33554431 ≤ 33554431 := Nat.and_le_right
    omega
  have h2 : c >>> 25 < 32 := by rw [Nat.shiftRight_eq_div_pow]; omega
  exact Nat.xor_lt_two_pow (Nat.xor_lt_two_pow h1 (by omega)) (taps_lt _ h2)
theorem foldl_pm_lt : ∀ (vs : List Nat) (c : Nat), c < 2 ^ 30 → (∀ v ∈ vs, v < 32) → vs.foldl pmStep c < 2 ^ 30
  | [], c, hc, _ => hc
  | v :: vs, c, hc, hv => foldl_pm_lt vs _ (pmStep_lt hc (hv v (.head _))) fun u hu => hv u (.tail _ hu)
theorem pm_lt {vs : List Nat} (hv : ∀ v ∈ vs, v < 32) : pm vs < 2 ^ 30 := foldl_pm_lt vs 1 (by decide) hv
end Mine

open PySem PySem.W PySem.Calls PyProof.Rows
set_option Elab.async false
set_option linter.unusedVariables false
set_option maxRecDepth 100000
namespace Mine
local macro_rules | `(tactic| walk_at "mine.k") => `(tactic| first
  | (refine kindOf_of (by assumption) ?_; rfl)
  | (refine kindOf_rel (by assumption) (by assumption) ?_; rfl))
local macro_rules | `(tactic| walk_at "mine.bound") => `(tactic| first
  | (refine Or.inl ?_; walk_at "mine.k")
  | (refine Or.inr ⟨?_, ?_⟩; walk_at "mine.k"; (refine cells_of (by assumption) ?_; intro _; rfl)))
local macro_rules | `(tactic| walk_at "mine.v") => `(tactic| first
  | (refine EvV.boot (by assumption) (by walk_at "mine.k") ?_ ?_; rfl; rfl)
  | (refine EvV.glob (by assumption) (by walk_at "mine.k") ?_; rfl))
local macro_rules | `(tactic| walk_at "mine.e") => `(tactic| first
  | exact Ev.int
  | exact Ev.str
  | exact Ev.bool
  | exact Ev.none
  | (refine Ev.name (by assumption) ?_; rfl)
  | (refine EvV.ev (by walk_at "mine.v") ⟨_, rfl⟩)
  | (refine Ev.neg ?_; walk_at "mine.e")
  | (refine EvA.cons ?_ ?_ <;> walk_at "mine.e")
  | exact EvA.nil
  | (refine Ev.bin ?_ ?_ op_add <;> walk_at "mine.e")
  | (refine Ev.bin ?_ ?_ op_sub <;> walk_at "mine.e")
  | (refine Ev.bin ?_ ?_ op_and <;> walk_at "mine.e")
  | (refine Ev.bin ?_ ?_ op_xor <;> walk_at "mine.e")
  | (refine Ev.bin ?_ ?_ (op_shr ?_) <;> (try walk_at "mine.e")))
local macro_rules | `(tactic| walk_at "mine.sub") => `(tactic| (repeat (first | exact sub_nil | refine sub_cons (by rfl) ?_)))

def nints (ns : List Nat) : List PV := ns.map fun n : Nat => PV.int (n : Int)
def tapsPV : List PV := (List.range 32).map fun i => PV.int ((taps i : Nat) : Int)
theorem tapsPV_get {i : Nat} (h : i < 32) : tapsPV[i]? = some (PV.int ((taps i : Nat) : Int)) := by
  unfold tapsPV
  simp [h]

section
variable {prog : Program} {w : World} {H : Heap}

theorem fn_polymod {ns : List Nat} (hn : ∀ n ∈ ns, n < 32) : FnOk prog w H 1 82 [.list (nints ns)] (.ok (.int ((pm ns : Nat) : Int))) := by
  refine FnOk.def (names := ["values"]) (n := 0) [] [] (ho := by rfl) (hcd := by kernel_rfl) (hbody := rfl) (hbind := ?_) (hx := fun _ => .nil) (hloc := by decide) (hnd := by decide) (hclo := rfl) (hgl := rfl) (hbi := rfl) (hco := rfl) (hgen := rfl) (hk := rfl) (h := ?_)
  · intro s vs T hl
    match vs, hl with
    | [v], _ => exact BindsTo.of_eq (by rfl)
  · intro A env hA hE hsc hcode hqual hcl hl
    refine Ex.cons (Ex1.assign (b := true) (p := .int ((pm (ns.take 0) : Nat) : Int)) (by walk_at "mine.e") (by walk_at "mine.bound")) ?_
    refine Ex.cons (Ex1.for_ (items := nints ns) (fun i => [("chk", .int ((pm (ns.take i) : Nat) : Int))]) (ItEv.ofList (by walk_at "mine.e")) hA.handled (by walk_at "mine.bound") (by walk_at "mine.sub") ?_) ?_
    · intro i p hp
      unfold nints at hp
      simp only [List.getElem?_map, Option.map_eq_some_iff] at hp
      obtain ⟨v, hv, rfl⟩ := hp
      have hvm : v < 32 := hn v (List.mem_of_getElem? hv)
      have hc : pm (ns.take i) < 2 ^ 30 := pm_lt fun u hu => hn u (List.mem_of_mem_take hu)
      have hidx : pm (ns.take i) >>> 25 < 32 := by rw [Nat.shiftRight_eq_div_pow]; omega
      have e : pm (ns.take (i + 1)) = pmStep (pm (ns.take i)) v := by
        unfold pm
        rw [List.take_succ, hv]; simp
      refine Ex.to (Ex.cons (Ex1.assign (b := true) (p := .int ((pm (ns.take (i + 1)) : Nat) : Int)) ?_ (by walk_at "mine.bound")) Ex.nil) (by walk_at "mine.sub")
      rw [e]
      generalize hcg : pm (ns.take i) = c at *
      refine Ev.eq (Ev.bin (Ev.bin (Ev.bin (Ev.bin (by walk_at "mine.e") (by walk_at "mine.e") op_and) (by walk_at "mine.e") (op_shl (by decide) (by decide) ?_)) (by walk_at "mine.e") op_xor) (Ev.subL (p := .int ((taps (c >>> 25) : Nat) : Int)) (l := tapsPV)
          (Ev.globList hE (by walk_at "mine.k") (by rfl) (by rfl) ?_) (Ev.bin (by walk_at "mine.e") (by walk_at "mine.e") (op_shr (by decide))) ?_ ?_ ?_) op_xor) ?_
      · have : Builtin.bitAnd (c : Int) 33554431 = ((c &&& 33554431 : Nat) : Int) := andN c 33554431
        rw [this]
        have : c &&& 33554431 ≤ 33554431 := Nat.and_le_right
        omega
      · exact (show tapsPV = _ from by kernel_rfl) ▸ prims_of (by rfl)
      · have : (c : Int).fdiv (2 ^ (25 : Int).toNat) = ((c >>> 25 : Nat) : Int) := shrN c 25
        rw [this]; omega
      · have : (c : Int).fdiv (2 ^ (25 : Int).toNat) = ((c >>> 25 : Nat) : Int) := shrN c 25
        rw [this]; omega
      · have : (c : Int).fdiv (2 ^ (25 : Int).toNat) = ((c >>> 25 : Nat) : Int) := shrN c 25
        rw [this]; exact tapsPV_get hidx
      · congr 1
        have e1 : Builtin.bitAnd (c : Int) 33554431 = ((c &&& 33554431 : Nat) : Int) := andN c 33554431
        rw [e1]
        have e2 : ((c &&& 33554431 : Nat) : Int) * (2 : Int) ^ (5 : Int).toNat = (((c &&& 33554431) <<< 5 : Nat) : Int) := shlN _ 5
        rw [e2, xorN, xorN]; rfl
    · refine Ex.ret (Ex1.ret (b := true) (Ev.eq (p := .int ((pm (ns.take ns.length) : Nat) : Int)) ?_ (by rw [List.take_length])))
      have : (nints ns).length = ns.length := by simp [nints]
      rw [this]
      walk_at "mine.e"
end
end Mine

open PySem PySem.W PySem.Calls PyProof.Rows
set_option Elab.async false
set_option linter.unusedVariables false
set_option maxRecDepth 100000
namespace Mine
local macro_rules | `(tactic| walk_at "mine.k") => `(tactic| first
  | (refine kindOf_of (by assumption) ?_; rfl)
  | (refine kindOf_rel (by assumption) (by assumption) ?_; rfl))
local macro_rules | `(tactic| walk_at "mine.bound") => `(tactic| first
  | (refine Or.inl ?_; walk_at "mine.k")
  | (refine Or.inr ⟨?_, ?_⟩; walk_at "mine.k"; (refine cells_of (by assumption) ?_; intro _; rfl)))
local macro_rules | `(tactic| walk_at "mine.v") => `(tactic| first
  | (refine EvV.boot (by assumption) (by walk_at "mine.k") ?_ ?_; rfl; rfl)
  | (refine EvV.glob (by assumption) (by walk_at "mine.k") ?_; rfl))
local macro_rules | `(tactic| walk_at "mine.e") => `(tactic| first
  | exact Ev.int
  | exact Ev.str
  | exact Ev.bool
  | exact Ev.none
  | (refine Ev.name (by assumption) ?_; rfl)
  | (refine EvV.ev (by walk_at "mine.v") ⟨_, rfl⟩)
  | (refine Ev.neg ?_; walk_at "mine.e")
  | (refine EvA.cons ?_ ?_ <;> walk_at "mine.e")
  | exact EvA.nil
  | (refine Ev.bin ?_ ?_ op_add <;> walk_at "mine.e")
  | (refine Ev.bin ?_ ?_ op_sub <;> walk_at "mine.e")
  | (refine Ev.bin ?_ ?_ op_and <;> walk_at "mine.e")
  | (refine Ev.bin ?_ ?_ op_xor <;> walk_at "mine.e")
  | (refine Ev.bin ?_ ?_ (op_shr ?_) <;> (try walk_at "mine.e")))
local macro_rules | `(tactic| walk_at "mine.sub") => `(tactic| (repeat (first | exact sub_nil | refine sub_cons (by rfl) ?_)))
local macro_rules | `(tactic| walk_at "mine.comp") => `(tactic| exact ⟨free_of (by assumption) (fun _ => by rfl), by decide, rfl, by decide, rfl, by intro q hq; cases hq⟩)
local macro_rules | `(tactic| walk_at "mine.bind1") => `(tactic| (intro s vs T hl; match vs, hl with
  | [v], _ => exact BindsTo.of_eq (by rfl)))
local macro_rules | `(tactic| walk_at "mine.bind2") => `(tactic| (intro s vs T hl; match vs, hl with
  | [v, u], _ => exact BindsTo.of_eq (by rfl)))
local macro_rules | `(tactic| walk_at "mine.bind3") => `(tactic| (intro s vs T hl; match vs, hl with
  | [v, u, x], _ => exact BindsTo.of_eq (by rfl)))

section
variable {prog : Program} {w : World} {H : Heap}
def expand (x : List Nat) : List Nat := x.map (· >>> 5) ++ [0] ++ x.map (· &&& 31)
theorem expand_lt {x : List Nat} (hx : ∀ c ∈ x, c < 128) : ∀ v ∈ expand x, v < 32 := by
  intro v hv
  unfold expand at hv
  simp only [List.mem_append, List.mem_map, List.mem_cons, List.not_mem_nil, or_false] at hv
  rcases hv with (⟨c, hc, rfl⟩ | rfl) | ⟨c, hc, rfl⟩
  · have := hx c hc; rw [Nat.shiftRight_eq_div_pow]; omega
  · omega
  · have : c &&& 31 ≤ 31 := Nat.and_le_right
    omega

def g5 : PV → PV
  | .str x => .int ((x.cps.getD 0 0 >>> 5 : Nat) : Int)
  | _ => .none
def g31 : PV → PV
  | .str x => .int ((x.cps.getD 0 0 &&& 31 : Nat) : Int)
  | _ => .none
def signs (x : Str) : List PV := x.cps.toList.map fun c => .str (chr1 c)
theorem signs_len (x : Str) : (signs x).length = x.length := by unfold signs; simp [Str.length]

theorem ev_high {A : Around} {env : Env} {ρ : Rho} {cx : Str} {px pos : Pos} {scope : Scope} {elt iter : Expr} {x : Str} {g : PV → PV} (hg : ∀ c, ∃ n : Nat, g (.str (chr1 c)) = .int n) (hh : A.handled = none) (hE : EnvOk env) (hx : x.length ≤ 4096)
    (hi : Ev prog w H true A env ρ iter (.str x)) (hC : CompOk env scope cx [])
    (hel : ∀ cenv, EnvOk cenv → cenv.scope = relabel scope env → ∀ c, Ev prog w H true A cenv [(cx, .str (chr1 c))] elt (g (.str (chr1 c))))
    (hs : ∀ v, foldedSetIterable iter env v = pure v := by intro _; rfl) : Ev prog w H false A env ρ (.ListComp elt [⟨.Name cx px, iter, [], 0⟩] scope pos) (.list ((signs x).map g)) := by
  refine Ev.comp (items := signs x) [] g (ItEv.ofStr hi) hh hE hC (by intro q hq; cases hq) ?_ ?_ (by rw [signs_len]; exact Nat.le_trans hx (by decide)) hs
  · intro cenv h1 h2 p hp
    unfold signs at hp
    obtain ⟨c, _, rfl⟩ := List.mem_map.mp hp
    exact hel cenv h1 h2 c
  · intro p hp
    unfold signs at hp
    obtain ⟨c, _, rfl⟩ := List.mem_map.mp hp
    obtain ⟨n, e⟩ := hg c
    rw [e]; rfl

theorem nints_expand (x : Str) : (signs x).map g5 ++ [PV.int 0] ++ (signs x).map g31 = nints (expand x.cps.toList) := by
  unfold signs nints expand
  simp [chr1]
  rfl

theorem fn_expand {x : Str} (hx : x.length ≤ 4096) : FnOk prog w H 1 87 [.str x] (.ok (.list (nints (expand x.cps.toList)))) := by
  refine FnOk.def (names := ["hrp"]) (n := 0) [] [] (ho := by rfl) (hcd := by kernel_rfl) (hbody := rfl) (hbind := ?_) (hx := fun _ => .nil) (hloc := by decide) (hnd := by decide) (hclo := rfl) (hgl := rfl) (hbi := rfl) (hco := rfl) (hgen := rfl) (hk := rfl) (h := ?_)
  · walk_at "mine.bind1"
  · intro A env hA hE hsc hcode hqual hcl hl
    refine Ex.ret (Ex1.ret (b := false) (Ev.eq (Ev.bin (Ev.bin (ev_high (x := x) (g := g5) (fun c => ⟨_, rfl⟩) hA.handled hE hx (by walk_at "mine.e") (by walk_at "mine.comp") ?_) (Ev.list (EvA.cons Ev.int EvA.nil) rfl (by decide)) (op_addL ?_)) (ev_high (x := x) (g := g31) (fun c => ⟨_, rfl⟩) hA.handled hE hx (by walk_at "mine.e") (by walk_at "mine.comp") ?_) (op_addL ?_)) (congrArg PV.list (nints_expand x))))
    · intro cenv hEc hsc' c
      exact Ev.eq (Ev.bin (Ev.callB (by walk_at "mine.v") (by walk_at "mine.e") c_ord) (by walk_at "mine.e") (op_shr (by decide))) (congrArg PV.int (shrN c 5))
    · have := signs_len x
      simp only [List.length_map, List.length_cons, List.length_nil]; rw [this]; have : sizeLine = 16777216 := rfl; omega
    · intro cenv hEc hsc' c
      exact Ev.eq (Ev.bin (Ev.callB (by walk_at "mine.v") (by walk_at "mine.e") c_ord) (by walk_at "mine.e") op_and) (congrArg PV.int (andN c 31))
    · have := signs_len x
      simp only [List.length_append, List.length_map, List.length_cons, List.length_nil]; rw [this]; have : sizeLine = 16777216 := rfl; omega
end
end Mine

open PySem PySem.W PySem.Calls PyProof.Rows
set_option Elab.async false
set_option linter.unusedVariables false
set_option maxRecDepth 100000
namespace Mine
local macro_rules | `(tactic| walk_at "mine.k") => `(tactic| first
  | (refine kindOf_of (by assumption) ?_; rfl)
  | (refine kindOf_rel (by assumption) (by assumption) ?_; rfl))
local macro_rules | `(tactic| walk_at "mine.bound") => `(tactic| first
  | (refine Or.inl ?_; walk_at "mine.k")
  | (refine Or.inr ⟨?_, ?_⟩; walk_at "mine.k"; (refine cells_of (by assumption) ?_; intro _; rfl)))
local macro_rules | `(tactic| walk_at "mine.v") => `(tactic| first
  | (refine EvV.boot (by assumption) (by walk_at "mine.k") ?_ ?_; rfl; rfl)
  | (refine EvV.glob (by assumption) (by walk_at "mine.k") ?_; rfl))
local macro_rules | `(tactic| walk_at "mine.e") => `(tactic| first
  | exact Ev.int
  | exact Ev.str
  | exact Ev.bool
  | exact Ev.none
  | (refine Ev.name (by assumption) ?_; rfl)
  | (refine EvV.ev (by walk_at "mine.v") ⟨_, rfl⟩)
  | (refine Ev.neg ?_; walk_at "mine.e")
  | (refine EvA.cons ?_ ?_ <;> walk_at "mine.e")
  | exact EvA.nil
  | (refine Ev.bin ?_ ?_ op_add <;> walk_at "mine.e")
  | (refine Ev.bin ?_ ?_ op_sub <;> walk_at "mine.e")
  | (refine Ev.bin ?_ ?_ op_and <;> walk_at "mine.e")
  | (refine Ev.bin ?_ ?_ op_xor <;> walk_at "mine.e")
  | (refine Ev.bin ?_ ?_ (op_shr ?_) <;> (try walk_at "mine.e")))
local macro_rules | `(tactic| walk_at "mine.sub") => `(tactic| (repeat (first | exact sub_nil | refine sub_cons (by rfl) ?_)))
local macro_rules | `(tactic| walk_at "mine.comp") => `(tactic| exact ⟨free_of (by assumption) (fun _ => by rfl), by decide, rfl, by decide, rfl, by intro q hq; cases hq⟩)
local macro_rules | `(tactic| walk_at "mine.bind1") => `(tactic| (intro s vs T hl; match vs, hl with
  | [v], _ => exact BindsTo.of_eq (by rfl)))
local macro_rules | `(tactic| walk_at "mine.bind2") => `(tactic| (intro s vs T hl; match vs, hl with
  | [v, u], _ => exact BindsTo.of_eq (by rfl)))
local macro_rules | `(tactic| walk_at "mine.bind3") => `(tactic| (intro s vs T hl; match vs, hl with
  | [v, u, x], _ => exact BindsTo.of_eq (by rfl)))

section
variable {prog : Program} {w : World} {H : Heap}
def cksum (xs : List Nat) (m : Nat) : List Nat := (List.range 6).map fun i => ((pm (xs ++ List.replicate 6 0) ^^^ m) >>> (5 * (5 - i))) &&& 31
def gk (P : Nat) : PV → PV
  | .int i => .int ((((P >>> (5 * (5 - i.toNat))) &&& 31 : Nat)) : Int)
  | _ => .none
theorem nints_app (a c : List Nat) : nints (a ++ c) = nints a ++ nints c := by simp [nints]
theorem nints_len (a : List Nat) : (nints a).length = a.length := by simp [nints]
theorem cksum_pv (P : Nat) : ((List.range 6).map fun i : Nat => PV.int (i : Int)).map (gk P) = nints ((List.range 6).map fun i => (P >>> (5 * (5 - i))) &&& 31) := by rfl

theorem fn_create {x : Str} {data : List Nat} {m : Nat} (hx : x.length ≤ 4000) (hc : ∀ c ∈ x.cps.toList, c < 128) (hd : data.length ≤ 90) (hd2 : ∀ v ∈ data, v < 32) :
    FnOk prog w H 2 92 [.str x, .list (nints data), .int (m : Int)] (.ok (.list (nints (cksum (expand x.cps.toList ++ data) m)))) := by
  refine FnOk.def (names := ["hrp", "data", "m"]) (n := 1) [] [] (ho := by rfl) (hcd := by kernel_rfl) (hbody := rfl) (hbind := ?_) (hx := fun _ => .nil) (hloc := by decide) (hnd := by decide) (hclo := rfl) (hgl := rfl) (hbi := rfl) (hco := rfl) (hgen := rfl) (hk := rfl) (h := ?_)
  · walk_at "mine.bind3"
  · intro A env hA hE hsc hcode hqual hcl hl
    have hl' : ∃ l, A.frames = some l := let ⟨l, e⟩ := hl; ⟨_, e⟩
    have hxl : (expand x.cps.toList).length = 2 * x.length + 1 := by simp [expand, Str.length]; omega
    have hall : ∀ v ∈ expand x.cps.toList ++ data ++ List.replicate 6 0, v < 32 := by
      intro v hv
      rcases List.mem_append.mp hv with hv | hv
      · rcases List.mem_append.mp hv with hv | hv
        · exact expand_lt hc v hv
        · exact hd2 v hv
      · rw [(List.mem_replicate.mp hv).2]; decide
    refine Ex.cons (Ex1.assign (b := false) (p := .list (nints (expand x.cps.toList ++ data))) (Ev.eq (Ev.bin (Ev.callF hA hl' (by walk_at "mine.v") (by walk_at "mine.e") (fn_expand (by omega)) (by rfl)) (by walk_at "mine.e") (op_addL ?_)) (congrArg PV.list (nints_app _ _).symm)) (by walk_at "mine.bound")) ?_
    · rw [nints_len, nints_len, hxl]; have : sizeLine = 16777216 := rfl; omega
    generalize hP : pm (expand x.cps.toList ++ data ++ List.replicate 6 0) ^^^ m = P
    refine Ex.cons (Ex1.assign (b := false) (p := .int (P : Int)) ?_ ?_) ?_
    rotate_left 1
    · refine Or.inr ⟨?_, ?_⟩
      · refine kindOf_of hsc ?_
        rfl
      · refine cells_of hcl ?_
        intro n
        rfl
    rotate_left 1
    · refine Ev.eq (Ev.bin (Ev.callF hA hl' (by walk_at "mine.v") (EvA.cons (p := .list (nints (expand x.cps.toList ++ data ++ List.replicate 6 0))) ?_ EvA.nil) (fn_polymod hall) (by rfl)) (by walk_at "mine.e") op_xor) ?_
      · refine Ev.eq (Ev.list (EvA.star (l := nints (expand x.cps.toList ++ data)) (by walk_at "mine.e") ?_ (EvA.cons Ev.int (EvA.cons Ev.int (EvA.cons Ev.int (EvA.cons Ev.int (EvA.cons Ev.int (EvA.cons Ev.int EvA.nil))))))) ?_ ?_) ?_
        · rw [nints_len, List.length_append, hxl]; have : sizeLine = 16777216 := rfl; omega
        · rw [List.all_append, Bool.and_eq_true]
          refine ⟨?_, rfl⟩
          simp [nints, PV.isPrim]
        · rw [List.length_append, nints_len, List.length_append, hxl]; have : sizeLine = 16777216 := rfl; simp only [List.length_cons, List.length_nil]; omega
        · rw [nints_app (expand x.cps.toList ++ data)]; rfl
      · rw [xorN, hP]
    refine Ex.ret (Ex1.ret (b := true) (Ev.eq (Ev.comp (items := (List.range 6).map fun i : Nat => PV.int (i : Int)) [("polymod", .int (P : Int))] (gk P) (ItEv.range (n := 6) (by walk_at "mine.v") Ev.int (by decide)) hA.handled hE
      ⟨free_of hcl (fun _ => by rfl), by decide, rfl, by decide, rfl, ?_⟩ ?_ ?_ ?_ (by decide)) ?_))
    · intro q hq
      simp only [List.mem_cons, List.not_mem_nil, or_false] at hq
      subst hq
      exact ⟨rfl, by walk_at "mine.k"⟩
    · intro q hq
      simp only [List.mem_cons, List.not_mem_nil, or_false] at hq
      subst hq
      rfl
    · intro cenv hEc hsc' p hp
      obtain ⟨i, hi, rfl⟩ := List.mem_map.mp hp
      have hi := List.mem_range.mp hi
      refine Ev.eq (Ev.bin (Ev.bin (by walk_at "mine.e") (Ev.bin (by walk_at "mine.e") (Ev.bin (by walk_at "mine.e") (by walk_at "mine.e") op_sub) (op_mul (IntMulOk.of_left (by decide)))) (op_shr ?_)) (by walk_at "mine.e") op_and) ?_
      · omega
      · unfold gk
        rw [shrN, show (31 : Int) = ((31 : Nat) : Int) from rfl, andN]
        congr 4
        omega
    · intro p hp
      obtain ⟨i, hi, rfl⟩ := List.mem_map.mp hp
      rfl
    · rw [cksum_pv]; unfold cksum; rw [hP]

theorem fn_verify {x : Str} {data : List Nat} {m : Nat} (hx : x.length ≤ 4000) (hc : ∀ c ∈ x.cps.toList, c < 128) (hd : data.length ≤ 4000) (hd2 : ∀ v ∈ data, v < 32) :
    FnOk prog w H 2 106 [.str x, .list (nints data), .int (m : Int)] (.ok (.bool (pm (expand x.cps.toList ++ data) == m))) := by
  refine FnOk.def (names := ["hrp", "data", "m"]) (n := 1) [] [] (ho := by rfl) (hcd := by kernel_rfl) (hbody := rfl) (hbind := ?_) (hx := fun _ => .nil) (hloc := by decide) (hnd := by decide) (hclo := rfl) (hgl := rfl) (hbi := rfl) (hco := rfl) (hgen := rfl) (hk := rfl) (h := ?_)
  · walk_at "mine.bind3"
  · intro A env hA hE hsc hcode hqual hcl hl
    have hl' : ∃ l, A.frames = some l := let ⟨l, e⟩ := hl; ⟨_, e⟩
    have hxl : (expand x.cps.toList).length = 2 * x.length + 1 := by simp [expand, Str.length]; omega
    have hall : ∀ v ∈ expand x.cps.toList ++ data, v < 32 := by
      intro v hv
      rcases List.mem_append.mp hv with hv | hv
      · exact expand_lt hc v hv
      · exact hd2 v hv
    refine Ex.ret (Ex1.ret (b := false) (Ev.eq (Ev.cmp (Ev.callF hA hl' (by walk_at "mine.v") (EvA.cons (Ev.eq (Ev.bin (Ev.callF hA hl' (by walk_at "mine.v") (by walk_at "mine.e") (fn_expand (by omega)) (by rfl)) (by walk_at "mine.e") (op_addL ?_)) (congrArg PV.list (nints_app _ _).symm)) EvA.nil) (fn_polymod hall) (by rfl)) (by walk_at "mine.e") c_eq) ?_))
    · rw [nints_len, nints_len, hxl]; have : sizeLine = 16777216 := rfl; omega
    · congr 1
      rw [Bool.eq_iff_iff]
      simp only [beq_iff_eq]
      omega
end
end Mine

open PySem PySem.W PySem.Calls PyProof.Rows
set_option Elab.async false
set_option linter.unusedVariables false
set_option maxRecDepth 100000
namespace Mine
local macro_rules | `(tactic| walk_at "mine.k") => `(tactic| first
  | (refine kindOf_of (by assumption) ?_; rfl)
  | (refine kindOf_rel (by assumption) (by assumption) ?_; rfl))
local macro_rules | `(tactic| walk_at "mine.bound") => `(tactic| first
  | (refine Or.inl ?_; walk_at "mine.k")
  | (refine Or.inr ⟨?_, ?_⟩; walk_at "mine.k"; (refine cells_of (by assumption) ?_; intro _; rfl)))
local macro_rules | `(tactic| walk_at "mine.v") => `(tactic| first
  | (refine EvV.boot (by assumption) (by walk_at "mine.k") ?_ ?_; rfl; rfl)
  | (refine EvV.glob (by assumption) (by walk_at "mine.k") ?_; rfl))
local macro_rules | `(tactic| walk_at "mine.e") => `(tactic| first
  | exact Ev.int
  | exact Ev.str
  | exact Ev.bool
  | exact Ev.none
  | (refine Ev.name (by assumption) ?_; rfl)
  | (refine EvV.ev (by walk_at "mine.v") ⟨_, rfl⟩)
  | (refine Ev.neg ?_; walk_at "mine.e")
  | (refine EvA.cons ?_ ?_ <;> walk_at "mine.e")
  | exact EvA.nil
  | (refine Ev.bin ?_ ?_ op_add <;> walk_at "mine.e")
  | (refine Ev.bin ?_ ?_ op_sub <;> walk_at "mine.e")
  | (refine Ev.bin ?_ ?_ op_and <;> walk_at "mine.e")
  | (refine Ev.bin ?_ ?_ op_xor <;> walk_at "mine.e")
  | (refine Ev.bin ?_ ?_ (op_shr ?_) <;> (try walk_at "mine.e")))
local macro_rules | `(tactic| walk_at "mine.sub") => `(tactic| (repeat (first | exact sub_nil | refine sub_cons (by rfl) ?_)))
local macro_rules | `(tactic| walk_at "mine.comp") => `(tactic| exact ⟨free_of (by assumption) (fun _ => by rfl), by decide, rfl, by decide, rfl, by intro q hq; cases hq⟩)
local macro_rules | `(tactic| walk_at "mine.bind1") => `(tactic| (intro s vs T hl; match vs, hl with
  | [v], _ => exact BindsTo.of_eq (by rfl)))
local macro_rules | `(tactic| walk_at "mine.bind2") => `(tactic| (intro s vs T hl; match vs, hl with
  | [v, u], _ => exact BindsTo.of_eq (by rfl)))
local macro_rules | `(tactic| walk_at "mine.bind3") => `(tactic| (intro s vs T hl; match vs, hl with
  | [v, u, x], _ => exact BindsTo.of_eq (by rfl)))

section
variable {prog : Program} {w : World} {H : Heap}
def gensPV : List PV := [.int ((996825010 : Nat) : Int), .int ((642813549 : Nat) : Int), .int ((513874426 : Nat) : Int), .int ((1027748829 : Nat) : Int), .int ((705979059 : Nat) : Int)]
def genOf : Nat → Nat
  | 0 => 996825010
  | 1 => 642813549
  | 2 => 513874426
  | 3 => 1027748829
  | 4 => 705979059
  | _ => 0
theorem gensPV_get {k : Nat} (h : k < 5) : gensPV[k]? = some (.int ((genOf k : Nat) : Int)) := by
  have : k = 0 ∨ k = 1 ∨ k = 2 ∨ k = 3 ∨ k = 4 := by omega
  rcases this with rfl | rfl | rfl | rfl | rfl <;> rfl
def restK (r t : Nat) : Nat → Nat
  | 0 => r
  | k + 1 => if bitOf t k = 1 then restK r t k ^^^ genOf k else restK r t k
theorem restK_eq (r t k : Nat) (hb : bitOf t k = 0 ∨ bitOf t k = 1) : restK r t (k + 1) = restK r t k ^^^ (bitOf t k * genOf k) := by
  rw [restK]
  rcases hb with h | h <;> rw [h] <;> simp
theorem bit01 (t k : Nat) : bitOf t k = 0 ∨ bitOf t k = 1 := by unfold bitOf; omega
theorem restK_5 (r t : Nat) : restK r t 5 = r ^^^ taps t := by
  rw [restK_eq _ _ _ (bit01 _ _), restK_eq _ _ _ (bit01 _ _), restK_eq _ _ _ (bit01 _ _), restK_eq _ _ _ (bit01 _ _), restK_eq _ _ _ (bit01 _ _), restK]
  unfold taps
  simp only [Nat.xor_assoc]
  rfl

theorem fn_rest {ns : List Nat} : FnOk prog w H 1 134 [.list (nints ns)] (.ok (.int ((pm ns : Nat) : Int))) := by
  refine FnOk.def (names := ["values"]) (n := 0) [] [] (ho := by rfl) (hcd := by kernel_rfl) (hbody := rfl) (hbind := ?_) (hx := fun _ => .nil) (hloc := by decide) (hnd := by decide) (hclo := rfl) (hgl := rfl) (hbi := rfl) (hco := rfl) (hgen := rfl) (hk := rfl) (h := ?_)
  · walk_at "mine.bind1"
  · intro A env hA hE hsc hcode hqual hcl hl
    refine Ex.cons (Ex1.assign (b := true) (p := .int ((pm (ns.take 0) : Nat) : Int)) (by walk_at "mine.e") (by walk_at "mine.bound")) ?_
    refine Ex.cons (Ex1.for_ (items := nints ns) (fun i => [("rest", .int ((pm (ns.take i) : Nat) : Int))]) (ItEv.ofList (by walk_at "mine.e")) hA.handled (by walk_at "mine.bound") (by walk_at "mine.sub") ?_) ?_
    · intro i p hp
      unfold nints at hp
      simp only [List.getElem?_map, Option.map_eq_some_iff] at hp
      obtain ⟨v, hv, rfl⟩ := hp
      have e : pm (ns.take (i + 1)) = pmStep (pm (ns.take i)) v := by
        unfold pm
        rw [List.take_add_one, hv]; simp
      rw [e]
      generalize pm (ns.take i) = c at *
      have e0 : (c : Int).fdiv ((2 : Int) ^ (25 : Int).toNat) = ((c >>> 25 : Nat) : Int) := shrN c 25
      have e1 : Builtin.bitAnd (c : Int) 33554431 = ((c &&& 33554431 : Nat) : Int) := andN c 33554431
      have e2 : ((c &&& 33554431 : Nat) : Int) * (2 : Int) ^ (5 : Int).toNat = (((c &&& 33554431) <<< 5 : Nat) : Int) := shlN _ 5
      have e3 : c &&& 33554431 ≤ 33554431 := Nat.and_le_right
      refine Ex.cons (Ex1.assign (b := true) (p := .int ((c >>> 25 : Nat) : Int)) (Ev.eq (Ev.bin (by walk_at "mine.e") (by walk_at "mine.e") (op_shr (by decide))) (congrArg PV.int e0)) (by walk_at "mine.bound")) ?_
      refine Ex.cons (Ex1.assign (b := true) (p := .int (((c &&& 33554431) <<< 5 ^^^ v : Nat) : Int)) (Ev.eq (Ev.bin (Ev.bin (Ev.bin (by walk_at "mine.e") (by walk_at "mine.e") op_and) (by walk_at "mine.e") (op_shl (by decide) (by decide) (by rw [e1]; omega))) (by walk_at "mine.e") op_xor) (congrArg PV.int (by rw [e1, e2, xorN]))) (by walk_at "mine.bound")) ?_
      refine Ex.to (Ex.cons (Ex1.for_ (items := (List.range 5).map fun i : Nat => PV.int (i : Int)) (fun k => [("rest", .int ((restK ((c &&& 33554431) <<< 5 ^^^ v) (c >>> 25) k : Nat) : Int)), ("top", .int ((c >>> 25 : Nat) : Int))]) (ItEv.range (n := 5) (by walk_at "mine.v") Ev.int (by decide)) hA.handled (by walk_at "mine.bound") (by walk_at "mine.sub") ?_) Ex.nil) ?_
      · intro k p hp
        have hk : k < 5 := by
          have := (List.getElem?_eq_some_iff.mp hp).1
          simpa using this
        have hp' : p = .int (k : Int) := by
          rw [List.getElem?_map, List.getElem?_range hk] at hp
          exact (Option.some.inj hp).symm
        subst hp'
        generalize c >>> 25 = t at *
        have f0 : (t : Int).fdiv ((2 : Int) ^ ((k : Int)).toNat) = ((t >>> k : Nat) : Int) := by rw [Int.toNat_natCast]; exact shrN t k
        have f1 : ((t >>> k : Nat) : Int).fmod 2 = ((bitOf t k : Nat) : Int) := by unfold bitOf; rw [Int.fmod_eq_emod_of_nonneg _ (by decide)]; rfl
        refine Ex.to (Ex.cons (Ex1.if_ (b := true) (o := .next [("rest", .int ((restK ((c &&& 33554431) <<< 5 ^^^ v) t (k + 1) : Nat) : Int)), ("top", .int ((t : Nat) : Int))]) (c := bitOf t k == 1)
          (Tr.eq (Tr.cmp (Ev.eq (Ev.bin (Ev.bin (by walk_at "mine.e") (by walk_at "mine.e") (op_shr (by omega))) (by walk_at "mine.e") (op_fmod (by decide))) (congrArg PV.int (by rw [f0, f1]))) (by walk_at "mine.e") c_eq) ?_) ?_ ?_) Ex.nil) (by walk_at "mine.sub")
        · rw [Bool.eq_iff_iff]; simp only [beq_iff_eq]; omega
        · intro hb
          have hb : bitOf t k = 1 := by simpa using hb
          refine Ex.to (Ex.cons (Ex1.assign (b := true) (p := .int ((restK ((c &&& 33554431) <<< 5 ^^^ v) t (k + 1) : Nat) : Int)) (Ev.eq (Ev.bin (by walk_at "mine.e") (Ev.subL (l := gensPV) (p := .int ((genOf k : Nat) : Int)) (Ev.list (EvA.cons Ev.int (EvA.cons Ev.int (EvA.cons Ev.int (EvA.cons Ev.int (EvA.cons Ev.int EvA.nil))))) rfl (by decide)) (by walk_at "mine.e") (by omega) (by omega) (by rw [Int.toNat_natCast]; exact gensPV_get hk)) op_xor) ?_) (by walk_at "mine.bound")) Ex.nil) (by walk_at "mine.sub")
          rw [xorN, restK, if_pos hb]
        · intro hb
          have hb : ¬ bitOf t k = 1 := by simpa using hb
          rw [restK, if_neg hb]
          exact Ex.to Ex.nil (by walk_at "mine.sub")
      · refine sub_cons ?_ sub_nil
        have : ((List.range 5).map fun i : Nat => PV.int (i : Int)).length = 5 := rfl
        rw [this, restK_5]
        rfl
    · refine Ex.ret (Ex1.ret (b := true) (Ev.eq (p := .int ((pm (ns.take ns.length) : Nat) : Int)) ?_ (by rw [List.take_length])))
      have : (nints ns).length = ns.length := by simp [nints]
      rw [this]
      walk_at "mine.e"
end
end Mine

open PySem PySem.W PySem.Calls PyProof.Rows
set_option Elab.async false
set_option linter.unusedVariables false
set_option maxRecDepth 100000
set_option maxHeartbeats 8000000
namespace Mine
local macro_rules | `(tactic| walk_at "mine.k") => `(tactic| first
  | (refine kindOf_of (by assumption) ?_; rfl)
  | (refine kindOf_rel (by assumption) (by assumption) ?_; rfl))
local macro_rules | `(tactic| walk_at "mine.bound") => `(tactic| first
  | (refine Or.inl ?_; walk_at "mine.k")
  | (refine Or.inr ⟨?_, ?_⟩; walk_at "mine.k"; (refine cells_of (by assumption) ?_; intro _; rfl)))
local macro_rules | `(tactic| walk_at "mine.v") => `(tactic| first
  | (refine EvV.boot (by assumption) (by walk_at "mine.k") ?_ ?_; rfl; rfl)
  | (refine EvV.glob (by assumption) (by walk_at "mine.k") ?_; rfl))
local macro_rules | `(tactic| walk_at "mine.e") => `(tactic| first
  | exact Ev.int
  | exact Ev.str
  | exact Ev.bool
  | exact Ev.none
  | (refine Ev.name (by assumption) ?_; rfl)
  | (refine EvV.ev (by walk_at "mine.v") ⟨_, rfl⟩)
  | (refine Ev.neg ?_; walk_at "mine.e")
  | (refine EvA.cons ?_ ?_ <;> walk_at "mine.e")
  | exact EvA.nil
  | (refine Ev.bin ?_ ?_ op_add <;> walk_at "mine.e")
  | (refine Ev.bin ?_ ?_ op_sub <;> walk_at "mine.e")
  | (refine Ev.bin ?_ ?_ op_and <;> walk_at "mine.e")
  | (refine Ev.bin ?_ ?_ op_xor <;> walk_at "mine.e")
  | (refine Ev.bin ?_ ?_ (op_shr ?_) <;> (try walk_at "mine.e")))
local macro_rules | `(tactic| walk_at "mine.sub") => `(tactic| (repeat (first | exact sub_nil | refine sub_cons (by rfl) ?_)))
local macro_rules | `(tactic| walk_at "mine.comp") => `(tactic| exact ⟨free_of (by assumption) (fun _ => by rfl), by decide, rfl, by decide, rfl, by intro q hq; cases hq⟩)
local macro_rules | `(tactic| walk_at "mine.bind1") => `(tactic| (intro s vs T hl; match vs, hl with
  | [v], _ => exact BindsTo.of_eq (by rfl)))
local macro_rules | `(tactic| walk_at "mine.bind2") => `(tactic| (intro s vs T hl; match vs, hl with
  | [v, u], _ => exact BindsTo.of_eq (by rfl)))
local macro_rules | `(tactic| walk_at "mine.bind3") => `(tactic| (intro s vs T hl; match vs, hl with
  | [v, u, x], _ => exact BindsTo.of_eq (by rfl)))

section
variable {prog : Program} {w : World} {H : Heap}
def S (l : List Nat) : Str := ⟨l.toArray⟩
theorem S_cps (l : List Nat) : (S l).cps.toList = l := by simp [S]
theorem S_len (l : List Nat) : (S l).length = l.length := by simp [S, Str.length]
theorem S_app (l r : List Nat) : S l ++ S r = S (l ++ r) := by
  show (⟨_⟩ : Str) = ⟨_⟩
  simp [S]
theorem S_inj {l r : List Nat} (h : S l = S r) : l = r := by
  have := congrArg (fun x : Str => x.cps.toList) h
  simpa [S] using this
theorem glue_go : ∀ (l : List Nat) (acc : Array Nat), (l.map chr1).foldl (fun acc p => acc ++ Str.empty.cps ++ p.cps) acc = acc ++ l.toArray
  | [], acc => by simp
  | c :: r, acc => by
    rw [List.map_cons, List.foldl_cons, glue_go r]
    simp [chr1, Str.empty]
theorem join_chr (l : List Nat) : Txt.join Str.empty (l.map chr1) = S l := by
  unfold Txt.join Builtin.Str.glued S
  cases l with
  | nil => rfl
  | cons c r =>
    congr 1
    have := glue_go r #[c]
    simpa [chr1] using this
theorem chr1_len (c : Nat) : (chr1 c).length = 1 := rfl
theorem sum_chr (l : List Nat) : ((l.map chr1).map (·.length)).sum = l.length := by
  induction l with
  | nil => rfl
  | cons c r ih => simp only [List.map_cons, List.sum_cons, ih, List.length_cons, chr1_len]; omega

theorem ofS_empty : Str.ofString "" = Str.empty := by kernel_rfl
def alphL : List Nat := [113, 112, 122, 114, 121, 57, 120, 56, 103, 102, 50, 116, 118, 100, 119, 48, 115, 51, 106, 110, 53, 52, 107, 104, 99, 101, 54, 109, 117, 97, 55, 108]
def sign (v : Nat) : Nat := alphL.getD v 0
def lawL (hd data : List Nat) (m : Nat) : List Nat := hd ++ [49] ++ (data ++ cksum (expand hd ++ data) m).map sign

theorem cksum_len (xs : List Nat) (m : Nat) : (cksum xs m).length = 6 := by simp [cksum]
theorem cksum_lt (xs : List Nat) (m : Nat) : ∀ v ∈ cksum xs m, v < 32 := by
  intro v hv
  unfold cksum at hv
  obtain ⟨i, _, rfl⟩ := List.mem_map.mp hv
  have : ∀ z : Nat, z &&& 31 ≤ 31 := fun z => Nat.and_le_right
  have := this ((pm (xs ++ List.replicate 6 0) ^^^ m) >>> (5 * (5 - i)))
  omega
theorem alph_get {v : Nat} (h : v < 32) : alphL[v]? = some (sign v) := by
  unfold sign
  rw [List.getD_eq_getElem?_getD]
  have : v < alphL.length := h
  rw [List.getElem?_eq_getElem this]; rfl

def gs : PV → PV
  | .int i => .str (chr1 (sign i.toNat))
  | _ => .none
theorem gs_pv (l : List Nat) : (nints l).map gs = ((l.map sign).map chr1).map PV.str := by
  unfold nints
  simp [gs]

theorem high_pv (hd : List Nat) : (signs (S hd)).map g5 = nints (hd.map (· >>> 5)) := by
  unfold signs nints
  rw [S_cps]
  simp
  intro c _
  rfl
theorem low_pv (hd : List Nat) : (signs (S hd)).map g31 = nints (hd.map (· &&& 31)) := by
  unfold signs nints
  rw [S_cps]
  simp
  intro c _
  rfl
theorem nints_prim (l : List Nat) : (nints l).all PV.isPrim = true := by simp [nints, PV.isPrim]

theorem ex_high {A : Around} {env : Env} {ρ : Rho} {y cx : Str} {py px pos spos : Pos} {scope : Scope} {elt iter : Expr} {x : Str} {g : PV → PV} (hg : ∀ c, ∃ n : Nat, g (.str (chr1 c)) = .int n) (hh : A.handled = none) (hE : EnvOk env) (hx : x.length ≤ 4096)
    (hi : Ev prog w H true A env ρ iter (.str x)) (hC : CompOk env scope cx []) (hy : env.kindOf y = some .local)
    (hel : ∀ cenv, EnvOk cenv → cenv.scope = relabel scope env → ∀ c, Ev prog w H true A cenv [(cx, .str (chr1 c))] elt (g (.str (chr1 c))))
    (hsw : swapsWith (.ListComp elt [⟨.Name cx px, iter, [], 0⟩] scope pos) (some (.Name y py)) spos.line env = pure true)
    (hs : ∀ v, foldedSetIterable iter env v = pure v := by intro _; rfl) : Ex1 prog w H A env ρ (.Assign [.Name y py] (.ListComp elt [⟨.Name cx px, iter, [], 0⟩] scope pos) spos) (.next ((y, .list ((signs x).map g)) :: ρ)) := by
  refine Ex1.comp (items := signs x) [] g (ItEv.ofStr hi) hh hE hC (by intro q hq; cases hq) hy ?_ ?_ (by rw [signs_len]; exact Nat.le_trans hx (by decide)) hsw hs
  · intro cenv h1 h2 p hp
    unfold signs at hp
    obtain ⟨c, _, rfl⟩ := List.mem_map.mp hp
    exact hel cenv h1 h2 c
  · intro p hp
    unfold signs at hp
    obtain ⟨c, _, rfl⟩ := List.mem_map.mp hp
    obtain ⟨n, e⟩ := hg c
    rw [e]; rfl

theorem fn_text {hd data : List Nat} {m : Nat} (hx : hd.length ≤ 90) (hc : ∀ c ∈ hd, c < 128) (hd1 : data.length ≤ 90) (hd2 : ∀ v ∈ data, v < 32) :
    FnOk prog w H 2 139 [.str (S hd), .list (nints data), .int (m : Int)] (.ok (.str (S (lawL hd data m)))) := by
  refine FnOk.def (names := ["head", "data", "constant"]) (n := 1) [] [] (ho := by rfl) (hcd := by kernel_rfl) (hbody := rfl) (hbind := ?_) (hx := fun _ => .nil) (hloc := by decide) (hnd := by decide) (hclo := rfl) (hgl := rfl) (hbi := rfl) (hco := rfl) (hgen := rfl) (hk := rfl) (h := ?_)
  · walk_at "mine.bind3"
  · intro A env hA hE hsc hcode hqual hcl hl
    have hl' : ∃ l, A.frames = some l := let ⟨l, e⟩ := hl; ⟨_, e⟩
    have zz : sizeLine = 16777216 := rfl
    refine Ex.cons (ex_high (x := S hd) (g := g5) (fun c => ⟨_, rfl⟩) hA.handled hE (by rw [S_len]; omega) (by walk_at "mine.e") (by walk_at "mine.comp") (by walk_at "mine.k") ?_ (swaps_true hE (by walk_at "mine.k") rfl rfl)) ?_
    · intro cenv hEc hsc' c
      exact Ev.eq (Ev.bin (Ev.callB (by walk_at "mine.v") (by walk_at "mine.e") c_ord) (by walk_at "mine.e") (op_shr (by decide))) (congrArg PV.int (shrN c 5))
    rw [high_pv]
    refine Ex.cons (ex_high (x := S hd) (g := g31) (fun c => ⟨_, rfl⟩) hA.handled hE (by rw [S_len]; omega) (by walk_at "mine.e") (by walk_at "mine.comp") (by walk_at "mine.k") ?_ (swaps_true hE (by walk_at "mine.k") rfl rfl)) ?_
    · intro cenv hEc hsc' c
      exact Ev.eq (Ev.bin (Ev.callB (by walk_at "mine.v") (by walk_at "mine.e") c_ord) (by walk_at "mine.e") op_and) (congrArg PV.int (andN c 31))
    rw [low_pv]
    generalize hP : pm (expand hd ++ data ++ List.replicate 6 0) ^^^ m = P
    refine Ex.cons (Ex1.assign (b := false) (p := .int (P : Int)) ?_ ?_) ?_
    · refine Ev.eq (Ev.bin (Ev.callF hA hl' (by walk_at "mine.v") (EvA.cons (p := .list (nints (expand hd ++ data ++ List.replicate 6 0))) ?_ EvA.nil) (fn_rest) (by rfl)) (by walk_at "mine.e") op_xor) ?_
      · refine Ev.eq (Ev.bin (Ev.bin (Ev.bin (Ev.bin (by walk_at "mine.e") (Ev.list (EvA.cons Ev.int EvA.nil) rfl (by decide)) (op_addL ?_)) (by walk_at "mine.e") (op_addL ?_)) (by walk_at "mine.e") (op_addL ?_))
          (Ev.mulDisp (EvA.cons Ev.int EvA.nil) rfl Ev.int (by decide) (by decide) (by decide) (by decide) (by decide)) (op_addL ?_)) ?_
        · simp only [nints_len, List.length_map, List.length_cons, List.length_nil]; omega
        · simp only [nints_len, List.length_map, List.length_append, List.length_cons, List.length_nil]; omega
        · simp only [nints_len, List.length_map, List.length_append, List.length_cons, List.length_nil]; omega
        · simp only [nints_len, List.length_map, List.length_append, List.length_cons, List.length_nil]
          have : (List.replicate (6 : Int).toNat [PV.int 0]).flatten.length = 6 := rfl
          rw [this]; omega
        · unfold expand
          simp only [nints_app]
          rfl
      · rw [xorN, hP]
    · refine Or.inr ⟨?_, ?_⟩
      · refine kindOf_of hsc ?_
        rfl
      · refine cells_of hcl ?_
        intro n
        rfl
    refine Ex.cons (Ex1.assign (b := true) (p := .str (S alphL)) Ev.str (Or.inr ⟨kindOf_of hsc (by rfl), cells_of hcl (fun _ => by rfl)⟩)) ?_
    refine Ex.cons (Ex1.comp (items := (List.range 6).map fun i : Nat => PV.int (i : Int)) [("rest", .int (P : Int))] (gk P) (ItEv.range (n := 6) (by walk_at "mine.v") Ev.int (by decide)) hA.handled hE
      ⟨free_of hcl (fun _ => by rfl), by decide, rfl, by decide, rfl, ?_⟩ ?_ (by walk_at "mine.k") ?_ ?_ (by decide) (swaps_true hE (by walk_at "mine.k") rfl rfl)) ?_
    · intro q hq
      simp only [List.mem_cons, List.not_mem_nil, or_false] at hq
      subst hq
      exact ⟨rfl, by walk_at "mine.k"⟩
    · intro q hq
      simp only [List.mem_cons, List.not_mem_nil, or_false] at hq
      subst hq
      rfl
    · intro cenv hEc hsc' p hp
      obtain ⟨i, hi, rfl⟩ := List.mem_map.mp hp
      have hi := List.mem_range.mp hi
      refine Ev.eq (Ev.bin (Ev.bin (by walk_at "mine.e") (Ev.bin (by walk_at "mine.e") (Ev.bin (by walk_at "mine.e") (by walk_at "mine.e") (op_mul (IntMulOk.of_left (by decide)))) op_sub) (op_shr ?_)) (by walk_at "mine.e") op_and) ?_
      · omega
      · unfold gk
        rw [shrN, show (31 : Int) = ((31 : Nat) : Int) from rfl, andN]
        congr 4
        omega
    · intro p hp
      obtain ⟨i, hi, rfl⟩ := List.mem_map.mp hp
      rfl
    rw [cksum_pv]
    have hck : (List.range 6).map (fun i => (P >>> (5 * (5 - i))) &&& 31) = cksum (expand hd ++ data) m := by unfold cksum; rw [hP]
    rw [hck]
    have hlt : ∀ v ∈ data ++ cksum (expand hd ++ data) m, v < 32 := fun v hv => (List.mem_append.mp hv).elim (hd2 v) (cksum_lt _ _ v)
    have hlen : (data ++ cksum (expand hd ++ data) m).length ≤ 96 := by rw [List.length_append, cksum_len]; omega
    refine Ex.ret (Ex1.ret (b := true) (Ev.eq (Ev.bin (q := .str (Txt.join (Str.ofString "") (((data ++ cksum (expand hd ++ data) m).map sign).map chr1))) (Ev.bin (by walk_at "mine.e") Ev.str (op_addS ?_)) ?jj (op_addS ?_)) ?_))
    case jj =>
      refine Ev.meth1 (id := "str.join") (x := Str.ofString "") (ps := [.list ((((data ++ cksum (expand hd ++ data) m).map sign).map chr1).map PV.str)]) Ev.str m_join ?_ (c_join ?_)
      · refine EvA.cons ?_ EvA.nil
        rw [← gs_pv]
        refine Ev.comp (items := nints (data ++ cksum (expand hd ++ data) m)) [("signs", .str (S alphL))] gs (ItEv.ofList (Ev.eq (Ev.bin (by walk_at "mine.e") (by walk_at "mine.e") (op_addL ?_)) (congrArg PV.list (nints_app _ _).symm))) hA.handled hE
          ⟨free_of hcl (fun _ => by rfl), by decide, rfl, by decide, rfl, ?_⟩ ?_ ?_ ?_ ?_
        · rw [nints_len, nints_len, cksum_len]; omega
        · intro q hq
          simp only [List.mem_cons, List.not_mem_nil, or_false] at hq
          subst hq
          exact ⟨rfl, by walk_at "mine.k"⟩
        · intro q hq
          simp only [List.mem_cons, List.not_mem_nil, or_false] at hq
          subst hq
          rfl
        · intro cenv hEc hsc' p hp
          obtain ⟨i, hi, rfl⟩ := List.mem_map.mp hp
          have hi := hlt i hi
          refine Ev.subS (x := S alphL) (c := sign i) (i := i) (by walk_at "mine.e") (by walk_at "mine.e") (by omega) (by omega) ?_
          rw [Int.toNat_natCast]
          have := alph_get hi
          simpa [S] using this
        · intro p hp
          obtain ⟨i, hi, rfl⟩ := List.mem_map.mp hp
          rfl
        · rw [nints_len]; omega
      · rw [sum_chr]
        simp only [List.length_map]
        have : (Str.ofString "").length = 0 := by kernel_rfl
        rw [this]; omega
    · rw [S_len]; have : (Str.ofString "1").length = 1 := by kernel_rfl
      omega
    · rw [ofS_empty, join_chr, S_len, strLen_append, S_len]; have : (Str.ofString "1").length = 1 := by kernel_rfl
      simp only [List.length_map]
      omega
    · rw [ofS_empty, join_chr]
      have : Str.ofString "1" = S [49] := by kernel_rfl
      rw [this, S_app, S_app]
      rfl
end
end Mine

open PySem PySem.W PySem.Calls PyProof.Rows
set_option Elab.async false
set_option linter.unusedVariables false
set_option maxRecDepth 100000
set_option maxHeartbeats 8000000
namespace Mine

theorem cls_of {K : Frag} {h : Heap} {C : Addr} {bmB : List Value} {newId : String} (X : K.In h) (q : excIn K C bmB newId = true) : ∃ bm N nm qn bs hd sn sub ab col dd k0 k1 k2 k3 k5 mN,
    h.get? C = some (excClassObj nm qn C N bs bm hd sn sub ab col dd k0 k1 k2 k3 k5 newId) ∧ h.Ns N mN ∧ mN "__init__" = none ∧ OwnTail h bmB bm := by
  rw [excIn.eq_def] at q
  split at q
  case h_2 => exact absurd q (by decide)
  case h_1 dd cd sl hob =>
    split at q
    case h_2 => exact absurd q (by decide)
    case h_1 D bm k0 k1 k2 k3 id k5 hmro hslots =>
      have z : ((((D = C ∧ id = newId) ∧ cd.hasDel = false) ∧ tailIn K bmB bm = true) ∧ nsOkIn K cd.ns = true) ∧ nsIn K cd.ns "__init__" = some none := by simpa using q
      have same : (⟨.type "type", dd, .cls cd, sl⟩ : Obj) = excClassObj cd.name cd.qualname C cd.ns cd.bases bm cd.hasDict cd.slotNames cd.subclasses cd.abstract cd.collection dd k0 k1 k2 k3 k5 newId := by
        cases cd; cases sl; simp_all [excClassObj]
      exact ⟨_, _, _, _, _, _, _, _, _, _, _, _, _, _, _, _, _, same ▸ X C _ hob, Heap.Ns.of_isNs (isNs_of_in X z.1.2), nsMap_none_of_in X z.1.2 z.2, tail_of_in X z.1.1.2⟩

section
variable {prog : Program} {w : World} {H : Heap} {b : Bool} {A : Around} {env : Env} {ρ ρ' : Rho}

/-- raise C(..) -/
theorem Ex1.raise {x : Str} {np cpos pos : Pos} {e : Expr} {rest : List Expr} {C : Addr} {ps : List PV} {Bn newId inN B nid initId : String} {bmN bmB : List Value} (hf : EvV prog w H A env ρ (.Name x np) (.ref C)) (ha : EvA prog w H true A env ρ (e :: rest) ps) (hh : A.handled = Option.none)
    (q : excIn (KF w.params) C bmB newId = true) (Fn : ExcBaseFacts Bn newId inN bmN) (hBn : bmB.contains (.type Bn) = true) (FB : ExcBaseFacts B nid initId bmB)
    (hz : ps.length ≤ sizeLine)
    (he : starEach (e :: rest) env = (false, eval e env) :: starEach rest env := by rfl) (hp : (backTo cpos (starEach rest env)).any (·.1) = false := by rfl) :
    Ex1 prog w H A env ρ (.Raise (some (.Call (.Name x np) (e :: rest) [] cpos)) Option.none pos) (.exc C) := fun s₀ s F R => by
  obtain ⟨tl, N, nm, qn, bs, hd, sn, sub, ab, col, dd, k0, k1, k2, k3, k5, mN, hC, hN, noInit, tail⟩ := cls_of (R.top F).K q
  have flat : (backTo cpos (starEach (e :: rest) env)).any (·.1) = false := by rw [he]; exact hp
  have args : wpAny (model prog w) A (evalArgs (.ref C) true (backTo cpos (starEach (e :: rest) env)) []) (fun a s₂ => a.kw = [] ∧ a.pos.length ≤ sizeLine ∧ s₂.heap.get? C = some (excClassObj nm qn C N bs tl hd sn sub ab col dd k0 k1 k2 k3 k5 newId) ∧ s₂.heap.Ns N mN ∧ OwnTail s₂.heap bmB tl ∧
      ∀ h' e, Heap.MadeExcOf s₂.heap h' e (.ref C) a.pos → OutE prog H w A env s₀ (.exc C) (.ref e) { s₂ with heap := h' }) (OutE prog H w A env s₀ (.exc C)) s := by
    have ev := ha s (OutE prog H w A env s₀ (.exc C)) cpos (R.st F)
    rw [he] at ev ⊢
    refine evalArgs_plain (wpAny_mono ev (fun vs s₂ got => ?_) fun _ _ x => x)
    have kk := Keeps.kk got.1
    exact ⟨rfl, Reps.length got.2 ▸ hz, kk _ _ hC, hN.keeps kk, tail.keeps kk, fun h' x made => ⟨x, rfl, .inl ⟨s₂, vs, (R.step (.of_keeps got.1)).weak (by intro _ _ r; cases r), rfl, rfl, made⟩⟩⟩
  exact wpAny_Raise_call_subU Fn hBn FB (tail.hasType FB.hasBase) hh flat noInit (hf s _ _ (R.st F) ⟨rfl, args⟩)

/-- a loop that ends by an exception in its k-th turn -/
theorem Ex1.forExc {x : Str} {px : Pos} {iter : Expr} {body : List Stmt} {pos : Pos} {items : List PV} {C : Addr} (k : Nat) (p0 : PV) (hk0 : items[k]? = some p0) (I : Nat → Rho) (hi : ItEv prog w H A env ρ iter items) (hh : A.handled = Option.none) (hk : Bound env x)
    (h0 : ∀ y p, (I 0).lookup y = some p → ρ.lookup y = some p)
    (step : ∀ i p, i < k → items[i]? = some p → Ex prog w H A env ((x, p) :: I i) body (.next (I (i + 1))))
    (last : Ex prog w H A env ((x, p0) :: I k) body (.exc C))
    (hs : ∀ v, foldedSetIterable iter env v = pure v := by intro _; rfl) : Ex1 prog w H A env ρ (.For (.Name x px) iter body [] pos) (.exc C) := fun s₀ s F R => by
  have hkl : k < items.length := (List.getElem?_eq_some_iff.mp hk0).1
  refine wpAny_For (wpAny_mono (hi s (OutE prog H w A env s₀ (.exc C)) (R.st (b := true) F)) (fun xv s₁ h1 => wpAny_mono h1 (fun it s₂ h2 => ?_) fun _ _ x => x) fun _ _ x => x) hs
  obtain ⟨kp, Ia, fp, wr, S, rfl, Rd⟩ := h2
  have hw : ∀ b ∈ wr, s₀.heap.get? b = Option.none := fun b hb => by
    have := Rd.new b hb
    cases e : s₀.heap.get? b with
    | none => rfl
    | some o =>
      exfalso
      by_cases n : IsT b o
      · obtain ⟨_, p, _⟩ := n
        have T := R.top F
        rcases p with rfl | rfl
        · obtain ⟨_, e', _⟩ := T.t70; rw [this] at e'; cases e'
        · obtain ⟨_, e', _⟩ := T.t122; rw [this] at e'; cases e'
      · rcases R.kp.grow.obj b o e n with k | ⟨_, _, sl, k⟩
        · rw [this] at k; cases k
        · rw [this] at k; cases k
  refine codeAny_forLoop (fun k' s' => ∃ i, k' = items.length + 1 - i ∧ i ≤ k ∧ S i s'.heap ∧ Run H w A env (I i) s₀ s' ∧ Stp (fsOf A) env s s') ?_ (items.length + 1)
    ⟨0, rfl, Nat.zero_le _, Rd.start, (R.weak h0).step (.of_keeps kp), .of_kp (.of_keeps kp)⟩
  rintro k' s' ⟨i, rfl, hile, hst, R', stp⟩
  have hlt : i < items.length := Nat.lt_of_le_of_lt hile hkl
  refine (Rd.walks A hh).item i s' _ _ hlt hst fun v h' tk hP hst1 hk1 => ?_
  obtain ⟨p, hp, hv⟩ := hP
  have R1 := R'.iter (s' := s') (tk := tk) hw (Rd.flds i _ hst) hk1
  dsimp only
  refine wpAny_assign_Name (wpAny_mono (wp_store F R1 hk hv.rep) (fun _ s3 h3 => ?_) fun _ _ x => x)
  obtain ⟨R3, stp3⟩ := h3
  by_cases hik : i < k
  · refine wpAny_mono (step i p hik hp s₀ s3 F R3) (fun f s4 h4 => ?_) fun _ _ x => x.elim
    obtain ⟨rfl, R4, stp4⟩ := h4
    refine ⟨items.length + 1 - (i + 1), by omega, i + 1, rfl, hik, ?_, R4, ?_⟩
    · refine (Rd.walks A hh).frame _ _ _ hst1 fun b hb o e => ?_
      obtain ⟨o', e', hs'⟩ := Rd.solid _ _ hst1 b hb
      rw [e] at e'; cases e'
      exact stp4.solid R3 (stp3.solid R1 e hs') hs'
    · refine Stp.trans ?_ (stp3.trans stp4)
      refine ⟨fun b o hb1 hb2 e n => ?_, fun P hP ps e t => ?_⟩
      · have hbw : b ∉ wr := fun hb => by rw [Rd.new b hb] at e; cases e
        rcases stp.obj b o hb1 hb2 e n with k | ⟨c, f, sl, k⟩
        · exact .inl (hk1 b _ hbw k)
        · exact .inr ⟨c, f, sl, hk1 b _ hbw k⟩
      · have hbw : P ∉ wr := fun hb => by rw [Rd.new P hb] at e; cases e
        obtain ⟨m, k, t'⟩ := stp.tab P hP ps e t
        exact ⟨m, hk1 P _ hbw k, t'⟩
  · have hik' : i = k := Nat.le_antisymm hile (Nat.not_lt.mp hik)
    subst hik'
    rw [hk0] at hp; cases hp
    refine wpAny_mono (last s₀ s3 F R3) (fun f s4 h4 => h4.elim) fun ev s4 h4 => ?_
    obtain ⟨l, hl, hfl⟩ := F.fr
    have h4 : ExcIn prog H w A env s₀ C ev s4 := h4
    have hev : ∃ e, ev = .ref e := let ⟨e, he, _⟩ := h4; ⟨e, he⟩
    obtain ⟨e, rfl⟩ := hev
    have lv := leave_exc (E := fun _ _ => False) F hl h4
    have := wpAny_leaving_again (A' := A) (A'' := A) (SameStack.refl A) (what := "frame.own-activation:exception-without-traceback") (E₂ := OutE prog H w A env s₀ (.exc C)) (E₃ := cameBackBy (model prog w) A env (OutE prog H w A env s₀ (.exc C))) lv
    refine wpAny_mono this (fun _ s5 h5 => ?_) fun _ _ x => x
    exact wpAny_mono h5 (fun _ s6 h6 => ⟨e, rfl, .inr (.inr ⟨l, hl, h6⟩)⟩) fun _ _ x => x

/-! try -/
theorem Fly.up {l : List Env} {s s' : Shared} {C e : Addr} {h' : Heap} {B : Heap} {a0 : Value} (X : Fly l s C e s')
    (hobj : ∀ b o, b ∉ l.filterMap (·.frame) → s.heap.get? b = some o → ¬ IsT b o → B.get? b = some o)
    (htab : ∀ P, P = 70 ∨ P = 122 → ∀ ps, s.heap.get? P = some (tabObj ps) → TriplesOk ps.toList → ∃ more, B.get? P = some (tabObj (ps ++ more)) ∧ TriplesOk (ps ++ more).toList)
    (hfl : Heap.FlyingW B l e (.ref C) a0 h') (u : s'.heap.UpToSlots h') : Fly l s C e { s' with heap := h' } where
  os := X.os
  gens := X.gens
  on := ⟨B, a0, hfl, hobj, htab⟩
  slots := fun b o hb e hd => by
    obtain ⟨sl, k⟩ := X.slots b o hb e hd
    obtain ⟨sl', k'⟩ := u _ _ k hd
    exact ⟨sl', k'⟩

def ExF (prog : Program) (w : World) (H : Heap) (A : Around) (env : Env) (ρ : Rho) (body : List Stmt) (C : Addr) : Prop := ∀ s₀ s, FrameOk H w A env s₀ → Run H w A env ρ s₀ s →
  wpAny (model prog w) A (execs body env) (fun _ _ => False) (fun ev s' => ∃ e l s₁, ev = .ref e ∧ Run H w A env ρ s₀ s₁ ∧ A.frames = some l ∧ Fly l s₁ C e s') s

theorem ExF.retCall {fx : Str} {fp : Pos} {e : Expr} {rest : List Expr} {pos rpos : Pos} {f : Addr} {n : Nat} {ps : List PV} {C : Addr}
    (hA : AOk n A) (hl : ∃ l, A.frames = some l) (hf : EvV prog w H A env ρ (.Name fx fp) (.ref f)) (ha : EvA prog w H false A env ρ (e :: rest) ps) (hc : FnOk prog w H n f ps (.exc C)) (hk : keepIn (KF w.params) (.ref f) = true)
    (he : starEach (e :: rest) env = (false, eval e env) :: starEach rest env := by rfl)
    (hp : (backTo pos (starEach rest env)).any (·.1) = false := by rfl) : ExF prog w H A env ρ [.Return (some (.Call (.Name fx fp) (e :: rest) [] pos)) rpos] C := fun s₀ s F R => by
  refine wpAny_execs_cons (wpAny_Return_some (wp_callF (R.st F) hA hl hf ha hc hk (fun s₁ r s' k h => ?_) he hp))
  obtain ⟨e, l, rfl, hl', X⟩ := h
  exact ⟨e, l, s₁, rfl, R.step k, hl', X⟩

/-- handlers that give back a text -/
inductive Catch (prog : Program) (w : World) (H : Heap) (A : Around) (env : Env) (ρ : Rho) (C : Addr) : List ExceptHandler → Str → Prop
  | hit {x : Str} {np rp rpos hpos : Pos} {k : Nat} {D : Addr} {r : Str} {rest : List ExceptHandler} : (∀ m, EvV prog w H (A.mark m) env ρ (.Name x np) (.ref D)) → exmOne (KF w.params) (.ref C) (.ref D) = some true →
      Catch prog w H A env ρ C (.ExceptHandler (some (.Name x np)) Option.none [.Return (some (.Constant (.str r) k rp)) rpos] hpos :: rest) r
  | miss {x : Str} {np hpos : Pos} {D : Addr} {r : Str} {b₀ : Stmt} {suite : List Stmt} {rest : List ExceptHandler} : (∀ m, EvV prog w H (A.mark m) env ρ (.Name x np) (.ref D)) → exmOne (KF w.params) (.ref C) (.ref D) = some false → Catch prog w H A env ρ C rest r →
      Catch prog w H A env ρ C (.ExceptHandler (some (.Name x np)) Option.none (b₀ :: suite) hpos :: rest) r

theorem handle_ok {C : Addr} {r : Str} {E : Value → Shared → Prop} {s₀ s₁ : Shared} {l : List Env} {e : Addr} (F : FrameOk H w A env s₀) (R : Run H w A env ρ s₀ s₁) (hl : A.frames = some l) :
    ∀ {hs : List ExceptHandler}, Catch prog w H A env ρ C hs r → ∀ s', Fly l s₁ C e s' →
      wpAny (model prog w) A (handleBy (.ref e) env hs) (fun f s'' => (∃ t, f = .ret (.str r t)) ∧ Run H w A env ρ s₀ s'') E s' := by
  intro hs hc
  induction hc with
  | hit hx hm =>
    intro s' X
    have R' : Run H w A env ρ s₀ s' := R.step (X.kp hl (R.frames F l hl))
    obtain ⟨B, a0, hfl, hobj, htab⟩ := id X.on
    obtain ⟨ob, hob, hcls⟩ := hfl.there
    refine wpAny_handleBy_cons (codeAny_handlers_test (hx _ s' _ _ (R'.st (b := true) F).up ?_)) (by intro q; cases q)
    have LT : Looks (model prog w) s'.heap (typeOf (.ref e)) (.ref C) := by rw [← hcls]; exact (Looks.ld hob).andThen .now
    refine (exm_one (R'.top F).K LT hm).here ?_
    refine codeAny_handlers_suite (lands_againW hfl fun h6 hfl6 hup => ?_)
    have X6 := X.up hobj htab hfl6 hup
    have R6 : Run H w A env ρ s₀ { s' with heap := h6 } := R.step (X6.kp hl (R.frames F l hl))
    refine wpAny_execs_cons (wpAny_Return_some (Constant_str ?_))
    exact ⟨⟨_, rfl⟩, R6.step (.of_keeps Keeps.tk)⟩
  | miss hx hm _ ih =>
    intro s' X
    have R' : Run H w A env ρ s₀ s' := R.step (X.kp hl (R.frames F l hl))
    obtain ⟨B, a0, hfl, hobj, htab⟩ := id X.on
    obtain ⟨ob, hob, hcls⟩ := hfl.there
    refine wpAny_handleBy_cons (codeAny_handlers_test (hx _ s' _ _ (R'.st (b := true) F).up ?_)) (by intro q; cases q)
    have LT : Looks (model prog w) s'.heap (typeOf (.ref e)) (.ref C) := by rw [← hcls]; exact (Looks.ld hob).andThen .now
    refine (exm_one (R'.top F).K LT hm).here ?_
    exact ih s' X

theorem Ex1.tryExc {body : List Stmt} {h₀ : ExceptHandler} {hs : List ExceptHandler} {pos : Pos} {C : Addr} {r : Str} (hb : ExF prog w H A env ρ body C) (hc : Catch prog w H A env ρ C (h₀ :: hs) r) : Ex1 prog w H A env ρ (.Try body (h₀ :: hs) [] [] pos) (.ret (.str r)) := fun s₀ s F R => by
  refine wpAny_Try_except (wpAny_mono (hb s₀ s F R) (fun _ _ q => q.elim) fun ev s' q => ?_)
  obtain ⟨e, l, s₁, rfl, R₁, hl, X⟩ := q
  obtain ⟨l₀, hl₀, _⟩ := id F.fr
  have hll : l = env :: l₀ := by rw [hl] at hl₀; exact Option.some.inj hl₀
  subst hll
  obtain ⟨B, a0, hfl, hobj, htab⟩ := id X.on
  refine wpAny_looks_onW hl₀ F.frame hfl fun h4 hheld hup4 => ?_
  refine wpAny_landsW hheld fun h5 hfl5 hup5 => ?_
  have X5 := X.up hobj htab hfl5 (hup4.trans hup5)
  refine wpAny_mono (handle_ok F R₁ hl hc _ X5) (fun f s'' q => ?_) fun _ _ x => x
  obtain ⟨⟨t, rfl⟩, R''⟩ := q
  exact ⟨_, rfl, R''.weak (by intro _ _ q; cases q), t, rfl⟩
theorem Ex1.tryRet {body : List Stmt} {h₀ : ExceptHandler} {hs : List ExceptHandler} {pos : Pos} {p : PV} (hb : Ex prog w H A env ρ body (.ret p)) : Ex1 prog w H A env ρ (.Try body (h₀ :: hs) [] [] pos) (.ret p) := fun s₀ s F R => by
  refine wpAny_Try_except (wpAny_mono (hb s₀ s F R) (fun f s' q => ?_) fun _ _ x => x.elim)
  obtain ⟨v, rfl, q⟩ := q
  exact ⟨v, rfl, q⟩
end
end Mine

open PySem PySem.W PySem.Calls PyProof.Rows
set_option Elab.async false
set_option linter.unusedVariables false
set_option maxRecDepth 100000
set_option maxHeartbeats 8000000
namespace Mine

theorem passing_all (n : Nat) : passing (fun _ => true) n 0 = List.range n := by
  unfold passing
  rw [List.drop_zero]
  exact List.filter_eq_self.mpr fun _ _ => rfl

section
variable {prog : Program} {w : World} {H : Heap} {A : Around} {env : Env} {ρ : Rho}

/-- a generator just made -/
structure GenNew (prog : Program) (w : World) (A : Around) (s : Shared) (a : Addr) (items : List PV) (g : PV → PV) (s' : Shared) : Prop where
  walk : ∃ fp wr gi St, WalksS prog w A.in4 a fp wr (GenOnlyQ gi) items.length (fun j y => ∃ p, items[j]? = some p ∧ Prim y (g p)) St ∧ St 0 s' ∧ (∀ i u, St i u → u.TypeIs (.ref a) "generator") ∧ a ∈ fp ∧ (∀ b ∈ fp, b < s'.heap.objs.size) ∧ (∀ b ∈ wr, s.heap.get? b = none)

theorem grow_tab {h h' : Heap} {P : Addr} {ps more : Array Value} (hP : P = 70 ∨ P = 122) (hx : Heap.ExtBut P h h') (e : h.get? P = some (tabObj ps)) (e' : h'.get? P = some (tabObj (ps ++ more))) (t' : TriplesOk (ps ++ more).toList) : Grow [] h h' where
  obj := fun b o eb n => .inl (hx b o (fun q => by
    subst q
    rw [e] at eb; cases eb
    exact n ⟨rfl, hP, ps, rfl⟩) eb)
  tab := fun P' hP' ps' eb t => by
    by_cases hq : P' = P
    · subst hq
      rw [e] at eb
      have : ps = ps' := by have := Option.some.inj eb; injection this with _ _ h3 _; injection h3
      subst this
      exact ⟨more, e', t'⟩
    · exact ⟨#[], by rw [Array.append_empty]; exact hx _ _ hq eb, by rw [Array.append_empty]; exact t⟩

theorem wp_gen {elt iter : Expr} {x : Str} {px pos : Pos} {scope : Scope} {items : List PV} {c P : Addr} (g : PV → PV) (hP : P = 70 ∨ P = 122) (hcode : env.code = .ref c) (hcd : codeHdIn (KF w.params) c P = true)
    (hi : ItEv prog w H A env ρ iter items) (hh : A.handled = none) (hE : EnvOk env) (hroom : A.depth < recursionLimit)
    (hco : scope.isCoroutine = false) (hfree : ∀ y ∈ scope.names, y.2 ≠ .free) (hcell : ∀ y ∈ scope.names, y.2 ≠ .cell) (h0 : scope.names.lookup (".0" : Str) = some NameKind.local) (hx : scope.names.lookup x = some .local) (hkind : scope.kind = .function)
    (hel : ∀ (A' : Around) cenv, EnvOk cenv → cenv.scope = scope → ∀ p ∈ items, Ev prog w H true A' cenv [(x, p)] elt (g p))
    (hpr : ∀ p ∈ items, (g p).isPrim = true) (hs : ∀ v, genFold iter env v = pure v := by intro _; rfl) :
    ∀ s E, St H w false A env ρ s → wpAny (model prog w) A (eval (.GeneratorExp elt [⟨.Name x px, iter, [], 0⟩] scope pos) env) (fun v s' => Kp (fsOf A) s s' ∧ ∃ a, v = .ref a ∧ GenNew prog w A s a items g s') E s := fun s E S => by
  have hfsH : ∀ b ∈ ([] : List Addr), H.get? b = none := by simp
  refine wpAny_GeneratorExp_walksQD hh hco (closureFor_none hfree) hcell h0 hx hkind hroom ?_ hs
  refine wpAny_mono (hi s E S.up) (fun xv s₁ h1 => wpAny_mono h1 (fun it s₂ h2 => ?_) fun _ _ x => x) fun _ _ x => x
  obtain ⟨k, Ia, fp, wr, S', rfl, Rd⟩ := h2
  have kk := Keeps.kk k
  have T₂ : TopOk H w s₂.heap := S.top.grow hfsH (.of_keeps kk)
  refine ⟨T₂.nolimit, ?_⟩
  have hPs : ∃ ps, s.heap.get? P = some (tabObj ps) ∧ TriplesOk ps.toList := by rcases hP with rfl | rfl; exact S.top.t70; exact S.top.t122
  obtain ⟨ps, hps, htr⟩ := hPs
  have hcode₂ := (codeHd_of_K T₂.K hcd).code (kk _ _ hps) htr
  have htab₂ := (codeHd_of_K T₂.K hcd).tab (kk _ _ hps)
  have hwrP : P ∉ wr := fun hb => by have := Rd.new _ hb; rw [hps] at this; cases this
  -- what follows once the code is had
  have fin : ∀ (code : Value) (h₃ : Heap) (tk₃ : Nat), Grow [] s₂.heap h₃ → (∀ b o, b ≠ P → s₂.heap.get? b = some o → h₃.get? b = some o) → s₂.heap.objs.size ≤ h₃.objs.size → P ∉ fp →
      wpAny (model prog w) A (builtinsFor env.globals env.builtins) (fun bi s₄ =>
        ∃ I fp wr n₀ P St₀ pz F, (Value.ref Ia) = .ref I ∧ (∀ A' : Around, A'.handled = none → Walks prog w A' I fp wr n₀ P St₀) ∧ St₀ 0 s₄.heap ∧ (∀ b ∈ fp, b < s₄.heap.objs.size) ∧ s₄.heap.NoLimit ∧ cStatics ∉ wr ∧
          (∀ href : Heap, (∀ b o, s₄.heap.get? b = some o → href.get? b = some o) →
            QuietGenD prog w (genEnv scope [] s₄.heap.objs.size code bi env) x [] elt (List.range s₄.heap.objs.size) wr P pz F href (A.depth + 1) (A.units + 8)) ∧
          (∀ a h₅ tk gs, gs.bare = true → s₄.heap.objs.size < a → h₅.objs.size = a + 1 → (∀ b o, s₄.heap.get? b = some o → h₅.get? b = some o) →
            WalksS prog w A.in4 a (a :: s₄.heap.objs.size :: List.range s₄.heap.objs.size) (s₄.heap.objs.size :: wr) (GenOnlyQ s₄.gens.size) (passing pz n₀ 0).length
              (fun j y => ∃ i, (passing pz n₀ 0)[j]? = some i ∧ F i y) (GenAt prog w A.in4 a s₄.gens.size s₄.heap.objs.size (List.range s₄.heap.objs.size) wr pz n₀ F) →
            GenAt prog w A.in4 a s₄.gens.size s₄.heap.objs.size (List.range s₄.heap.objs.size) wr pz n₀ F 0 { s₄ with gens := s₄.gens.push gs, toks := tk, heap := h₅ } →
            (Kp (fsOf A) s { s₄ with gens := s₄.gens.push gs, toks := tk, heap := h₅ } ∧ ∃ a', (Value.ref a) = .ref a' ∧ GenNew prog w A s a' items g { s₄ with gens := s₄.gens.push gs, toks := tk, heap := h₅ }))) E { s₂ with heap := h₃, toks := tk₃ } := by
    intro code h₃ tk₃ G₃ hx₃ hsz hPf
    have G : Grow [] s.heap h₃ := (Grow.of_keeps kk).trans G₃
    have T₃ : TopOk H w h₃ := T₂.grow hfsH G₃
    obtain ⟨mg, mb, hg, hb, hbi, bm, ob, M⟩ := T₃.names
    have hM : h₃.Ns env.globals mg := hE.globals ▸ M.ns
    refine wpAny_builtinsFor (s := { s₂ with heap := h₃, toks := tk₃ }) hM M.name M.ne M.obj M.cls M.dict M.data ?_
    have hcw : cStatics ∉ wr := fun hb => by
      have := Rd.new _ hb
      obtain ⟨_, hn, _⟩ := S.top.nolimit
      obtain ⟨o, es, ep, ho, _⟩ := hn
      rw [this] at ho; cases ho
    refine ⟨Ia, fp, wr, items.length, (fun i v => ∃ p, items[i]? = some p ∧ Prim v p), S', (fun _ => true), (fun i y => ∃ p, items[i]? = some p ∧ Prim y (g p)), rfl, fun A' hA => Rd.walks A' hA, ?_, fun b hb => Nat.lt_of_lt_of_le (Rd.low b hb) hsz, T₃.nolimit, hcw, fun href hhref => ⟨?_, ?_⟩, ?_⟩
    · exact (Rd.walks A hh).frame _ _ _ Rd.start fun b hb o e => hx₃ b o (fun q => hPf (q ▸ hb)) e
    · intro A' E' i v s₂' m₂ _ _ _ _ _ _ _
      exact wpAny_pure ⟨rfl, Keeps.rfl' _⟩
    · intro A' E' i v u m₂ hA' _ _ hPi _ hn hm hk
      obtain ⟨p, hp, hv⟩ := hPi
      have hmem := List.mem_of_getElem? hp
      have ku : ∀ b o, s.heap.get? b = some o → ∀ o', h₃.get? b = some o' → u.heap.get? b = some o' := fun b o e o' e' => by
        refine hk b ?_ (fun hb => by rw [Rd.new b hb] at e; cases e) o' (hhref b o' e')
        show b ∈ List.range h₃.objs.size
        exact List.mem_range.mpr (Heap.lt_size e')
      have Gu : Grow [] s.heap u.heap := by
        refine ⟨fun b o e n => ?_, fun P' hP' ps' e t => ?_⟩
        · rcases G.obj b o e n with k' | ⟨_, f, _⟩
          · exact .inl (ku b o e o k')
          · cases f
        · obtain ⟨more, k', t'⟩ := G.tab P' hP' ps' e t
          exact ⟨more, ku _ _ e _ k', t'⟩
      have Tu : TopOk H w u.heap := S.top.grow hfsH Gu
      have hEc : EnvOk (genEnv scope [] h₃.objs.size code builtinsNs env) := ⟨hkind, hE.globals, rfl⟩
      refine wpAny_mono (hel A' _ hEc rfl p hmem u E' ⟨⟨Tu, nofun, nofun⟩, fun y q e => ?_⟩) (fun y s₄ h4 => ⟨⟨p, hp, h4.2.prim (hpr p hmem)⟩, h4.1⟩) fun _ _ x => x
      rw [List.lookup_cons] at e
      by_cases hy : y = x
      · subst hy
        simp only [beq_self_eq_true] at e
        cases e
        exact .inl ⟨hx, m₂, v, hn, hm, hv.rep⟩
      · rw [beq_false_of_ne hy] at e; cases e
    · intro a h₅ tk gs hgb hag hsz₅ hk₅ W hat
      rw [passing_all, List.length_range] at W
      have G5 : Grow [] s.heap h₅ := G.trans (.of_keeps hk₅)
      obtain ⟨h0', t0', e0', _⟩ := id k
      refine ⟨⟨G5.mono (by simp), by rw [e0'], fun gb => ?_⟩, a, rfl, ⟨_, _, _, _, ⟨W.sub, W.grefl, W.gtrans, W.frame, ?_, W.done, W.self⟩, hat, fun i u st => st.1.typeIs, List.mem_cons_self, ?_, ?_⟩⟩
      · show AllBare (s₂.gens.push gs)
        have : s₂.gens = s.gens := by rw [e0']
        rw [this]
        exact gb.push hgb
      · intro i u Q E' hi' st hQ
        refine W.item i u Q E' hi' st fun v s' hP' st' hm => hQ v s' ?_ st' hm
        obtain ⟨j, hj, p, hp, hv⟩ := hP'
        rw [List.getElem?_range hi'] at hj
        cases hj
        exact ⟨p, hp, hv⟩
      · intro b hb
        show b < h₅.objs.size
        have top : b ≤ a := by
          simp only [List.mem_cons, List.mem_range] at hb
          exact hb.elim Nat.le_of_eq fun r => Nat.le_of_lt (r.elim (fun at_ => at_ ▸ hag) fun below => Nat.lt_trans below hag)
        exact hsz₅ ▸ Nat.lt_succ_of_le top
      · intro b hb
        rcases List.mem_cons.mp hb with rfl | hb
        · exact none_keeps kk (none_of_size hsz)
        · exact Rd.new b hb
  have hPf : P ∉ fp := fun hb => by
    obtain ⟨o, e, hsol, _⟩ := Rd.solid _ _ Rd.start P hb
    rw [kk _ _ hps] at e; cases e
    exact hsol rfl
  cases hnf : codeAmong pos ps.toList with
  | some c' =>
    refine wpAny_genexprCode_hit hcode hcode₂ hnf ?_
    exact fin c' s₂.heap s₂.toks (.refl _ _) (fun b o _ e => e) (Nat.le_refl _) hPf
  | none =>
    refine wpAny_genexprCodeX hcode hcode₂ htab₂ hnf fun c' h₃ tk₃ hx₃ hge hlt hcode₃ _ htab₃ _ => ?_
    have e3 : h₃.get? P = some (tabObj (ps ++ #[rawInt pos.line, rawInt pos.col, .ref c'])) := htab₃.2
    have t3 : TriplesOk (ps ++ #[rawInt pos.line, rawInt pos.col, .ref c']).toList := by
      obtain ⟨_, _, _, _, _, _, _, _, _, _, _, _, _, _, _, _, _, _, _, t, _⟩ := hcode₃
      exact t
    exact fin (.ref c') h₃ tk₃ (grow_tab hP hx₃ (kk _ _ hps) e3 t3) (fun b o hb e => hx₃ b o hb e) (Nat.le_trans hge (Nat.le_of_lt hlt)) hPf

theorem moved_kp {s s' s'' : Shared} {wr : List Addr} {gi : Nat} {fs : List Addr} (k : Kp fs s s') (hw : ∀ b ∈ wr, s.heap.get? b = none) (hm : Moved wr (GenOnlyQ gi) s' s'') : Kp fs s s'' := by
  refine ⟨⟨fun b o e n => ?_, fun P hP ps e t => ?_⟩, hm.os.trans k.os, fun g => (k.gens g).movedS hm⟩
  · have hb : b ∉ wr := fun hb => by rw [hw b hb] at e; cases e
    rcases k.grow.obj b o e n with q | ⟨c, f, sl, q⟩
    · exact .inl (hm.heap b o hb q)
    · exact .inr ⟨c, f, sl, hm.heap b _ hb q⟩
  · have hb : P ∉ wr := fun hb => by rw [hw P hb] at e; cases e
    obtain ⟨m, q, t'⟩ := k.grow.tab P hP ps e t
    exact ⟨m, hm.heap P _ hb q, t'⟩

theorem all_at {α : Type} (l : List α) (f : α → Bool) : ((List.range l.length).all fun j => (l[j]?).any f) = l.all f := by
  induction l with
  | nil => rfl
  | cons a r ih =>
    rw [List.all_cons, ← ih, List.length_cons, List.range_succ_eq_map, List.all_cons, List.all_map]
    rfl

/-- all(..) of a block -/
theorem Ev.allGen {elt iter : Expr} {x fx : Str} {px fp pos cpos : Pos} {scope : Scope} {items : List PV} {c P : Addr} (tr : PV → Bool) (hf : EvV prog w H A env ρ (.Name fx fp) (.builtin "all")) (hP : P = 70 ∨ P = 122) (hcode : env.code = .ref c) (hcd : codeHdIn (KF w.params) c P = true)
    (hi : ItEv prog w H A env ρ iter items) (hh : A.handled = Option.none) (hE : EnvOk env) (hroom : A.depth < recursionLimit)
    (hco : scope.isCoroutine = false) (hfree : ∀ y ∈ scope.names, y.2 ≠ .free) (hcell : ∀ y ∈ scope.names, y.2 ≠ .cell) (h0 : scope.names.lookup (".0" : Str) = some NameKind.local) (hx : scope.names.lookup x = some .local) (hkind : scope.kind = .function)
    (hel : ∀ (A' : Around) cenv, EnvOk cenv → cenv.scope = scope → ∀ p ∈ items, Ev prog w H true A' cenv [(x, p)] elt (.bool (tr p)))
    (hs : ∀ v, genFold iter env v = pure v := by intro _; rfl) :
    Ev prog w H false A env ρ (.Call (.Name fx fp) [.GeneratorExp elt [⟨.Name x px, iter, [], 0⟩] scope pos] [] cpos) (.bool (items.all tr)) := fun s E S => by
  refine Call_ (hf s E _ S.up ?_)
  refine callWith_builtin rfl (evalArgs_plain (spliced_cons (wpAny_mono (wp_gen (fun p => .bool (tr p)) hP hcode hcd hi hh hE hroom hco hfree hcell h0 hx hkind hel (fun _ _ => rfl) hs s E S) (fun v s₁ h1 => spliced_nil ?_) fun _ _ x => x)))
  obtain ⟨k, a, rfl, ⟨fp', wr, gi, St', W, hst, hT, ha, hlo, hw⟩⟩ := h1
  have W1 := W.in4_1
  refine call_all_walkS (W1.self 0 _ _ _ hst ⟨a, _, _, _, _, _, _, (fun j => (items[j]?).any tr), rfl, W1, hst, ?_, fun s' hm => ⟨moved_kp k hw hm, ?_⟩⟩)
  · intro j v u Q E' hP' hQ
    obtain ⟨p, hp, hv⟩ := hP'
    have hv : v = .bool (tr p) := hv
    subst hv
    dsimp only at hQ
    rw [hp] at hQ
    exact wpAny_truthy_bool hQ
  · show Value.bool _ = Value.bool _
    congr 1
    exact all_at items tr

theorem Ev.joinGen {o elt iter : Expr} {name x : Str} {px pos apos cpos : Pos} {scope : Scope} {items : List PV} {c P : Addr} {sep : Str} (tx : PV → Str) (hm : name = "join") (ho : Ev prog w H true A env ρ o (.str sep)) (hP : P = 70 ∨ P = 122) (hcode : env.code = .ref c) (hcd : codeHdIn (KF w.params) c P = true)
    (hi : ItEv prog w H A env ρ iter items) (hh : A.handled = Option.none) (hE : EnvOk env) (hroom : A.depth < recursionLimit)
    (hco : scope.isCoroutine = false) (hfree : ∀ y ∈ scope.names, y.2 ≠ .free) (hcell : ∀ y ∈ scope.names, y.2 ≠ .cell) (h0 : scope.names.lookup (".0" : Str) = some NameKind.local) (hx : scope.names.lookup x = some .local) (hkind : scope.kind = .function)
    (hel : ∀ (A' : Around) cenv, EnvOk cenv → cenv.scope = scope → ∀ p ∈ items, Ev prog w H true A' cenv [(x, p)] elt (.str (tx p)))
    (hok : JoinOk sep (items.map tx) = true) (hsz : items.length ≤ sizeLine)
    (hs : ∀ v, genFold iter env v = pure v := by intro _; rfl)
    (hb : attributeBase o name env (eval o env) = eval o env := by rfl) (hf : fewArgs cpos [.GeneratorExp elt [⟨.Name x px, iter, [], 0⟩] scope pos] env = true := by rfl) (hli : (apos.endLine == cpos.line) = true := by rfl) :
    Ev prog w H false A env ρ (.Call (.Attribute o name apos) [.GeneratorExp elt [⟨.Name x px, iter, [], 0⟩] scope pos] [] cpos) (.str (Txt.join sep (items.map tx))) := fun s E S => by
  subst hm
  refine wpAny_Call_method_lateS hb hf hli (wpAny_mono (ho s E S.up) (fun v s₀ h0' => ?_) fun _ _ x => x)
  obtain ⟨k0, t, rfl⟩ := h0'
  refine ⟨"str", "str.join", PySem.F.plainAttrs_str, m_join.1, m_join.2, typeIs_str _ _ _, GM.noRef, ?_⟩
  refine callWith_method1 (spliced_cons (wpAny_mono (wp_gen (fun p => .str (tx p)) hP hcode hcd hi hh hE hroom hco hfree hcell h0 hx hkind hel (fun _ _ => rfl) hs s₀ E (S.kb (b := false) (Kp.of_keeps k0))) (fun v s₁ h1 => spliced_nil ?_) fun _ _ x => x)) rfl rfl
  obtain ⟨k, a, rfl, ⟨fp', wr, gi, St', W, hst, hT, ha, hlo, hw⟩⟩ := h1
  have W1 := W.in4_2
  refine SC.joinGen W1 hT hst hlo ha (fun j v hv => let ⟨p, hp, u, e⟩ := hv; ⟨_, u, e⟩) (fun s' lt hm hacc => ?_) hsz
  have hl : lt.map (·.1) = items.map tx := by
    have same : lt.length = items.length := (by rw [strValues, List.size_toArray, List.length_map] : (strValues lt).toArray.size = lt.length).symm.trans hacc.1
    refine List.ext_getElem (by rw [List.length_map, List.length_map, same]) fun j b1 b2 => ?_
    rw [List.length_map] at b1 b2
    obtain ⟨p, hp, u, hv⟩ := hacc.2 j (.str lt[j].1 lt[j].2) (by rw [strValues, List.getElem?_toArray, List.getElem?_map, List.getElem?_eq_getElem b1]; rfl)
    obtain rfl : items[j] = p := Option.some.inj ((List.getElem?_eq_getElem b2).symm.trans hp)
    rw [List.getElem_map, List.getElem_map]
    exact (Value.str.inj hv).1
  rw [hl]
  refine ⟨hok, fun t' u => ⟨?_, t', rfl⟩⟩
  exact ((Kp.of_keeps k0).trans (moved_kp k hw hm)).trans (.of_keeps Keeps.tk)
end
end Mine

open PySem PySem.W PySem.Calls PyProof.Rows
set_option Elab.async false
set_option linter.unusedVariables false
set_option maxRecDepth 100000
namespace Mine
theorem forIn_two {σ : Type} (n : Nat) (f : Nat → σ → Sem (ForInStep σ)) (a b : σ) (h1 : f 0 a = pure (.yield b)) (h2 : f 1 b = pure (.done b)) : (forIn [:n + 2] a f) = (pure b : Sem σ) := by
  rw [Std.Legacy.Range.forIn_eq_forIn_range']
  simp only [Std.Legacy.Range.size]
  have : (n + 2 - 0 + 1 - 1) / 1 = n + 2 := by simp
  rw [this, List.range'_succ, List.forIn_cons, h1]
  simp only [pure_bind]
  rw [List.range'_succ, List.forIn_cons, h2]
  simp only [pure_bind]
open Builtin Builtin._codecs in
theorem encodeNarrow_ascii (self : Value) (x : Str) (h : x.cps.all (· < 128) = true) (hl : 2 ≤ x.length) (hz : x.length ≤ sizeLine) : encodeNarrow "str.encode" asciiCodec none self x = pure (bytesOf x) := by
  unfold encodeNarrow
  obtain ⟨n, hn⟩ : ∃ n, x.length = n + 2 := ⟨x.length - 2, by omega⟩
  have hsz : x.cps.size = n + 2 := hn
  have hc0 : x.cps[0]? = some x.cps[0] := Array.getElem?_eq_getElem (by omega)
  have hb : ∀ c, c ∈ x.cps → asciiCodec.bad c = false := fun c hc => by
    have := Array.all_eq_true'.mp h c hc
    show decide (c ≥ 128) = false
    simp only [decide_eq_true_eq] at this
    exact decide_eq_false (by omega)
  have hfi : x.cps.findIdx? asciiCodec.bad = none := by
    rw [Array.findIdx?_eq_none_iff]; exact fun c hc => by rw [hb c hc]
  have he : x.cps.extract 0 x.cps.size = x.cps := Array.extract_size
  rw [hn]
  dsimp only
  rw [forIn_two n _ ((0 : Nat), (#[] : Array UInt8), ({} : Faults)) (n + 2, bytesOf x, {}) ?_ ?_]
  · rfl
  · have h0 : ¬ ((#[] : Array UInt8).size > sizeLine) := by decide
    simp only [h0, if_false, hc0, hb _ (Array.getElem_mem _), he, hfi, Option.getD_none, Bool.not_false, if_true]
    rw [hsz]
    simp only [Nat.zero_add]
    have : bytesOf x = Array.foldl (fun acc y => acc ++ (asciiCodec.bytesOf y).toArray) #[] x.cps 0 (n + 2) := by rw [← hsz]; rfl
    rw [this]
  · have h1 : ¬ ((bytesOf x).size > sizeLine) := by rw [size_bytesOf]; omega
    have hc1 : x.cps[n + 2]? = none := Array.getElem?_eq_none (by omega)
    simp only [h1, if_false, hc1]

section
variable {prog : Program} {w : World} {H : Heap} {b : Bool} {A : Around} {env : Env} {ρ ρ' : Rho}

theorem c_encode {x : Str} (h : x.cps.all (· < 128) = true) (hl : 2 ≤ x.length) (hz : x.length ≤ sizeLine) : CallOk prog w H b A (.builtin "str.encode") [.str x, .str "ascii"] (.bytes (bytesOf x)) := by
  rintro s vs E P (_ | ⟨⟨t, rfl⟩, _ | ⟨⟨u, rfl⟩, _ | _⟩⟩)
  refine wpAny_call (codeAny_call_builtin PySem.F.slot_str_encode.plain PySem.F.entry_str_encode (PySem.F.slot_str_encode.check _ _ _ _ _ _ _ _ (typeIs_str _ _ _) (PySem.F.args_str_encode_2 _ _) ?_))
  have e2 : Builtin._codecs.encodeRoad "str.encode" (.str x t) x "ascii" Option.none = (do mkBytes (← Builtin._codecs.encodeNarrow "str.encode" Builtin._codecs.asciiCodec Option.none (.str x t) x)) := by rfl
  unfold Builtin.«str.encode»
  wp_walk
  have a1 : ((Str.ofString "ascii").cps.any fun x => decide (x ≥ 128)) = false := by decide +kernel
  have a2 : (Str.ofString "ascii").cps.contains 0 = false := by decide +kernel
  rw [a1, if_neg Bool.false_ne_true]
  dsimp only
  rw [a2, if_neg Bool.false_ne_true]
  refine wpAny_pure ?_
  refine wpAny_bind (m := Builtin.Str.codecArg "str.encode" "encode" "'errors'" Option.none) (wpAny_pure ?_)
  show wpAny _ _ (Builtin._codecs.encodeRoad "str.encode" (.str x t) x "ascii" Option.none >>= fun r => ret r) _ _ s
  rw [e2, encodeNarrow_ascii _ _ h hl hz]
  refine wpAny_bind (wpAny_bind (wpAny_pure (wpAny_mkBytes ?_ (by rw [size_bytesOf]; exact hz))))
  exact wpAny_pure ⟨.of_keeps Keeps.tk, _, rfl⟩
end
end Mine

open PySem PySem.W PySem.Calls PyProof.Rows
open Builtin Builtin.ObjectAttr Builtin.Getset_descriptor in
set_option Elab.async false
set_option linter.unusedVariables false
set_option maxRecDepth 100000
set_option maxHeartbeats 8000000
namespace Mine

section
variable {prog : Program} {w : World} {H : Heap} {b : Bool} {A : Around} {env : Env} {ρ ρ' : Rho}

theorem ty_attr {K : Frag} {E : Value → Shared → Prop} {s : Shared} {T q : String} {expr : Bool} {Q : Value → Shared → Prop} (X : K.In s.heap) (ht : kitMeta T = true) (hs : Manifest.isStub T = false)
    (e : findCls K (.type T) (.type "type") "__name__" = some (.get (.builtin "getset_descriptor.__get__") (.builtin "type.__name__") (.type T) (.type "type"))) (hq : ktynFast T = q) (hz : (Str.ofString q).length ≤ sizeLine)
    (h : ∀ tk u, Q (.str (Str.ofString q) tk) { s with toks := u }) : wpAny (model prog w) A (getAttr (.type T) "__name__" expr) Q E s := by
  have plain : opaqueClassAbove (.type T) = pure Option.none := by simp only [opaqueClassAbove, hs]; rfl
  apply cls_open (hook := Option.none) X (.of_pure plain) (.of_pure (kitMeta_of ht)) type_tga (looks_hook X rfl) rfl e
  have last : wpAny (model prog w) A.in1 (ret (.str (Str.ofString q) s.toks.succ)) (fun fin s' => match fin with | .done (.ret v) => wpAny (model prog w) A (handedOut v) Q E s' | _ => False) (fun _ _ => False) { s with toks := s.toks.succ.succ } :=
    wpAny_pure (handed_on rfl (h s.toks.succ s.toks.succ.succ))
  exact wpAny_bind (f := fun v => ret v) (wpAny_holding (wpAny_call (ktyn_get (kitMeta_of ht) hq hz last)))

/-- type(e).__name__ -/
theorem Ev.tname {e : Expr} {fx : Str} {fp cpos apos : Pos} {p : PV} {T q : String} (hf : EvV prog w H A env ρ (.Name fx fp) (.type "type")) (h : Ev prog w H b A env ρ e p) (hp : p.isPrim = true) (hT : ∀ (s : Shared) v, Prim v p → s.TypeIs v T)
    (hnb : (Value.type T == Value.type "builtin_function_or_method") = false) (ht : kitMeta T = true) (hs : Manifest.isStub T = false)
    (hk : ∀ P, findCls (KF P) (.type T) (.type "type") "__name__" = some (.get (.builtin "getset_descriptor.__get__") (.builtin "type.__name__") (.type T) (.type "type"))) (hq : ktynFast T = q) (hz : (Str.ofString q).length ≤ sizeLine)
    (he : starEach [e] env = (false, eval e env) :: starEach [] env := by rfl)
    (ha : eval (.Attribute (.Call (.Name fx fp) [e] [] cpos) "__name__" apos) env = (do
      let o ← eval (.Call (.Name fx fp) [e] [] cpos) env
      standAt apos.atName
      let r ← holding [o] (getAttr o "__name__" true)
      letTemporaryGo (.Call (.Name fx fp) [e] [] cpos) o r
      pure r) := by with_unfolding_all rfl) :
    Ev prog w H b A env ρ (.Attribute (.Call (.Name fx fp) [e] [] cpos) "__name__" apos) (.str (Str.ofString q)) := fun s E S => by
  refine Attribute_any_ (Call_ (hf s E _ S.up ?_)) ha
  rw [he]
  refine PyProof.Rows.callWith_type rfl (evalArgs_plain (spliced_cons (wpAny_mono (h s E S) (fun v s₁ h1 => spliced_nil ?_) fun _ _ x => x)))
  refine call_type_of (hT s₁ v (h1.2.prim hp)) hnb ?_
  exact ty_attr (S.kb h1.1).top.K ht hs (hk _) hq hz fun tk u => ⟨h1.1.trans (.of_keeps Keeps.tk), tk, rfl⟩

/-! f-strings -/
theorem Ev.fmtS {v : Expr} {pos : Pos} {x : Str} (h : Ev prog w H b A env ρ v (.str x)) (hz : x.length ≤ sizeLine) : Ev prog w H b A env ρ (.FormattedValue v (-1) Option.none pos) (.str x) := fun s E S => by
  refine FormattedValue_plain (wpAny_mono (h s E S) (fun y s₁ h1 => ?_) fun _ _ x => x)
  obtain ⟨k, t, rfl⟩ := h1
  exact formatField_str (fun t' tk => ⟨k.trans (.of_keeps Keeps.tk), _, rfl⟩) hz
theorem Ev.fmtI {v : Expr} {pos : Pos} {i : Int} (h : Ev prog w H b A env ρ v (.int i)) (hz : i.natAbs.log2 < 1920) : Ev prog w H b A env ρ (.FormattedValue v (-1) Option.none pos) (.str (toString i)) := fun s E S => by
  refine FormattedValue_plain (wpAny_mono (h s E S) (fun y s₁ h1 => ?_) fun _ _ x => x)
  obtain ⟨k, t, rfl⟩ := h1
  exact formatField_int_small hz ⟨k.trans (.of_keeps Keeps.tk), _, rfl⟩
theorem str_app_assoc (a c d : Str) : a ++ c ++ d = a ++ (c ++ d) := by
  show (⟨_⟩ : Str) = ⟨_⟩
  exact congrArg Str.mk (Array.append_assoc ..)
theorem str_app_nil (a : Str) : a ++ Str.empty = a := by
  show (⟨_⟩ : Str) = a
  exact congrArg Str.mk (Array.append_empty ..)
theorem str_nil_app (a : Str) : Str.empty ++ a = a := by
  show (⟨_⟩ : Str) = a
  exact congrArg Str.mk (Array.empty_append ..)
def JP (prog : Program) (w : World) (H : Heap) (b : Bool) (A : Around) (env : Env) (ρ : Rho) (es : List Expr) (y : Str) : Prop := ∀ s E out, St H w b A env ρ s → out.length + y.length ≤ sizeLine →
  wpAny (model prog w) A (joinParts out (evalEach es env)) (fun v s' => Kb (fsOf A) b s s' ∧ Rep s'.heap v (.str (out ++ y))) E s
theorem JP.nil : JP prog w H b A env ρ [] Str.empty := fun s E out S hz => by
  rw [str_app_nil]
  exact joinParts_nil ⟨.of_keeps Keeps.tk, _, rfl⟩ (by have : Str.empty.length = 0 := rfl; omega)
theorem JP.cons {e : Expr} {es : List Expr} {x y : Str} (h : Ev prog w H b A env ρ e (.str x)) (h' : JP prog w H b A env ρ es y) : JP prog w H b A env ρ (e :: es) (x ++ y) := fun s E out S hz => by
  rw [strLen_append] at hz
  refine joinParts_cons (x := eval e env) (rest := evalEach es env) (wpAny_mono (h s E S) (fun v s₁ h1 => ?_) fun _ _ x => x)
  obtain ⟨k, t, rfl⟩ := h1
  refine ⟨by rw [strLen_append]; omega, ?_⟩
  refine wpAny_mono (h' s₁ E (out ++ x) (S.kb k) (by rw [strLen_append]; omega)) (fun v s₂ h2 => ⟨k.trans h2.1, ?_⟩) fun _ _ x => x
  rw [← str_app_assoc]; exact h2.2
theorem Ev.fstr {v₁ v₂ : Expr} {rest : List Expr} {pos : Pos} {y : Str} (h : JP prog w H b A env ρ (v₁ :: v₂ :: rest) y) (hz : y.length ≤ sizeLine) : Ev prog w H b A env ρ (.JoinedStr (v₁ :: v₂ :: rest) pos) (.str y) := fun s E S => by
  refine JoinedStr_many (wpAny_mono (h s E Str.empty S (by have : Str.empty.length = 0 := rfl; omega)) (fun v s' h' => ⟨h'.1, ?_⟩) fun _ _ x => x)
  rw [str_nil_app] at h'
  exact h'.2

/-! a dict among the globals -/
theorem Ev.dictGet {o : Str} {op apos pos : Pos} {a : Addr} {es : Array DictEntry} {n : Nat} {e₁ e₂ : Expr} {x : Str} {i r : Int} (hE : EnvOk env) (hk : env.kindOf o = some .globalImplicit) (he : nsIn (KF w.params) mainGlobals o = some (some (.ref a)))
    (hl : (KF w.params).lookup a = some ⟨.type "dict", Option.none, .dict es n, #[]⟩) (hkeys : KeysLit w.params es.toList) (hm : (a == sysModules) = false)
    (h₁ : Ev prog w H b A env ρ e₁ (.str x)) (h₂ : Ev prog w H b A env ρ e₂ (.int i))
    (hr : (∃ t, findBy Value.isStrOf es x = some (.int r t)) ∨ (findBy Value.isStrOf es x = Option.none ∧ r = i)) (hd : (o == ("__debug__" : Str)) = false := by decide)
    (hb : attributeBase (.Name o op) "get" env (eval (.Name o op) env) = eval (.Name o op) env := by rfl) (hf : fewArgs pos [e₁, e₂] env = true := by rfl) (hli : (apos.endLine == pos.line) = true := by rfl)
    (he1 : starEach [e₁, e₂] env = (false, eval e₁ env) :: starEach [e₂] env := by rfl) (he2 : starEach [e₂] env = (false, eval e₂ env) :: starEach [] env := by rfl) :
    Ev prog w H b A env ρ (.Call (.Attribute (.Name o op) "get" apos) [e₁, e₂] [] pos) (.int r) := fun s E S => by
  refine wpAny_Call_method_lateS hb hf hli (EvV.glob (pos := op) hE hk he hd s E _ S.up ?_)
  have hT : ∀ {u : Shared}, (KF w.params).In u.heap → u.TypeIs (.ref a) "dict" := fun X => ⟨_, X _ _ hl, rfl⟩
  refine ⟨"dict", "dict.get", PySem.F.plainAttrs_dict, PySem.F.slot_dict_get, PySem.F.type_dict_get, hT S.top.K, fun a' e => ?_, ?_⟩
  · cases e
    exact ⟨_, S.top.K _ _ hl, rfl⟩
  · refine callWith_method1 (args_cons (wpAny_mono (h₁ s E S) (fun v s₁ k1 => args_cons (wpAny_mono (h₂ s₁ E (S.kb k1.1)) (fun u s₂ k2 => args_nil ?_) fun _ _ x => x) he2) fun _ _ x => x) he1) he1 (by rw [he2]; rfl)
    obtain ⟨k1, t, rfl⟩ := k1
    obtain ⟨k2, t', rfl⟩ := k2
    have X := (S.kb (k1.trans k2)).top.K
    refine call_meetsIn PySem.F.slot_dict_get (hT X) PySem.F.entry_dict_get (PySem.F.args_dict_get_3 _ _ _) (meets_dict_get_default (strKind prog w) a (strKind_is prog w x t) hm (.int i t')) ⟨_, mapOf_K X hl hkeys, ?_⟩
    have kk : Kb (fsOf A) b s { s₂ with toks := s₂.toks + 1 } := (k1.trans k2).trans (.of_keeps Keeps.tk)
    rcases hr with ⟨u, e⟩ | ⟨e, rfl⟩
    · refine ⟨kk, u, ?_⟩
      rw [e]; rfl
    · refine ⟨kk, t', ?_⟩
      rw [e]; rfl
end
end Mine

open PySem PySem.W PySem.Calls PyProof.Rows
set_option Elab.async false
set_option linter.unusedVariables false
set_option maxRecDepth 100000
set_option maxHeartbeats 8000000
namespace Mine
local macro_rules | `(tactic| walk_at "mine.k") => `(tactic| first
  | (refine kindOf_of (by assumption) ?_; rfl)
  | (refine kindOf_rel (by assumption) (by assumption) ?_; rfl))
local macro_rules | `(tactic| walk_at "mine.bound") => `(tactic| first
  | (refine Or.inl ?_; walk_at "mine.k")
  | (refine Or.inr ⟨?_, ?_⟩; walk_at "mine.k"; (refine cells_of (by assumption) ?_; intro _; rfl)))
local macro_rules | `(tactic| walk_at "mine.v") => `(tactic| first
  | (refine EvV.boot (by assumption) (by walk_at "mine.k") ?_ ?_; rfl; rfl)
  | (refine EvV.glob (by assumption) (by walk_at "mine.k") ?_; rfl))
local macro_rules | `(tactic| walk_at "mine.e") => `(tactic| first
  | exact Ev.int
  | exact Ev.str
  | exact Ev.bool
  | exact Ev.none
  | (refine Ev.name (by assumption) ?_; rfl)
  | (refine EvV.ev (by walk_at "mine.v") ⟨_, rfl⟩)
  | (refine Ev.neg ?_; walk_at "mine.e")
  | (refine EvA.cons ?_ ?_ <;> walk_at "mine.e")
  | exact EvA.nil
  | (refine Ev.bin ?_ ?_ op_add <;> walk_at "mine.e")
  | (refine Ev.bin ?_ ?_ op_sub <;> walk_at "mine.e")
  | (refine Ev.bin ?_ ?_ op_and <;> walk_at "mine.e")
  | (refine Ev.bin ?_ ?_ op_xor <;> walk_at "mine.e")
  | (refine Ev.bin ?_ ?_ (op_shr ?_) <;> (try walk_at "mine.e")))
local macro_rules | `(tactic| walk_at "mine.sub") => `(tactic| (repeat (first | exact sub_nil | refine sub_cons (by rfl) ?_)))
local macro_rules | `(tactic| walk_at "mine.comp") => `(tactic| exact ⟨free_of (by assumption) (fun _ => by rfl), by decide, rfl, by decide, rfl, by intro q hq; cases hq⟩)
local macro_rules | `(tactic| walk_at "mine.bind1") => `(tactic| (intro s vs T hl; match vs, hl with
  | [v], _ => exact BindsTo.of_eq (by rfl)))
local macro_rules | `(tactic| walk_at "mine.bind2") => `(tactic| (intro s vs T hl; match vs, hl with
  | [v, u], _ => exact BindsTo.of_eq (by rfl)))
local macro_rules | `(tactic| walk_at "mine.bind3") => `(tactic| (intro s vs T hl; match vs, hl with
  | [v, u, x], _ => exact BindsTo.of_eq (by rfl)))

section
variable {prog : Program} {w : World} {H : Heap}
theorem ex_37 (P : Params) : excIn (KF P) 37 [.type "ValueError", .type "Exception", .type "BaseException", .type "object"] "Exception.__new__" = true := by kernel_rfl
theorem ex_49 (P : Params) : excIn (KF P) 49 [.type "TypeError", .type "Exception", .type "BaseException", .type "object"] "Exception.__new__" = true := by kernel_rfl
theorem Ex1.raiseV {A : Around} {env : Env} {ρ : Rho} {x : Str} {np cpos pos : Pos} {e : Expr} {y : Str} (hf : EvV prog w H A env ρ (.Name x np) (.ref 37)) (ha : Ev prog w H true A env ρ e (.str y)) (hh : A.handled = Option.none)
    (he : starEach [e] env = (false, eval e env) :: starEach [] env := by rfl) : Ex1 prog w H A env ρ (.Raise (some (.Call (.Name x np) [e] [] cpos)) Option.none pos) (.exc 37) :=
  Ex1.raise hf (EvA.cons ha EvA.nil he) hh (ex_37 _) PySem.F.excBase_Exception rfl PySem.F.excBase_ValueError (by show 1 ≤ sizeLine; decide) he rfl
theorem Ex1.raiseT {A : Around} {env : Env} {ρ : Rho} {x : Str} {np cpos pos : Pos} {e : Expr} {y : Str} (hf : EvV prog w H A env ρ (.Name x np) (.ref 49)) (ha : Ev prog w H true A env ρ e (.str y)) (hh : A.handled = Option.none)
    (he : starEach [e] env = (false, eval e env) :: starEach [] env := by rfl) : Ex1 prog w H A env ρ (.Raise (some (.Call (.Name x np) [e] [] cpos)) Option.none pos) (.exc 49) :=
  Ex1.raise hf (EvA.cons ha EvA.nil he) hh (ex_49 _) PySem.F.excBase_Exception rfl PySem.F.excBase_TypeError (by show 1 ≤ sizeLine; decide) he rfl
theorem fn_mwit_nil : FnOk prog w H 1 99 [.list (nints [])] (.exc 37) := by
  refine FnOk.def (names := ["data"]) (n := 0) [] [] (ho := by rfl) (hcd := by kernel_rfl) (hbody := rfl) (hbind := ?_) (hx := fun _ => .nil) (hloc := by decide) (hnd := by decide) (hclo := rfl) (hgl := rfl) (hbi := rfl) (hco := rfl) (hgen := rfl) (hk := rfl) (h := ?_)
  · walk_at "mine.bind1"
  · intro A env hA hE hsc hcode hqual hcl hl
    refine Ex.exc (Ex1.if_ (b := true) (c := true) (Tr.not (c := false) (Tr.ofList (l := nints []) (by walk_at "mine.e") (by decide))) (fun _ => Ex.exc ?_) nofun)
    exact Ex1.raiseV (by walk_at "mine.v") Ev.str hA.handled
theorem fn_mwit {d : Nat} {r : List Nat} (hz : r.length ≤ 4000) : FnOk prog w H 1 99 [.list (nints (d :: r))] (.ok (.int (if d = 0 then 1 else 734539939))) := by
  refine FnOk.def (names := ["data"]) (n := 0) [] [] (ho := by rfl) (hcd := by kernel_rfl) (hbody := rfl) (hbind := ?_) (hx := fun _ => .nil) (hloc := by decide) (hnd := by decide) (hclo := rfl) (hgl := rfl) (hbi := rfl) (hco := rfl) (hgen := rfl) (hk := rfl) (h := ?_)
  · walk_at "mine.bind1"
  · intro A env hA hE hsc hcode hqual hcl hl
    have zz : sizeLine = 16777216 := rfl
    refine Ex.cons (Ex1.if_ (b := true) (c := false) (Tr.not (c := true) (Tr.ofList (l := nints (d :: r)) (by walk_at "mine.e") (by rw [nints_len, List.length_cons]; omega))) nofun (fun _ => Ex.nil)) ?_
    refine Ex.cons (Ex1.assign (b := true) (p := .int (d : Int)) (Ev.subL (l := nints (d :: r)) (by walk_at "mine.e") (by walk_at "mine.e") (by decide) (by decide) rfl) (by walk_at "mine.bound")) ?_
    refine Ex.ret (Ex1.ret (b := true) (Ev.ite (c := decide (d = 0)) (Tr.eq (Tr.cmp (by walk_at "mine.e") (by walk_at "mine.e") c_eq) ?_) ?_ ?_))
    · rw [Bool.eq_iff_iff]; simp only [beq_iff_eq, decide_eq_true_eq]; omega
    · intro hd
      rw [if_pos (of_decide_eq_true hd)]
      exact EvV.ev (by walk_at "mine.v") ⟨_, rfl⟩
    · intro hd
      rw [if_neg (of_decide_eq_false hd)]
      exact EvV.ev (by walk_at "mine.v") ⟨_, rfl⟩

def inRange (c : Nat) : Bool := decide (32 < c) && decide (c < 127)
def trR : PV → Bool
  | .str x => inRange (x.cps.getD 0 0)
  | _ => false
theorem fn_range {hd : List Nat} (hx : hd.length ≤ 4000) : FnOk prog w H 1 75 [.str (S hd)] (.ok (.bool (hd.all inRange))) := by
  refine FnOk.def (names := ["text"]) (n := 0) [] [] (ho := by rfl) (hcd := by kernel_rfl) (hbody := rfl) (hbind := ?_) (hx := fun _ => .nil) (hloc := by decide) (hnd := by decide) (hclo := rfl) (hgl := rfl) (hbi := rfl) (hco := rfl) (hgen := rfl) (hk := rfl) (h := ?_)
  · walk_at "mine.bind1"
  · intro A env hA hE hsc hcode hqual hcl hl
    refine Ex.ret (Ex1.ret (b := false) (Ev.eq (Ev.allGen (items := signs (S hd)) (c := 74) (P := 70) trR (by walk_at "mine.v") (.inl rfl) hcode (by kernel_rfl) (ItEv.ofStr (by walk_at "mine.e")) hA.handled hE hA.room rfl (by decide) (by decide) rfl rfl rfl ?_) ?_))
    · intro A' cenv hEc hsc' p hp
      obtain ⟨c, _, rfl⟩ := List.mem_map.mp hp
      refine Ev.eq (Ev.cmp2 (by walk_at "mine.e") (Ev.callB (by walk_at "mine.v") (by walk_at "mine.e") c_ord) (by walk_at "mine.e") c_lt c_lt) ?_
      show PV.bool _ = PV.bool (inRange c)
      unfold inRange
      congr 1
      rw [Bool.eq_iff_iff]
      simp only [Bool.and_eq_true, decide_eq_true_eq]
      omega
    · unfold signs
      rw [S_cps, List.all_map]
      rfl
end
end Mine

open PySem PySem.W PySem.Calls PyProof.Rows
set_option Elab.async false
set_option linter.unusedVariables false
set_option maxRecDepth 100000
set_option maxHeartbeats 4000000
namespace Mine

/-! slices -/
theorem filterMap_run {α : Type} (l : List α) (a n : Nat) : ((List.range n).map (a + ·)).filterMap (l[·]?) = (l.drop a).take n := by
  induction n with
  | zero => simp
  | succ n ih =>
    rw [List.range_succ, List.map_append, List.filterMap_append, ih]
    simp only [List.map_cons, List.map_nil, List.filterMap_cons, List.filterMap_nil]
    rw [List.take_add_one, List.getElem?_drop]
    cases l[a + n]? <;> rfl
theorem cut_nat {α : Type} (l : List α) {lo hi : Option Int} {a c : Nat} (e : sliceBounds lo hi none l.length = ((a : Int), (c : Int), 1)) : cut lo hi l = (l.drop a).take (c - a) := by
  unfold cut
  rw [e]
  simp only [sliceRange_one, filterMap_run]
def endOf (v : Option Int) (d : Int) (n : Nat) : Int := match v with | none => d | some i => max 0 (min (if i < 0 then i + n else i) n)
theorem endOf_nat (v : Option Int) (d : Int) (n : Nat) (h0 : 0 ≤ d) (h1 : d ≤ n) : ∃ a : Nat, endOf v d n = (a : Int) ∧ a ≤ n := by
  cases v with
  | none => exact ⟨d.toNat, by simp [endOf, Int.toNat_of_nonneg h0], by omega⟩
  | some i =>
    refine ⟨(max 0 (min (if i < 0 then i + n else i) n)).toNat, ?_, ?_⟩
    · show max 0 _ = _
      rw [Int.toNat_of_nonneg (Int.le_max_left _ _)]
    · omega
theorem bounds_eq (lo hi : Option Int) (n : Nat) : sliceBounds lo hi none n = (endOf lo 0 n, endOf hi n n, 1) := by cases lo <;> cases hi <;> rfl
theorem bounds_nat (lo hi : Option Int) (n : Nat) : ∃ a c : Nat, sliceBounds lo hi none n = ((a : Int), (c : Int), 1) ∧ a ≤ n ∧ c ≤ n := by
  obtain ⟨a, ha, ha'⟩ := endOf_nat lo 0 n (Int.le_refl _) (by omega)
  obtain ⟨c, hc, hc'⟩ := endOf_nat hi n n (by omega) (Int.le_refl _)
  exact ⟨a, c, by rw [bounds_eq, ha, hc], ha', hc'⟩
/-- a slice by its two ends -/
theorem cut_ends {α : Type} (l : List α) (lo hi : Option Int) : cut lo hi l = (l.take (endOf hi l.length l.length).toNat).drop (endOf lo 0 l.length).toNat := by
  obtain ⟨a, ha, _⟩ := endOf_nat lo 0 l.length (Int.le_refl _) (by omega)
  obtain ⟨c, hc, _⟩ := endOf_nat hi l.length l.length (by omega) (Int.le_refl _)
  rw [cut_nat l (by rw [bounds_eq, ha, hc]), ha, hc, Int.toNat_natCast, Int.toNat_natCast, List.drop_take]
theorem endOf_at (k n : Nat) (d : Int) : (endOf (some (k : Int)) d n).toNat = min k n := by
  show (max 0 (min (if (k : Int) < 0 then (k : Int) + n else k) (n : Int))).toNat = _
  split <;> omega
theorem endOf_six (n : Nat) (d : Int) : (endOf (some (-6)) d n).toNat = n - 6 := by
  show (max 0 (min (-6 + (n : Int)) (n : Int))).toNat = _
  omega
theorem endOf_dflt (n : Nat) : (endOf none (n : Int) n).toNat = n := Int.toNat_natCast n
theorem take_past {α : Type} (l : List α) (k : Nat) : l.take (min k l.length) = l.take k := by rw [← List.take_take, List.take_length]
theorem drop_past {α : Type} (l : List α) (k : Nat) : l.drop (min k l.length) = l.drop k := by
  rcases Nat.le_total k l.length with h | h
  · rw [Nat.min_eq_left h]
  · rw [Nat.min_eq_right h, List.drop_eq_nil_of_le h, List.drop_length]
theorem cut_upto {α : Type} (l : List α) (k : Nat) : cut none (some (k : Int)) l = l.take k := by
  rw [cut_ends, endOf_at, take_past]; rfl
theorem cut_from {α : Type} (l : List α) (k : Nat) : cut (some (k : Int)) none l = l.drop k := by
  rw [cut_ends, endOf_at, endOf_dflt, List.take_length, drop_past]
theorem cut_run {α : Type} (l : List α) (j k : Nat) : cut (some (j : Int)) (some (k : Int)) l = (l.drop j).take (k - j) := by
  rw [cut_ends, endOf_at, endOf_at, take_past, ← List.drop_take]
  rcases Nat.le_total j l.length with h | h
  · rw [Nat.min_eq_left h]
  · rw [Nat.min_eq_right h, List.drop_eq_nil_of_le (List.length_take_le' _ _), List.drop_eq_nil_of_le (Nat.le_trans (List.length_take_le' _ _) h)]
theorem cut_upto6 {α : Type} (l : List α) : cut none (some (-6)) l = l.take (l.length - 6) := by
  rw [cut_ends, endOf_six]; rfl
theorem cut_from6 {α : Type} (l : List α) : cut (some (-6)) none l = l.drop (l.length - 6) := by
  rw [cut_ends, endOf_six, endOf_dflt, List.take_length]
theorem slice_cut (l : List Nat) (lo hi : Option Int) : Txt.slice (S l) lo hi = S (cut lo hi l) := by
  have e : Builtin.Str.strSliceIndices lo hi 1 (S l).length = sliceRange (sliceBounds lo hi none l.length).1 (sliceBounds lo hi none l.length).2.1 (sliceBounds lo hi none l.length).2.2 := by
    rw [S_len]
    cases lo <;> cases hi <;> rfl
  have e2 : ((Builtin.Str.strSliceIndices lo hi 1 (S l).length).filterMap ((S l).cps[·]?)) = cut lo hi l := by
    rw [e]
    unfold cut
    congr 1
    funext i
    simp [S]
  unfold Txt.slice
  split
  · rename_i h
    simp only [Bool.and_eq_true, beq_iff_eq] at h
    have h := h.2
    -- all of it is taken
    have key : ∀ (idx : List Nat), idx.length = l.length → (∃ a, idx = (List.range idx.length).map (a + ·)) → (∀ i ∈ idx, i < l.length) → idx.filterMap (l[·]?) = l := by
      intro idx hl ⟨a, ha⟩ hb
      rw [ha, filterMap_run]
      by_cases hz : l.length = 0
      · have : l = [] := List.length_eq_zero_iff.mp hz
        subst this; simp
      · have ha0 : a = 0 := by
          have hm : a + (idx.length - 1) ∈ idx := by
            rw [ha]
            exact List.mem_map.mpr ⟨idx.length - 1, by simp; omega, by simp⟩
          have := hb _ hm
          omega
        subst ha0
        rw [List.drop_zero, hl, List.take_length]
    obtain ⟨a, c, hab, ha, hc⟩ := bounds_nat lo hi l.length
    have hr : sliceRange (sliceBounds lo hi none l.length).1 (sliceBounds lo hi none l.length).2.1 (sliceBounds lo hi none l.length).2.2 = (List.range (c - a)).map (a + ·) := by rw [hab]; exact sliceRange_one a c
    rw [e, hr, S_len] at h
    have : cut lo hi l = l := by
      unfold cut
      rw [hr]
      refine key _ h ⟨a, by simp⟩ fun i hi' => ?_
      obtain ⟨j, hj, rfl⟩ := List.mem_map.mp hi'
      have := List.mem_range.mp hj
      omega
    rw [this]
  · rw [e2]; rfl

/-! case -/
theorem lower_S {l : List Nat} (h : ∀ c ∈ l, c < 128) : Txt.lower (S l) = S (l.map lo1) := by
  rw [lower_ascii (by rw [S_cps]; exact h)]
  simp [S]
theorem upper_S {l : List Nat} (h : ∀ c ∈ l, c < 128) : Txt.upper (S l) = S (l.map up1) := by
  rw [upper_ascii (by rw [S_cps]; exact h)]
  simp [S]

/-! the last 1 -/
def lastOne : List Nat → Option Nat
  | [] => none
  | c :: r => match lastOne r with
    | some i => some (i + 1)
    | none => if c = 49 then some 0 else none
theorem lastOne_none : ∀ {l : List Nat}, lastOne l = none → ∀ c ∈ l, c ≠ 49
  | [], _, c, h => by cases h
  | d :: r, e, c, h => by
    unfold lastOne at e
    split at e
    · cases e
    · rename_i e'
      rcases List.mem_cons.mp h with rfl | h
      · intro q; rw [if_pos q] at e; cases e
      · exact lastOne_none e' c h
theorem lastOne_some : ∀ {l : List Nat} {i : Nat}, lastOne l = some i → l[i]? = some 49 ∧ ∀ k, i < k → l[k]? ≠ some 49
  | [], i, e => by cases e
  | d :: r, i, e => by
    unfold lastOne at e
    split at e
    · rename_i j e'
      cases e
      obtain ⟨h1, h2⟩ := lastOne_some e'
      refine ⟨by simpa using h1, fun k hk => ?_⟩
      cases k with
      | zero => omega
      | succ k => simpa using h2 k (by omega)
    · rename_i e'
      by_cases hd : d = 49
      · rw [if_pos hd] at e
        cases e
        refine ⟨by simp [hd], fun k hk => ?_⟩
        cases k with
        | zero => omega
        | succ k =>
          intro q
          have q : r[k]? = some 49 := by simpa using q
          exact lastOne_none e' 49 (List.mem_of_getElem? q) rfl
      · rw [if_neg hd] at e; cases e
theorem at_S (l : List Nat) (i : Nat) : StrLaws.At (S l) (S [49]) (S l).length i ↔ l[i]? = some 49 := by
  unfold StrLaws.At Builtin.Str.subAt
  rw [S_len, S_len]
  simp only [List.length_cons, List.length_nil, S, List.extract_toArray, beq_iff_eq, Array.mk.injEq]
  constructor
  · rintro ⟨h1, h2⟩
    have hlt : i < l.length := by omega
    rw [List.extract_eq_drop_take] at h2
    have h3 := congrArg (fun z : List Nat => z[0]?) h2
    simpa [List.getElem?_take, List.getElem?_drop] using h3
  · intro h
    have hlt : i < l.length := (List.getElem?_eq_some_iff.mp h).1
    refine ⟨by omega, ?_⟩
    rw [List.extract_eq_drop_take]
    apply List.ext_getElem?
    intro j
    rcases Nat.eq_zero_or_pos j with rfl | hj
    · simpa [List.getElem?_take, List.getElem?_drop] using h
    · have : ¬ j < i + 1 - i := by omega
      rw [List.getElem?_take, if_neg (by omega), List.getElem?_eq_none (by simp; omega)]
theorem rfind_S (l : List Nat) : Txt.rfind (S l) (S [49]) = match lastOne l with | some i => (i : Int) | none => -1 := by
  unfold Txt.rfind
  rcases StrLaws.last_spec (S l) (S [49]) with ⟨h1, h2⟩ | ⟨i, h1, h2, h3⟩
  · rw [h1]
    cases e : lastOne l with
    | none => rfl
    | some i => exact absurd ((at_S l i).mpr (lastOne_some e).1) (h2 i)
  · rw [h1]
    have h2 := (at_S l i).mp h2
    cases e : lastOne l with
    | none => exact absurd rfl (lastOne_none e 49 (List.mem_of_getElem? h2))
    | some j =>
      obtain ⟨e1, e2⟩ := lastOne_some e
      have : i = j := by
        rcases Nat.lt_trichotomy i j with h | h | h
        · exact absurd ((at_S l j).mpr e1) (h3 j h)
        · exact h
        · exact absurd h2 (e2 i h)
      subst this; rfl

/-! what _decode answers -/
def idxOf (c : Nat) : Int := match alphL.findIdx? (· == c) with | some i => (i : Int) | none => -1
def inR (c : Nat) : Bool := decide (32 < c) && decide (c < 127)
def decL (x : List Nat) : Option (List Nat × List Nat) :=
  match lastOne x with
  | none => none
  | some pos =>
    if pos = 0 then none
    else if x.length < pos + 7 then none
    else if (x.take pos).all inR = false then none
    else if (x.drop (pos + 1)).all inR = false then none
    else if x.map lo1 ≠ x ∧ x.map up1 ≠ x then none
    else
      let ix := ((x.map lo1).drop (pos + 1)).map idxOf
      if (ix.drop (ix.length - 6)).any (· == -1) then none
      else if ix.any (· == -1) then none
      else some ((x.map lo1).take pos, ix.map Int.toNat)
end Mine

open PySem PySem.W PySem.Calls PyProof.Rows
set_option Elab.async false
set_option linter.unusedVariables false
set_option maxRecDepth 100000
set_option maxHeartbeats 8000000
namespace Mine
local macro_rules | `(tactic| walk_at "mine.k") => `(tactic| first
  | (refine kindOf_of (by assumption) ?_; rfl)
  | (refine kindOf_rel (by assumption) (by assumption) ?_; rfl))
local macro_rules | `(tactic| walk_at "mine.bound") => `(tactic| first
  | (refine Or.inl ?_; walk_at "mine.k")
  | (refine Or.inr ⟨?_, ?_⟩; walk_at "mine.k"; (refine cells_of (by assumption) ?_; intro _; rfl)))
local macro_rules | `(tactic| walk_at "mine.v") => `(tactic| first
  | (refine EvV.boot (by assumption) (by walk_at "mine.k") ?_ ?_; rfl; rfl)
  | (refine EvV.glob (by assumption) (by walk_at "mine.k") ?_; rfl))
local macro_rules | `(tactic| walk_at "mine.e") => `(tactic| first
  | exact Ev.int
  | exact Ev.str
  | exact Ev.bool
  | exact Ev.none
  | (refine Ev.name (by assumption) ?_; rfl)
  | (refine EvV.ev (by walk_at "mine.v") ⟨_, rfl⟩)
  | (refine Ev.neg ?_; walk_at "mine.e")
  | (refine EvA.cons ?_ ?_ <;> walk_at "mine.e")
  | exact EvA.nil
  | (refine Ev.bin ?_ ?_ op_add <;> walk_at "mine.e")
  | (refine Ev.bin ?_ ?_ op_sub <;> walk_at "mine.e")
  | (refine Ev.bin ?_ ?_ op_and <;> walk_at "mine.e")
  | (refine Ev.bin ?_ ?_ op_xor <;> walk_at "mine.e")
  | (refine Ev.bin ?_ ?_ (op_shr ?_) <;> (try walk_at "mine.e")))
local macro_rules | `(tactic| walk_at "mine.sub") => `(tactic| (repeat (first | exact sub_nil | refine sub_cons (by rfl) ?_)))
local macro_rules | `(tactic| walk_at "mine.comp") => `(tactic| exact ⟨free_of (by assumption) (fun _ => by rfl), by decide, rfl, by decide, rfl, by intro q hq; cases hq⟩)
local macro_rules | `(tactic| walk_at "mine.bind1") => `(tactic| (intro s vs T hl; match vs, hl with
  | [v], _ => exact BindsTo.of_eq (by rfl)))
local macro_rules | `(tactic| walk_at "mine.bind2") => `(tactic| (intro s vs T hl; match vs, hl with
  | [v, u], _ => exact BindsTo.of_eq (by rfl)))
local macro_rules | `(tactic| walk_at "mine.bind3") => `(tactic| (intro s vs T hl; match vs, hl with
  | [v, u, x], _ => exact BindsTo.of_eq (by rfl)))

section
variable {prog : Program} {w : World} {H : Heap}
def chkIdx (o : Option Obj) (c : Nat) : Bool := match o with
  | some ⟨_, _, .dict es _, _⟩ => (match findBy Value.isStrOf es (chr1 c) with
    | some (.int r _) => r == idxOf c
    | none => idxOf c == -1
    | _ => false)
  | _ => false
theorem chk_all (P : Params) : (List.range 128).all (fun c => chkIdx ((KF P).lookup 67) c) = true := by kernel_rfl
theorem idx_find {P : Params} {cl : Value} {dd : Option Addr} {es : Array DictEntry} {n : Nat} {sl : Array (Option Value)} (hl : (KF P).lookup 67 = some ⟨cl, dd, .dict es n, sl⟩) {c : Nat} (hc : c < 128) :
    (∃ t, findBy Value.isStrOf es (chr1 c) = some (.int (idxOf c) t)) ∨ (findBy Value.isStrOf es (chr1 c) = Option.none ∧ idxOf c = -1) := by
  have h := List.all_eq_true.mp (chk_all P) c (List.mem_range.mpr hc)
  rw [hl] at h
  unfold chkIdx at h
  dsimp only at h
  split at h
  · rename_i r t e
    have : r = idxOf c := by simpa using h
    subst this
    exact .inl ⟨t, e⟩
  · rename_i e
    exact .inr ⟨e, by simpa using h⟩
  · cases h

def gd : PV → PV
  | .str x => .int (idxOf (x.cps.getD 0 0))
  | _ => .none
def intsV (l : List Int) : List PV := l.map PV.int
theorem gd_pv (l : List Nat) : (signs (S l)).map gd = intsV (l.map idxOf) := by
  unfold signs intsV
  rw [S_cps]
  simp
  intro c _
  rfl
theorem ints_nints {l : List Int} (h : l.any (· == -1) = false) (h2 : ∀ i ∈ l, i = -1 ∨ 0 ≤ i) : intsV l = nints (l.map Int.toNat) := by
  unfold intsV nints
  rw [List.map_map]
  apply List.map_congr_left
  intro i hi
  have := List.any_eq_false.mp h i hi
  have h3 := h2 i hi
  have : i ≠ -1 := by simpa using this
  show PV.int i = PV.int ((i.toNat : Nat) : Int)
  congr 1
  omega
theorem idxOf_ge (c : Nat) : idxOf c = -1 ∨ 0 ≤ idxOf c := by
  unfold idxOf
  split
  · right; omega
  · left; rfl
theorem ints_cut (lo hi : Option Int) (l : List Int) : cut lo hi (intsV l) = intsV (cut lo hi l) := by
  obtain ⟨a, c, h, _, _⟩ := bounds_nat lo hi l.length
  have h' : sliceBounds lo hi none (intsV l).length = ((a : Int), (c : Int), 1) := by unfold intsV; rw [List.length_map]; exact h
  rw [cut_nat _ h, cut_nat _ h']
  unfold intsV
  simp [List.map_take, List.map_drop]
theorem nints_cut (lo hi : Option Int) (l : List Nat) : cut lo hi (nints l) = nints (cut lo hi l) := by
  obtain ⟨a, c, h, _, _⟩ := bounds_nat lo hi l.length
  have h' : sliceBounds lo hi none (nints l).length = ((a : Int), (c : Int), 1) := by unfold nints; rw [List.length_map]; exact h
  rw [cut_nat _ h, cut_nat _ h']
  unfold nints
  simp [List.map_take, List.map_drop]

def decRes (x : List Nat) : Res := match decL x with
  | none => .exc 37
  | some (h, ix) => .ok (.tup [.str (S h), .list (nints (ix.take (ix.length - 6))), .list (nints (ix.drop (ix.length - 6)))])

theorem fn_dec {x : List Nat} (hz : x.length ≤ 4000) : FnOk prog w H 2 111 [.str (S x)] (decRes x) := by
  refine FnOk.def (names := ["bech"]) (n := 1) [] [] (ho := by rfl) (hcd := by kernel_rfl) (hbody := rfl) (hbind := ?_) (hx := fun _ => .nil) (hloc := by decide) (hnd := by decide) (hclo := rfl) (hgl := rfl) (hbi := rfl) (hco := rfl) (hgen := rfl) (hk := rfl) (h := ?_)
  · walk_at "mine.bind1"
  · intro A env hA hE hsc hcode hqual hcl hl
    have hl' : ∃ l, A.frames = some l := let ⟨l, e⟩ := hl; ⟨_, e⟩
    have zz : sizeLine = 16777216 := rfl
    have hxl : (S x).length ≤ sizeLine := by rw [S_len]; omega
    refine Ex.cons (Ex1.assign (b := false) (p := .str (S x)) (Ev.callF hA hl' (by walk_at "mine.v") (EvA.cons (by walk_at "mine.e") (EvA.cons Ev.str EvA.nil)) fn_str (by rfl)) (by walk_at "mine.bound")) ?_
    refine Ex.cons (Ex1.assign (b := true) (p := .int (match lastOne x with | some i => (i : Int) | none => -1)) (Ev.eq (Ev.meth1 (id := "str.rfind") (x := S x) (ps := [.str (S [49])]) (by walk_at "mine.e") m_rfind (EvA.cons Ev.str EvA.nil) c_rfind) (congrArg PV.int (rfind_S x))) (by walk_at "mine.bound")) ?_
    cases e : lastOne x with
    | none =>
      have hr : decRes x = .exc 37 := by unfold decRes decL; rw [e]
      rw [hr]
      exact Ex.exc (Ex1.if_ (b := true) (c := true) (Tr.eq (Tr.cmp (by walk_at "mine.e") (Ev.neg Ev.int) c_eq) (by rfl)) (fun _ => Ex.exc (Ex1.raiseV (by walk_at "mine.v") Ev.str hA.handled)) nofun)
    | some pos =>
      dsimp only
      have hpx := lastOne_some e
      have hpl : pos < x.length := (List.getElem?_eq_some_iff.mp hpx.1).1
      refine Ex.cons (Ex1.if_ (b := true) (c := false) (Tr.eq (Tr.cmp (by walk_at "mine.e") (Ev.neg Ev.int) c_eq) (by rw [beq_eq_false_iff_ne]; omega)) nofun (fun _ => Ex.nil)) ?_
      by_cases h1 : pos = 0
      · have hr : decRes x = .exc 37 := by unfold decRes decL; rw [e]; simp only [h1, if_true]
        rw [hr]
        exact Ex.exc (Ex1.if_ (b := true) (c := true) (Tr.eq (Tr.cmp (by walk_at "mine.e") Ev.int c_eq) (by rw [beq_iff_eq]; omega)) (fun _ => Ex.exc (Ex1.raiseV (by walk_at "mine.v") Ev.str hA.handled)) nofun)
      refine Ex.cons (Ex1.if_ (b := true) (c := false) (Tr.eq (Tr.cmp (by walk_at "mine.e") Ev.int c_eq) (by rw [beq_eq_false_iff_ne]; omega)) nofun (fun _ => Ex.nil)) ?_
      by_cases h2 : x.length < pos + 7
      · have hr : decRes x = .exc 37 := by unfold decRes decL; rw [e]; simp only [h1, h2, if_true, if_false]
        rw [hr]
        exact Ex.exc (Ex1.if_ (b := true) (c := true) (Tr.eq (Tr.cmp (Ev.bin (by walk_at "mine.e") Ev.int op_add) (Ev.callB (by walk_at "mine.v") (by walk_at "mine.e") (c_lenS hxl)) c_gt) (by rw [S_len, decide_eq_true_eq]; omega)) (fun _ => Ex.exc (Ex1.raiseV (by walk_at "mine.v") Ev.str hA.handled)) nofun)
      refine Ex.cons (Ex1.if_ (b := true) (c := false) (Tr.eq (Tr.cmp (Ev.bin (by walk_at "mine.e") Ev.int op_add) (Ev.callB (by walk_at "mine.v") (by walk_at "mine.e") (c_lenS hxl)) c_gt) (by rw [S_len, decide_eq_false_iff_not]; omega)) nofun (fun _ => Ex.nil)) ?_
      have ts : Txt.slice (S x) none (some (pos : Int)) = S (x.take pos) := by rw [slice_cut, cut_upto]
      have ts2 : Txt.slice (S x) (some ((pos : Int) + 1)) none = S (x.drop (pos + 1)) := by rw [slice_cut]; exact congrArg S (cut_from x (pos + 1))
      by_cases h3 : (x.take pos).all inRange = true
      rotate_left 1
      · have h3 : (x.take pos).all inRange = false := by simpa using h3
        have hr : decRes x = .exc 37 := by
          unfold decRes decL; rw [e]; simp only [h1, h2, if_false]
          rw [if_pos (show (x.take pos).all inR = false from h3)]
        rw [hr]
        exact Ex.exc (Ex1.if_ (b := false) (c := true) (Tr.not (c := false) (Tr.ofBool (Ev.eq (Ev.callF hA hl' (by walk_at "mine.v") (EvA.cons (Ev.eq (Ev.sliceS (lo := none) (hi := some (pos : Int)) (by walk_at "mine.e") rfl ⟨_, rfl, by walk_at "mine.e"⟩ hxl) (congrArg PV.str ts)) EvA.nil) (fn_range (hd := x.take pos) (by rw [List.length_take]; omega)) (by rfl)) (congrArg PV.bool h3)))) (fun _ => Ex.exc (Ex1.raiseV (by walk_at "mine.v") Ev.str hA.handled)) nofun)
      refine Ex.cons (Ex1.if_ (b := false) (c := false) (Tr.not (c := true) (Tr.ofBool (Ev.eq (Ev.callF hA hl' (by walk_at "mine.v") (EvA.cons (Ev.eq (Ev.sliceS (lo := none) (hi := some (pos : Int)) (by walk_at "mine.e") rfl ⟨_, rfl, by walk_at "mine.e"⟩ hxl) (congrArg PV.str ts)) EvA.nil) (fn_range (hd := x.take pos) (by rw [List.length_take]; omega)) (by rfl)) (congrArg PV.bool h3)))) nofun (fun _ => Ex.nil)) ?_
      by_cases h4 : (x.drop (pos + 1)).all inRange = true
      rotate_left 1
      · have h4 : (x.drop (pos + 1)).all inRange = false := by simpa using h4
        have hr : decRes x = .exc 37 := by
          unfold decRes decL; rw [e]; simp only [h1, h2, if_false]
          rw [if_neg (show ¬ (x.take pos).all inR = false from by rw [show (x.take pos).all inR = true from h3]; nofun), if_pos (show (x.drop (pos + 1)).all inR = false from h4)]
        rw [hr]
        exact Ex.exc (Ex1.if_ (b := false) (c := true) (Tr.not (c := false) (Tr.ofBool (Ev.eq (Ev.callF hA hl' (by walk_at "mine.v") (EvA.cons (Ev.eq (Ev.sliceS (lo := some ((pos : Int) + 1)) (hi := none) (by walk_at "mine.e") ⟨_, rfl, Ev.bin (by walk_at "mine.e") Ev.int op_add⟩ rfl hxl) (congrArg PV.str ts2)) EvA.nil) (fn_range (hd := x.drop (pos + 1)) (by rw [List.length_drop]; omega)) (by rfl)) (congrArg PV.bool h4)))) (fun _ => Ex.exc (Ex1.raiseV (by walk_at "mine.v") Ev.str hA.handled)) nofun)
      refine Ex.cons (Ex1.if_ (b := false) (c := false) (Tr.not (c := true) (Tr.ofBool (Ev.eq (Ev.callF hA hl' (by walk_at "mine.v") (EvA.cons (Ev.eq (Ev.sliceS (lo := some ((pos : Int) + 1)) (hi := none) (by walk_at "mine.e") ⟨_, rfl, Ev.bin (by walk_at "mine.e") Ev.int op_add⟩ rfl hxl) (congrArg PV.str ts2)) EvA.nil) (fn_range (hd := x.drop (pos + 1)) (by rw [List.length_drop]; omega)) (by rfl)) (congrArg PV.bool h4)))) nofun (fun _ => Ex.nil)) ?_
      have hasc : ∀ c ∈ x, c < 128 := by
        intro c hc
        obtain ⟨i, hi⟩ := List.getElem?_of_mem hc
        rcases Nat.lt_trichotomy i pos with h | h | h
        · have hm : c ∈ x.take pos := List.mem_of_getElem? (i := i) (by rw [List.getElem?_take, if_pos h]; exact hi)
          have := List.all_eq_true.mp h3 c hm
          unfold inRange at this
          simp only [Bool.and_eq_true, decide_eq_true_eq] at this
          omega
        · subst h; rw [hpx.1] at hi; cases hi; omega
        · have hm : c ∈ x.drop (pos + 1) := List.mem_of_getElem? (i := i - (pos + 1)) (by rw [List.getElem?_drop, show pos + 1 + (i - (pos + 1)) = i by omega]; exact hi)
          have := List.all_eq_true.mp h4 c hm
          unfold inRange at this
          simp only [Bool.and_eq_true, decide_eq_true_eq] at this
          omega
      have n3 : ¬ (x.take pos).all inR = false := by rw [show (x.take pos).all inR = true from h3]; nofun
      have n4 : ¬ (x.drop (pos + 1)).all inR = false := by rw [show (x.drop (pos + 1)).all inR = true from h4]; nofun
      have tl : Builtin.Str.tooLong (Txt.lower (S x)).length = false := by rw [lower_S hasc, S_len, List.length_map]; unfold Builtin.Str.tooLong; exact decide_eq_false (by omega)
      have tu : Builtin.Str.tooLong (Txt.upper (S x)).length = false := by rw [upper_S hasc, S_len, List.length_map]; unfold Builtin.Str.tooLong; exact decide_eq_false (by omega)
      have neS : ∀ y : List Nat, (S y != S x) = decide (y ≠ x) := fun y => by
        rw [Bool.eq_iff_iff]
        simp only [bne_iff_ne, decide_eq_true_eq, ne_eq]
        exact ⟨fun h q => h (by rw [q]), fun h q => h (S_inj q)⟩
      by_cases h5 : x.map lo1 ≠ x ∧ x.map up1 ≠ x
      · have hr : decRes x = .exc 37 := by
          unfold decRes decL; rw [e]; simp only [h1, h2, if_false]
          rw [if_neg n3, if_neg n4, if_pos h5]
        rw [hr]
        refine Ex.exc (Ex1.if_ (b := true) (c := true) (Tr.eq (Tr.and (Tr.cmp (Ev.meth0 (id := "str.lower") (x := S x) (by walk_at "mine.e") m_lower (c_lower tl)) (by walk_at "mine.e") c_neS) (fun _ => Tr.and (Tr.cmp (Ev.meth0 (id := "str.upper") (x := S x) (by walk_at "mine.e") m_upper (c_upper tu)) (by walk_at "mine.e") c_neS) (fun _ => Tr.and_nil))) ?_) (fun _ => Ex.exc (Ex1.raiseV (by walk_at "mine.v") Ev.str hA.handled)) nofun)
        rw [lower_S hasc, upper_S hasc, neS, neS, decide_eq_true h5.1, decide_eq_true h5.2]; rfl
      refine Ex.cons (Ex1.if_ (b := true) (c := false) (Tr.eq (Tr.and (Tr.cmp (Ev.meth0 (id := "str.lower") (x := S x) (by walk_at "mine.e") m_lower (c_lower tl)) (by walk_at "mine.e") c_neS) (fun _ => Tr.and (Tr.cmp (Ev.meth0 (id := "str.upper") (x := S x) (by walk_at "mine.e") m_upper (c_upper tu)) (by walk_at "mine.e") c_neS) (fun _ => Tr.and_nil))) ?_) nofun (fun _ => Ex.nil)) ?_
      · rw [lower_S hasc, upper_S hasc, neS, neS]
        by_cases q1 : x.map lo1 ≠ x
        · by_cases q2 : x.map up1 ≠ x
          · exact absurd ⟨q1, q2⟩ h5
          · rw [decide_eq_false q2]; simp
        · rw [decide_eq_false q1]; rfl
      have hyl : (S (x.map lo1)).length ≤ sizeLine := by rw [S_len, List.length_map]; omega
      have us : Txt.slice (S (x.map lo1)) none (some (pos : Int)) = S ((x.map lo1).take pos) := by rw [slice_cut, cut_upto]
      have us2 : Txt.slice (S (x.map lo1)) (some ((pos : Int) + 1)) none = S ((x.map lo1).drop (pos + 1)) := by rw [slice_cut]; exact congrArg S (cut_from (x.map lo1) (pos + 1))
      refine Ex.cons (Ex1.assign (b := true) (p := .str (S (x.map lo1))) (Ev.eq (Ev.meth0 (id := "str.lower") (x := S x) (by walk_at "mine.e") m_lower (c_lower tl)) (congrArg PV.str (lower_S hasc))) (by walk_at "mine.bound")) ?_
      refine Ex.cons (Ex1.assign (b := true) (p := .str (S ((x.map lo1).take pos))) (Ev.eq (Ev.sliceS (lo := none) (hi := some (pos : Int)) (by walk_at "mine.e") rfl ⟨_, rfl, by walk_at "mine.e"⟩ hyl) (congrArg PV.str us)) (by walk_at "mine.bound")) ?_
      have hlo : ∀ c ∈ (x.map lo1).drop (pos + 1), c < 128 := by
        intro c hc
        obtain ⟨d, hd, rfl⟩ := List.mem_map.mp (List.mem_of_mem_drop hc)
        have := hasc d hd
        unfold lo1
        split <;> omega
      generalize hbody : (x.map lo1).drop (pos + 1) = body at *
      have hbl : body.length = x.length - (pos + 1) := by rw [← hbody, List.length_drop, List.length_map]
      refine Ex.cons (Ex1.comp (items := signs (S body)) [] gd (ItEv.ofStr (Ev.eq (Ev.sliceS (lo := some ((pos : Int) + 1)) (hi := none) (by walk_at "mine.e") ⟨_, rfl, Ev.bin (by walk_at "mine.e") Ev.int op_add⟩ rfl hyl) (congrArg PV.str us2))) hA.handled hE (by walk_at "mine.comp") (by intro q hq; cases hq) (by walk_at "mine.k") ?_ ?_ ?_ (swaps_true hE (by walk_at "mine.k") rfl rfl)) ?_
      · intro cenv hEc hsc' p hp
        unfold signs at hp
        obtain ⟨c, hc, rfl⟩ := List.mem_map.mp hp
        rw [S_cps] at hc
        have hc := hlo c hc
        refine Ev.dictGet (a := 67) (x := chr1 c) (i := -1) (r := idxOf c) hEc (by walk_at "mine.k") (by rfl) (by rfl) ?_ rfl (by walk_at "mine.e") (Ev.neg Ev.int) (idx_find (by rfl) hc)
        repeat (first | exact trivial | refine ⟨⟨_, _, rfl, rfl⟩, ?_⟩)
      · intro p hp
        unfold signs at hp
        obtain ⟨c, _, rfl⟩ := List.mem_map.mp hp
        rfl
      · rw [signs_len, S_len]; omega
      rw [gd_pv]
      generalize hix : body.map idxOf = ix at *
      have hixl : ix.length = body.length := by rw [← hix, List.length_map]
      have hge : ∀ i ∈ ix, i = -1 ∨ 0 ≤ i := by
        intro i hi
        rw [← hix] at hi
        obtain ⟨c, _, rfl⟩ := List.mem_map.mp hi
        exact idxOf_ge c
      have hz6 : (intsV ix).length ≤ sizeLine := by unfold intsV; rw [List.length_map, hixl]; omega
      have hil : (intsV ix).length = ix.length := by unfold intsV; rw [List.length_map]
      have t6 : cut (some (-6)) none (intsV ix) = (ix.drop (ix.length - 6)).map PV.int := by rw [ints_cut, cut_from6]; rfl
      by_cases h6 : (ix.drop (ix.length - 6)).any (· == -1) = true
      · have hr : decRes x = .exc 37 := by
          unfold decRes decL; rw [e]; simp only [h1, h2, if_false]
          rw [if_neg n3, if_neg n4, if_neg h5, hbody, hix, if_pos h6]
        rw [hr]
        exact Ex.exc (Ex1.if_ (b := true) (c := true) (Tr.eq (Tr.cmp (Ev.neg Ev.int) (Ev.eq (Ev.sliceL (lo := some (-6)) (hi := none) (l := intsV ix) (by walk_at "mine.e") ⟨_, rfl, Ev.neg Ev.int⟩ rfl hz6) (congrArg PV.list t6)) c_inL) h6) (fun _ => Ex.exc (Ex1.raiseV (by walk_at "mine.v") Ev.str hA.handled)) nofun)
      have h6f : (ix.drop (ix.length - 6)).any (· == -1) = false := Bool.eq_false_iff.mpr h6
      refine Ex.cons (Ex1.if_ (b := true) (c := false) (Tr.eq (Tr.cmp (Ev.neg Ev.int) (Ev.eq (Ev.sliceL (lo := some (-6)) (hi := none) (l := intsV ix) (by walk_at "mine.e") ⟨_, rfl, Ev.neg Ev.int⟩ rfl hz6) (congrArg PV.list t6)) c_inL) h6f) nofun (fun _ => Ex.nil)) ?_
      by_cases h7 : ix.any (· == -1) = true
      · have hr : decRes x = .exc 37 := by
          unfold decRes decL; rw [e]; simp only [h1, h2, if_false]
          rw [if_neg n3, if_neg n4, if_neg h5, hbody, hix, if_neg h6, if_pos h7]
        rw [hr]
        exact Ex.exc (Ex1.if_ (b := true) (c := true) (Tr.eq (Tr.cmp (Ev.neg Ev.int) (Ev.name (p := .list (ix.map PV.int)) hE (by rfl)) c_inL) h7) (fun _ => Ex.exc (Ex1.raiseV (by walk_at "mine.v") Ev.str hA.handled)) nofun)
      have h7f : ix.any (· == -1) = false := Bool.eq_false_iff.mpr h7
      refine Ex.cons (Ex1.if_ (b := true) (c := false) (Tr.eq (Tr.cmp (Ev.neg Ev.int) (Ev.name (p := .list (ix.map PV.int)) hE (by rfl)) c_inL) h7f) nofun (fun _ => Ex.nil)) ?_
      have hr : decRes x = .ok (.tup [.str (S ((x.map lo1).take pos)), .list (nints ((ix.map Int.toNat).take ((ix.map Int.toNat).length - 6))), .list (nints ((ix.map Int.toNat).drop ((ix.map Int.toNat).length - 6)))]) := by
        unfold decRes decL; rw [e]; simp only [h1, h2, if_false]
        rw [if_neg n3, if_neg n4, if_neg h5, hbody, hix, if_neg h6, if_neg h7]
      rw [hr]
      have hnn : intsV ix = nints (ix.map Int.toNat) := ints_nints h7f hge
      refine Ex.cons (Ex1.assign (b := true) (p := .list (nints (ix.map Int.toNat))) (Ev.eq (Ev.name (p := .list (intsV ix)) hE (by rfl)) (congrArg PV.list hnn)) (by walk_at "mine.bound")) ?_
      have hz7 : (nints (ix.map Int.toNat)).length ≤ sizeLine := by rw [← hnn]; exact hz6
      have t7 : cut none (some (-6)) (nints (ix.map Int.toNat)) = nints ((ix.map Int.toNat).take ((ix.map Int.toNat).length - 6)) := by rw [nints_cut, cut_upto6]
      have t8 : cut (some (-6)) none (nints (ix.map Int.toNat)) = nints ((ix.map Int.toNat).drop ((ix.map Int.toNat).length - 6)) := by rw [nints_cut, cut_from6]
      exact Ex.ret (Ex1.ret (b := true) (Ev.tup (EvA.cons (by walk_at "mine.e") (EvA.cons (Ev.eq (Ev.sliceL (lo := none) (hi := some (-6)) (by walk_at "mine.e") rfl ⟨_, rfl, Ev.neg Ev.int⟩ hz7) (congrArg PV.list t7)) (EvA.cons (Ev.eq (Ev.sliceL (lo := some (-6)) (hi := none) (by walk_at "mine.e") ⟨_, rfl, Ev.neg Ev.int⟩ rfl hz7) (congrArg PV.list t8)) EvA.nil))) rfl (by show 3 ≤ sizeLine; decide)))
end
end Mine

open PySem PySem.W PySem.Calls PyProof.Rows
set_option Elab.async false
set_option linter.unusedVariables false
set_option maxRecDepth 2000
set_option maxHeartbeats 100000
namespace Mine
section
variable {prog : Program} {w : World} {H : Heap} {b : Bool} {A : Around} {env : Env} {ρ ρ' : Rho}

/-! an expression that raises -/
def EvX (prog : Program) (w : World) (H : Heap) (A : Around) (env : Env) (ρ : Rho) (e : Expr) (C : Addr) : Prop := ∀ s, St H w false A env ρ s →
  wpAny (model prog w) A (eval e env) (fun _ _ => False) (fun ev s' => ∃ e l s₁, ev = .ref e ∧ Kp (fsOf A) s s₁ ∧ A.frames = some l ∧ Fly l s₁ C e s') s
theorem EvX.callF {fx : Str} {fp : Pos} {e : Expr} {rest : List Expr} {pos : Pos} {f : Addr} {n : Nat} {ps : List PV} {C : Addr}
    (hA : AOk n A) (hl : ∃ l, A.frames = some l) (hf : EvV prog w H A env ρ (.Name fx fp) (.ref f)) (ha : EvA prog w H false A env ρ (e :: rest) ps) (hc : FnOk prog w H n f ps (.exc C)) (hk : keepIn (KF w.params) (.ref f) = true)
    (he : starEach (e :: rest) env = (false, eval e env) :: starEach rest env := by rfl)
    (hp : (backTo pos (starEach rest env)).any (·.1) = false := by rfl) : EvX prog w H A env ρ (.Call (.Name fx fp) (e :: rest) [] pos) C := fun s S => by
  refine wp_callF S hA hl hf ha hc hk (fun s₁ r s' k h => ?_) he hp
  obtain ⟨e, l, rfl, hl', X⟩ := h
  exact ⟨e, l, s₁, rfl, k, hl', X⟩
theorem EvX.ite1 {t x y : Expr} {pos : Pos} {C : Addr} (h : Tr prog w H false A env ρ t true) (h' : EvX prog w H A env ρ x C) : EvX prog w H A env ρ (.IfExp t x y pos) C := fun s S => by
  refine IfExp_ (wpAny_mono (h s _ S) (fun v s₁ k => ?_) fun _ _ x => x)
  obtain ⟨k, rfl⟩ := k
  exact wpAny_mono (h' s₁ (S.kb k)) (fun _ _ q => q) fun _ _ ⟨e, l, s₂, a, b, c⟩ => ⟨e, l, s₂, a, Kp.trans k b, c⟩
theorem Ex1.assignX {x : Str} {pp pos : Pos} {e : Expr} {C : Addr} (h : EvX prog w H A env ρ e C) (hs : swapsWith e (some (.Name x pp)) pos.line env = pure false := by rfl) : Ex1 prog w H A env ρ (.Assign [.Name x pp] e pos) (.exc C) := fun s₀ s F R =>
  wpAny_Assign_Name (wpAny_mono (h s (R.st F)) (fun _ _ q => q.elim) fun ev s' ⟨e, l, s₁, a, k, hl, X⟩ => ⟨e, a, .inr (.inl ⟨s₁, l, (R.step k).weak (by intro _ _ q; cases q), hl, X⟩)⟩) hs
theorem Ex1.assignTX {elts : List Expr} {k : Nat} {tpos pos : Pos} {e : Expr} {C : Addr} (h : EvX prog w H A env ρ e C)
    (hs : swapsWithSole [.Tuple elts k tpos] e pos.line env = pure false := by rfl) (hw : swappedStores [.Tuple elts k tpos] e env = pure Option.none := by rfl) : Ex1 prog w H A env ρ (.Assign [.Tuple elts k tpos] e pos) (.exc C) := fun s₀ s F R =>
  Assign_Tuple (wpAny_mono (h s (R.st F)) (fun _ _ q => q.elim) fun ev s' ⟨e, l, s₁, a, k, hl, X⟩ => ⟨e, a, .inr (.inl ⟨s₁, l, (R.step k).weak (by intro _ _ q; cases q), hl, X⟩)⟩) hs hw

/-! three names at once -/
theorem list_solid {h : Heap} {a : Addr} {xs : Array Value} (hl : h.IsList a xs) : ∃ o, h.get? a = some o ∧ Solid o ∧ ∀ h' : Heap, h'.get? a = some o → h'.IsList a xs := by
  obtain ⟨o, e, c, n, d⟩ := hl
  exact ⟨o, e, ⟨by rw [c]; nofun, by rw [d]; nofun, by rw [d]; nofun⟩, fun h' e' => ⟨o, e', c, n, d⟩⟩
theorem Rep1.stp {s₀ s s' : Shared} (R : Run H w A env ρ s₀ s) (k : Stp (fsOf A) env s s') {v : Value} {p : PV} (r : Rep1 s.heap v p) : Rep1 s'.heap v p := by
  cases p with
  | list l =>
    obtain ⟨a, vs, e, hl, ps⟩ := r
    obtain ⟨o, eo, so, back⟩ := list_solid hl
    exact ⟨a, vs, e, back _ (k.solid R eo so), ps⟩
  | _ => exact r
theorem Ex1.assignT3 {x₁ x₂ x₃ : Str} {q₁ q₂ q₃ : Pos} {k : Nat} {tpos pos : Pos} {e : Expr} {p₁ p₂ p₃ : PV} (h : Ev prog w H b A env ρ e (.tup [p₁, p₂, p₃])) (hh : A.handled = Option.none) (n₁ : p₁.isTup = false) (n₂ : p₂.isTup = false) (n₃ : p₃.isTup = false)
    (b₁ : Bound env x₁) (b₂ : Bound env x₂) (b₃ : Bound env x₃)
    (hs : swapsWithSole [.Tuple [.Name x₁ q₁, .Name x₂ q₂, .Name x₃ q₃] k tpos] e pos.line env = pure false := by rfl) (hw : swappedStores [.Tuple [.Name x₁ q₁, .Name x₂ q₂, .Name x₃ q₃] k tpos] e env = pure Option.none := by rfl) :
    Ex1 prog w H A env ρ (.Assign [.Tuple [.Name x₁ q₁, .Name x₂ q₂, .Name x₃ q₃] k tpos] e pos) (.next ((x₃, p₃) :: (x₂, p₂) :: (x₁, p₁) :: ρ)) := fun s₀ s F R => by
  refine Assign_Tuple (wpAny_mono (h s _ (R.st F)) (fun v s₁ h1 => ?_) fun _ _ x => x) hs hw
  obtain ⟨k1, t, vs, rfl, ht, (_ | @⟨v₁, _, _, _, r₁, (_ | @⟨v₂, _, _, _, r₂, (_ | @⟨v₃, _, _, _, r₃, (_ | _)⟩)⟩)⟩)⟩ := h1
  refine assign_Tuple_tuple hh ht rfl rfl fun h' hx => ?_
  have kk : Keeps s₁ { s₁ with heap := h' } := Keeps.hp fun b o e => hx b o (Nat.ne_of_lt (Heap.lt_size e)) e
  have g : Grow [] s₁.heap h' := .of_keeps (Keeps.kk kk)
  have R2 := (R.step k1.kp).step (.of_keeps kk)
  have st2 : Stp (fsOf A) env s { s₁ with heap := h' } := (Stp.of_kp k1.kp).trans (.of_kp (.of_keeps kk))
  have r₁ := r₁.grow g
  have r₂ := r₂.grow g
  have r₃ := r₃.grow g
  show wpAny (model prog w) A (do holding [v₂, v₃] (PySem.assign (Expr.Name x₁ q₁) env v₁); holding [v₃] (PySem.assign (Expr.Name x₂ q₂) env v₂); holding [] (PySem.assign (Expr.Name x₃ q₃) env v₃); pure ()) _ _ _
  refine wpAny_bind (wpAny_holding (PySem.wpAny_assign_Name (wpAny_mono (wp_store F R2 b₁ r₁.rep) (fun _ s3 h3 => ?_) fun _ _ x => x)))
  obtain ⟨R3, st3⟩ := h3
  have r₂ := r₂.stp R2 st3
  have r₃ := r₃.stp R2 st3
  refine wpAny_bind (wpAny_holding (PySem.wpAny_assign_Name (wpAny_mono (wp_store F R3 b₂ r₂.rep) (fun _ s4 h4 => ?_) fun _ _ x => x)))
  obtain ⟨R4, st4⟩ := h4
  have r₃ := r₃.stp R3 st4
  refine wpAny_bind (wpAny_holding (PySem.wpAny_assign_Name (wpAny_mono (wp_store F R4 b₃ r₃.rep) (fun _ s5 h5 => ?_) fun _ _ x => x)))
  obtain ⟨R5, st5⟩ := h5
  exact wpAny_pure ⟨rfl, R5, st2.trans (st3.trans (st4.trans st5))⟩
end
end Mine

open PySem PySem.W PySem.Calls PyProof.Rows
set_option Elab.async false
set_option linter.unusedVariables false
set_option maxRecDepth 100000
set_option maxHeartbeats 8000000
namespace Mine
local macro_rules | `(tactic| walk_at "mine.k") => `(tactic| first
  | (refine kindOf_of (by assumption) ?_; rfl)
  | (refine kindOf_rel (by assumption) (by assumption) ?_; rfl))
local macro_rules | `(tactic| walk_at "mine.bound") => `(tactic| first
  | (refine Or.inl ?_; walk_at "mine.k")
  | (refine Or.inr ⟨?_, ?_⟩; walk_at "mine.k"; (refine cells_of (by assumption) ?_; intro _; rfl)))
local macro_rules | `(tactic| walk_at "mine.v") => `(tactic| first
  | (refine EvV.boot (by assumption) (by walk_at "mine.k") ?_ ?_; rfl; rfl)
  | (refine EvV.glob (by assumption) (by walk_at "mine.k") ?_; rfl))
local macro_rules | `(tactic| walk_at "mine.e") => `(tactic| first
  | exact Ev.int
  | exact Ev.str
  | exact Ev.bool
  | exact Ev.none
  | (refine Ev.name (by assumption) ?_; rfl)
  | (refine EvV.ev (by walk_at "mine.v") ⟨_, rfl⟩)
  | (refine Ev.neg ?_; walk_at "mine.e")
  | (refine EvA.cons ?_ ?_ <;> walk_at "mine.e")
  | exact EvA.nil
  | (refine Ev.bin ?_ ?_ op_add <;> walk_at "mine.e")
  | (refine Ev.bin ?_ ?_ op_sub <;> walk_at "mine.e")
  | (refine Ev.bin ?_ ?_ op_and <;> walk_at "mine.e")
  | (refine Ev.bin ?_ ?_ op_xor <;> walk_at "mine.e")
  | (refine Ev.bin ?_ ?_ (op_shr ?_) <;> (try walk_at "mine.e")))
local macro_rules | `(tactic| walk_at "mine.sub") => `(tactic| (repeat (first | exact sub_nil | refine sub_cons (by rfl) ?_)))
local macro_rules | `(tactic| walk_at "mine.comp") => `(tactic| exact ⟨free_of (by assumption) (fun _ => by rfl), by decide, rfl, by decide, rfl, by intro q hq; cases hq⟩)
local macro_rules | `(tactic| walk_at "mine.bind1") => `(tactic| (intro s vs T hl; match vs, hl with
  | [v], _ => exact BindsTo.of_eq (by rfl)))
local macro_rules | `(tactic| walk_at "mine.bind2") => `(tactic| (intro s vs T hl; match vs, hl with
  | [v, u], _ => exact BindsTo.of_eq (by rfl)))
local macro_rules | `(tactic| walk_at "mine.bind3") => `(tactic| (intro s vs T hl; match vs, hl with
  | [v, u, x], _ => exact BindsTo.of_eq (by rfl)))

section
variable {prog : Program} {w : World} {H : Heap}
theorem idxOf_lt (c : Nat) : idxOf c < 32 := by
  unfold idxOf
  split
  · rename_i i e
    have := (List.findIdx?_eq_some_iff_findIdx_eq.mp e).1
    have h2 : alphL.length = 32 := rfl
    omega
  · omega
theorem decL_facts {x h ix : List Nat} (e : decL x = some (h, ix)) (hx : x.length ≤ 4000) : (∀ c ∈ h, c < 128) ∧ h.length ≤ x.length ∧ ix.length ≤ x.length ∧ (∀ v ∈ ix, v < 32) := by
  unfold decL at e
  split at e
  · cases e
  · rename_i pos hp
    split at e
    · cases e
    · split at e
      · cases e
      · split at e
        · cases e
        · rename_i h3
          split at e
          · cases e
          · split at e
            · cases e
            · dsimp only at e
              split at e
              · cases e
              · split at e
                · cases e
                · cases e
                  refine ⟨fun c hc => ?_, ?_, ?_, fun v hv => ?_⟩
                  · rw [← List.map_take] at hc
                    obtain ⟨d, hd, rfl⟩ := List.mem_map.mp hc
                    have h3 : (x.take pos).all inR = true := by simpa using h3
                    have := List.all_eq_true.mp h3 d hd
                    unfold inR at this
                    simp only [Bool.and_eq_true, decide_eq_true_eq] at this
                    unfold lo1; split <;> omega
                  · rw [List.length_take, List.length_map]; omega
                  · simp only [List.length_map, List.length_drop]; omega
                  · simp only [List.map_map, List.mem_map] at hv
                    obtain ⟨c, _, rfl⟩ := hv
                    have := idxOf_lt c
                    show (idxOf c).toNat < 32
                    omega

def ownM : List Nat → Option Nat
  | [] => none
  | a :: _ => some (if a = 0 then 1 else 734539939)
def pickM (m : Option Nat) (d : List Nat) : Option Nat := match m with
  | some k => some k
  | none => ownM d
def decOut (x : List Nat) (m : Option Nat) : Res := match decL x with
  | none => .exc 37
  | some (h, ix) => match pickM m (ix.take (ix.length - 6)) with
    | none => .exc 37
    | some k => if pm (expand h ++ (ix.take (ix.length - 6) ++ ix.drop (ix.length - 6))) = k then .ok (.tup [.str (S h), .list (nints (ix.take (ix.length - 6)))]) else .exc 37
def mPV : Option Nat → PV
  | some k => .int (k : Int)
  | none => .none

theorem fn_decode {x : List Nat} {m : Option Nat} (hz : x.length ≤ 4000) (args : List PV) (extra : List Value) (extraP : List PV) (hc : (args = [.str (S x), mPV m] ∧ extra = [] ∧ extraP = []) ∨ (args = [.str (S x)] ∧ extra = [Value.none] ∧ extraP = [PV.none] ∧ m = none)) :
    FnOk prog w H 3 119 args (decOut x m) := by
  have hap : args ++ extraP = [.str (S x), mPV m] := by
    rcases hc with ⟨rfl, _, rfl⟩ | ⟨rfl, _, rfl, rfl⟩ <;> rfl
  refine FnOk.def (names := ["bech", "m"]) (n := 2) extra extraP (ho := by rfl) (hcd := by kernel_rfl) (hbody := rfl) (hbind := ?_) (hx := ?_) (hloc := by decide) (hnd := by decide) (hclo := rfl) (hgl := rfl) (hbi := rfl) (hco := rfl) (hgen := rfl) (hk := rfl) (h := ?_)
  · intro s vs T hl
    rcases hc with ⟨rfl, rfl, rfl⟩ | ⟨rfl, rfl, rfl, rfl⟩
    · match vs, hl with
      | [v, u], _ => exact BindsTo.of_defaults (T := 112) (by rfl) (T.K 112 _ (by rfl)) (by rfl) (by rfl) (by rfl)
    · match vs, hl with
      | [v], _ => exact BindsTo.of_defaults (T := 112) (by rfl) (T.K 112 _ (by rfl)) (by rfl) (by rfl) (by rfl)
  · intro h
    rcases hc with ⟨_, rfl, rfl⟩ | ⟨_, rfl, rfl, _⟩
    · exact .nil
    · exact .cons rfl .nil
  · intro A env hA hE hsc hcode hqual hcl hl
    rw [hap]
    have hl' : ∃ l, A.frames = some l := let ⟨l, e⟩ := hl; ⟨_, e⟩
    have zz : sizeLine = 16777216 := rfl
    cases e : decL x with
    | none =>
      have hr : decOut x m = .exc 37 := by unfold decOut; rw [e]
      have hr2 : decRes x = .exc 37 := by unfold decRes; rw [e]
      have hd := fn_dec (prog := prog) (w := w) (H := H) hz
      rw [hr2] at hd
      rw [hr]
      exact Ex.exc (Ex1.assignTX (EvX.callF hA hl' (by walk_at "mine.v") (EvA.cons (by walk_at "mine.e") EvA.nil) hd (by rfl)))
    | some q =>
      obtain ⟨h, ix⟩ := q
      obtain ⟨f1, f2, f3, f4⟩ := decL_facts e hz
      have hr2 : decRes x = .ok (.tup [.str (S h), .list (nints (ix.take (ix.length - 6))), .list (nints (ix.drop (ix.length - 6)))]) := by unfold decRes; rw [e]
      have hd := fn_dec (prog := prog) (w := w) (H := H) hz
      rw [hr2] at hd
      have hr : decOut x m = match pickM m (ix.take (ix.length - 6)) with
        | none => .exc 37
        | some k => if pm (expand h ++ (ix.take (ix.length - 6) ++ ix.drop (ix.length - 6))) = k then .ok (.tup [.str (S h), .list (nints (ix.take (ix.length - 6)))]) else .exc 37 := by unfold decOut; rw [e]
      rw [hr]
      have g1 : (ix.take (ix.length - 6)).length ≤ 4000 := by rw [List.length_take]; omega
      have g2 : (ix.drop (ix.length - 6)).length ≤ 4000 := by rw [List.length_drop]; omega
      have g3 : ∀ v ∈ ix.take (ix.length - 6) ++ ix.drop (ix.length - 6), v < 32 := by rw [List.take_append_drop]; exact f4
      have g4 : (ix.take (ix.length - 6) ++ ix.drop (ix.length - 6)).length ≤ 4000 := by rw [List.take_append_drop]; omega
      generalize ix.take (ix.length - 6) = d at *
      generalize ix.drop (ix.length - 6) = c at *
      refine Ex.cons (Ex1.assignT3 (b := false) (Ev.callF hA hl' (by walk_at "mine.v") (EvA.cons (by walk_at "mine.e") EvA.nil) hd (by rfl)) hA.handled rfl rfl rfl (by walk_at "mine.bound") (by walk_at "mine.bound") (by walk_at "mine.bound")) ?_
      have tail : ∀ k : Nat, Ex1 prog w H A env ((("m" : Str), .int (k : Int)) :: (("checksum" : Str), .list (nints c)) :: (("data" : Str), .list (nints d)) :: (("hrp" : Str), .str (S h)) :: [(("bech" : Str)), ("m" : Str)].zip [.str (S x), mPV m]) (.Pass ⟨0, 0, 0, 0⟩) (.next ((("m" : Str), .int (k : Int)) :: (("checksum" : Str), .list (nints c)) :: (("data" : Str), .list (nints d)) :: (("hrp" : Str), .str (S h)) :: [(("bech" : Str)), ("m" : Str)].zip [.str (S x), mPV m])) := fun k => Ex1.pass
      clear tail
      cases ek : pickM m d with
      | none =>
        have hm : m = none := by cases m with | none => rfl | some k => cases ek
        subst hm
        have hdn : d = [] := by cases d with | nil => rfl | cons => cases ek
        subst hdn
        exact Ex.exc (Ex1.assignX (EvX.ite1 (Tr.cmp (Ev.name (p := .none) hE (by rfl)) Ev.none c_isNone) (EvX.callF (hA.mono (by decide : 1 ≤ 2)) hl' (by walk_at "mine.v") (EvA.cons (by walk_at "mine.e") EvA.nil) fn_mwit_nil (by rfl))))
      | some k =>
        refine Ex.cons (Ex1.assign (b := false) (p := .int (k : Int)) (?_ : Ev prog w H false A env _ _ _) (by walk_at "mine.bound")) ?_
        · cases m with
          | some k' =>
            cases ek
            exact Ev.ite (c := false) (Tr.cmp (Ev.name (p := .int (k : Int)) hE (by rfl)) Ev.none c_isNone_int) nofun (fun _ => Ev.name (p := .int (k : Int)) hE (by rfl))
          | none =>
            cases d with
            | nil => cases ek
            | cons a r =>
              have hk : k = if a = 0 then 1 else 734539939 := (Option.some.inj ek).symm
              refine Ev.ite (c := true) (Tr.cmp (Ev.name (p := .none) hE (by rfl)) Ev.none c_isNone) (fun _ => Ev.eq (Ev.callF (hA.mono (by decide : 1 ≤ 2)) hl' (by walk_at "mine.v") (EvA.cons (by walk_at "mine.e") EvA.nil) (fn_mwit (d := a) (r := r) (by rw [List.length_cons] at g1; omega)) (by rfl)) (congrArg PV.int ?_)) nofun
              rw [hk]; split <;> rfl
        dsimp only
        have hver := fn_verify (prog := prog) (w := w) (H := H) (x := S h) (data := d ++ c) (m := k) (by rw [S_len]; omega) (by rw [S_cps]; exact f1) g4 g3
        rw [S_cps] at hver
        by_cases hv : pm (expand h ++ (d ++ c)) = k
        · rw [if_pos hv]
          refine Ex.ret (Ex1.if_ (b := false) (c := true) (Tr.ofBool (Ev.eq (Ev.callF hA hl' (by walk_at "mine.v") (EvA.cons (by walk_at "mine.e") (EvA.cons (Ev.eq (Ev.bin (by walk_at "mine.e") (by walk_at "mine.e") (op_addL ?_)) (congrArg PV.list (nints_app d c).symm)) (EvA.cons (by walk_at "mine.e") EvA.nil))) hver (by rfl)) (congrArg PV.bool (by rw [hv]; simp)))) (fun _ => Ex.ret (Ex1.ret (b := true) (Ev.tup (EvA.cons (by walk_at "mine.e") (EvA.cons (by walk_at "mine.e") EvA.nil)) rfl (by show 2 ≤ sizeLine; decide)))) nofun)
          rw [nints_len, nints_len]; omega
        · rw [if_neg hv]
          refine Ex.cons (Ex1.if_ (b := false) (c := false) (Tr.ofBool (Ev.eq (Ev.callF hA hl' (by walk_at "mine.v") (EvA.cons (by walk_at "mine.e") (EvA.cons (Ev.eq (Ev.bin (by walk_at "mine.e") (by walk_at "mine.e") (op_addL ?_)) (congrArg PV.list (nints_app d c).symm)) (EvA.cons (by walk_at "mine.e") EvA.nil))) hver (by rfl)) (congrArg PV.bool (by rw [beq_eq_false_iff_ne]; exact hv)))) nofun (fun _ => Ex.nil)) ?_
          · rw [nints_len, nints_len]; omega
          · exact Ex.exc (Ex1.raiseV (by walk_at "mine.v") Ev.str hA.handled)
end
end Mine

open PySem PySem.W PySem.Calls PyProof.Rows
set_option Elab.async false
set_option linter.unusedVariables false
set_option maxRecDepth 100000
set_option maxHeartbeats 8000000
namespace Mine
local macro_rules | `(tactic| walk_at "mine.k") => `(tactic| first
  | (refine kindOf_of (by assumption) ?_; rfl)
  | (refine kindOf_rel (by assumption) (by assumption) ?_; rfl))
local macro_rules | `(tactic| walk_at "mine.bound") => `(tactic| first
  | (refine Or.inl ?_; walk_at "mine.k")
  | (refine Or.inr ⟨?_, ?_⟩; walk_at "mine.k"; (refine cells_of (by assumption) ?_; intro _; rfl)))
local macro_rules | `(tactic| walk_at "mine.v") => `(tactic| first
  | (refine EvV.boot (by assumption) (by walk_at "mine.k") ?_ ?_; rfl; rfl)
  | (refine EvV.glob (by assumption) (by walk_at "mine.k") ?_; rfl))
local macro_rules | `(tactic| walk_at "mine.e") => `(tactic| first
  | exact Ev.int
  | exact Ev.str
  | exact Ev.bool
  | exact Ev.none
  | (refine Ev.name (by assumption) ?_; rfl)
  | (refine EvV.ev (by walk_at "mine.v") ⟨_, rfl⟩)
  | (refine Ev.neg ?_; walk_at "mine.e")
  | (refine EvA.cons ?_ ?_ <;> walk_at "mine.e")
  | exact EvA.nil
  | (refine Ev.bin ?_ ?_ op_add <;> walk_at "mine.e")
  | (refine Ev.bin ?_ ?_ op_sub <;> walk_at "mine.e")
  | (refine Ev.bin ?_ ?_ op_and <;> walk_at "mine.e")
  | (refine Ev.bin ?_ ?_ op_xor <;> walk_at "mine.e")
  | (refine Ev.bin ?_ ?_ (op_shr ?_) <;> (try walk_at "mine.e")))
local macro_rules | `(tactic| walk_at "mine.sub") => `(tactic| (repeat (first | exact sub_nil | refine sub_cons (by rfl) ?_)))
local macro_rules | `(tactic| walk_at "mine.comp") => `(tactic| exact ⟨free_of (by assumption) (fun _ => by rfl), by decide, rfl, by decide, rfl, by intro q hq; cases hq⟩)
local macro_rules | `(tactic| walk_at "mine.bind1") => `(tactic| (intro s vs T hl; match vs, hl with
  | [v], _ => exact BindsTo.of_eq (by rfl)))
local macro_rules | `(tactic| walk_at "mine.bind2") => `(tactic| (intro s vs T hl; match vs, hl with
  | [v, u], _ => exact BindsTo.of_eq (by rfl)))
local macro_rules | `(tactic| walk_at "mine.bind3") => `(tactic| (intro s vs T hl; match vs, hl with
  | [v, u, x], _ => exact BindsTo.of_eq (by rfl)))

section
variable {prog : Program} {w : World} {H : Heap}
theorem sign_lt : ∀ v, sign v < 128 := by
  intro v
  by_cases h : v < 32
  · revert v; decide
  · unfold sign
    rw [List.getD_eq_getElem?_getD, List.getElem?_eq_none (by show 32 ≤ v; omega)]; decide
theorem lawL_lt {hd data : List Nat} {m : Nat} (hc : ∀ c ∈ hd, c < 128) : ∀ c ∈ lawL hd data m, c < 128 := by
  intro c h
  unfold lawL at h
  rcases List.mem_append.mp h with h | h
  · rcases List.mem_append.mp h with h | h
    · exact hc c h
    · simp at h; omega
  · obtain ⟨v, _, rfl⟩ := List.mem_map.mp h
    exact sign_lt v
theorem lawL_len (hd data : List Nat) (m : Nat) : (lawL hd data m).length = hd.length + 1 + (data.length + 6) := by
  unfold lawL
  simp only [List.length_append, List.length_map, List.length_cons, List.length_nil, cksum_len]
def tsg : PV → Str
  | .int i => chr1 (sign i.toNat)
  | _ => Str.empty
theorem tsg_pv (l : List Nat) : (nints l).map tsg = (l.map sign).map chr1 := by
  unfold nints
  simp [tsg]

theorem fn_encode {hd data : List Nat} {m : Option Nat} {k : Nat} (hk : pickM m data = some k) (hne : hd ≠ []) (hr : hd.all inRange = true) (hlo : hd.map lo1 = hd) (hx : hd.length ≤ 90) (hd1 : data.length ≤ 90) (hd2 : ∀ v ∈ data, v < 32)
    (args : List PV) (extra : List Value) (extraP : List PV) (hc : (args = [.str (S hd), .list (nints data), mPV m] ∧ extra = [] ∧ extraP = []) ∨ (args = [.str (S hd), .list (nints data)] ∧ extra = [Value.none] ∧ extraP = [PV.none] ∧ m = none)) :
    FnOk prog w H 3 127 args (.ok (.bytes (bytesOf (S (lawL hd data k))))) := by
  have hap : args ++ extraP = [.str (S hd), .list (nints data), mPV m] := by
    rcases hc with ⟨rfl, _, rfl⟩ | ⟨rfl, _, rfl, rfl⟩ <;> rfl
  refine FnOk.def (names := ["hrp", "data", "m"]) (n := 2) extra extraP (ho := by rfl) (hcd := by kernel_rfl) (hbody := rfl) (hbind := ?_) (hx := ?_) (hloc := by decide) (hnd := by decide) (hclo := rfl) (hgl := rfl) (hbi := rfl) (hco := rfl) (hgen := rfl) (hk := rfl) (h := ?_)
  · intro s vs T hl
    rcases hc with ⟨rfl, rfl, rfl⟩ | ⟨rfl, rfl, rfl, rfl⟩
    · match vs, hl with
      | [v, u, x], _ => exact BindsTo.of_defaults (T := 120) (by rfl) (T.K 120 _ (by rfl)) (by rfl) (by rfl) (by rfl)
    · match vs, hl with
      | [v, u], _ => exact BindsTo.of_defaults (T := 120) (by rfl) (T.K 120 _ (by rfl)) (by rfl) (by rfl) (by rfl)
  · intro h
    rcases hc with ⟨_, rfl, rfl⟩ | ⟨_, rfl, rfl, _⟩
    · exact .nil
    · exact .cons rfl .nil
  · intro A env hA hE hsc hcode hqual hcl hl
    rw [hap]
    have hl' : ∃ l, A.frames = some l := let ⟨l, e⟩ := hl; ⟨_, e⟩
    have zz : sizeLine = 16777216 := rfl
    have hasc : ∀ c ∈ hd, c < 128 := by
      intro c h
      have := List.all_eq_true.mp hr c h
      unfold inRange at this
      simp only [Bool.and_eq_true, decide_eq_true_eq] at this
      omega
    have hxl : (S hd).length ≤ sizeLine := by rw [S_len]; omega
    have hlen1 : 0 < hd.length := List.length_pos_iff.mpr hne
    have tl : Builtin.Str.tooLong (Txt.lower (S hd)).length = false := by rw [lower_S hasc, S_len, List.length_map]; unfold Builtin.Str.tooLong; exact decide_eq_false (by omega)
    refine Ex.cons (Ex1.if_ (b := true) (c := false) (Tr.not (c := true) (Tr.ofBool (Ev.isi (by walk_at "mine.v") (by walk_at "mine.e") (by walk_at "mine.v") isi_str_str rfl))) nofun (fun _ => Ex.nil)) ?_
    refine Ex.cons (Ex1.if_ (b := true) (c := false) (Tr.not (c := true) (Tr.eq (Tr.ofStr (by walk_at "mine.e") hxl) (by rw [S_len, bne_iff_ne]; omega))) nofun (fun _ => Ex.nil)) ?_
    refine Ex.cons (Ex1.if_ (b := false) (c := false) (Tr.not (c := true) (Tr.ofBool (Ev.eq (Ev.callF (hA.mono (by decide : 1 ≤ 2)) hl' (by walk_at "mine.v") (EvA.cons (by walk_at "mine.e") EvA.nil) (fn_range (hd := hd) (by omega)) (by rfl)) (congrArg PV.bool hr)))) nofun (fun _ => Ex.nil)) ?_
    refine Ex.cons (Ex1.if_ (b := true) (c := false) (Tr.eq (Tr.cmp (by walk_at "mine.e") (Ev.meth0 (id := "str.lower") (x := S hd) (by walk_at "mine.e") m_lower (c_lower tl)) c_neS) (by rw [lower_S hasc, hlo]; exact bne_self_eq_false _)) nofun (fun _ => Ex.nil)) ?_
    refine Ex.cons (Ex1.for_ (items := nints data) (fun _ => [("hrp", .str (S hd)), ("data", .list (nints data)), ("m", mPV m)]) (ItEv.ofList (by walk_at "mine.e")) hA.handled (by walk_at "mine.bound") (by walk_at "mine.sub") ?_) ?_
    · intro i p hp
      unfold nints at hp
      simp only [List.getElem?_map, Option.map_eq_some_iff] at hp
      obtain ⟨v, hv, rfl⟩ := hp
      have hv := hd2 v (List.mem_of_getElem? hv)
      refine Ex.to (Ex.cons (Ex1.if_ (b := false) (c := false) (Tr.not (c := true) (Tr.ofBool (Ev.callF (hA.mono (by decide : 1 ≤ 2)) hl' (by walk_at "mine.v") (EvA.cons (by walk_at "mine.e") EvA.nil) fn_int (by rfl)))) nofun (fun _ => Ex.nil))
        (Ex.cons (Ex1.if_ (b := true) (c := false) (Tr.not (c := true) (Tr.eq (Tr.cmp2 Ev.int (by walk_at "mine.e") Ev.int c_le c_lt) (by rw [Bool.and_eq_true, decide_eq_true_eq, decide_eq_true_eq]; omega))) nofun (fun _ => Ex.nil)) Ex.nil)) (by walk_at "mine.sub")
    refine Ex.cons (Ex1.assign (b := false) (p := .int (k : Int)) (?_ : Ev prog w H false A env _ _ _) (by walk_at "mine.bound")) ?_
    · cases m with
      | some k' =>
        cases hk
        exact Ev.ite (c := false) (Tr.cmp (Ev.name (p := .int (k : Int)) hE (by rfl)) Ev.none c_isNone_int) nofun (fun _ => Ev.name (p := .int (k : Int)) hE (by rfl))
      | none =>
        cases data with
        | nil => cases hk
        | cons a r =>
          have hk : k = if a = 0 then 1 else 734539939 := (Option.some.inj hk).symm
          refine Ev.ite (c := true) (Tr.cmp (Ev.name (p := .none) hE (by rfl)) Ev.none c_isNone) (fun _ => Ev.eq (Ev.callF (hA.mono (by decide : 1 ≤ 2)) hl' (by walk_at "mine.v") (EvA.cons (by walk_at "mine.e") EvA.nil) (fn_mwit (d := a) (r := r) (by rw [List.length_cons] at hd1; omega)) (by rfl)) (congrArg PV.int ?_)) nofun
          rw [hk]; split <;> rfl
    have hcr := fn_create (prog := prog) (w := w) (H := H) (x := S hd) (data := data) (m := k) (by rw [S_len]; omega) (by rw [S_cps]; exact hasc) hd1 hd2
    rw [S_cps] at hcr
    generalize hck : cksum (expand hd ++ data) k = ck at *
    have hckl : ck.length = 6 := by rw [← hck, cksum_len]
    have hckt : ∀ v ∈ ck, v < 32 := by rw [← hck]; exact cksum_lt _ _
    refine Ex.cons (Ex1.assign (b := false) (p := .list (nints (data ++ ck))) (Ev.eq (Ev.bin (by walk_at "mine.e") (Ev.callF hA hl' (by walk_at "mine.v") (EvA.cons (by walk_at "mine.e") (EvA.cons (by walk_at "mine.e") (EvA.cons (by walk_at "mine.e") EvA.nil))) hcr (by rfl)) (op_addL ?_)) (congrArg PV.list (nints_app _ _).symm)) (by walk_at "mine.bound")) ?_
    · rw [nints_len, nints_len, hckl]; omega
    have hone : Str.ofString "1" = S [49] := by kernel_rfl
    have hL : lawL hd data k = hd ++ [49] ++ (data ++ ck).map sign := by unfold lawL; rw [hck]
    refine Ex.cons (Ex1.assign (b := false) (p := .str (S (lawL hd data k))) (Ev.eq (Ev.bin (p := .str (S (hd ++ [49]))) (q := .str (S ((data ++ ck).map sign))) ?_ ?_ (op_addS ?_)) (congrArg PV.str ?_)) (by walk_at "mine.bound")) ?_
    · refine Ev.eq (Ev.fstr (b := false) (JP.cons (Ev.fmtS (by walk_at "mine.e") hxl) (JP.cons Ev.str JP.nil)) ?_) (congrArg PV.str ?_)
      · rw [hone, str_app_nil, S_app, S_len, List.length_append]; simp only [List.length_cons, List.length_nil]; omega
      · rw [hone, str_app_nil, S_app]
    · refine Ev.eq (Ev.joinGen (items := nints (data ++ ck)) (sep := Str.ofString "") (c := 126) (P := 122) tsg rfl Ev.str (.inr rfl) hcode (by kernel_rfl) (ItEv.ofList (by walk_at "mine.e")) hA.handled hE hA.room rfl (by decide) (by decide) rfl rfl rfl ?_ ?_ ?_) ?_
      · intro A' cenv hEc hsc' p hp
        obtain ⟨i, hi, rfl⟩ := List.mem_map.mp hp
        have hi : i < 32 := (List.mem_append.mp hi).elim (hd2 i) (hckt i)
        refine Ev.subS (x := S alphL) (c := sign i) (i := i) (EvV.ev (by walk_at "mine.v") ⟨_, rfl⟩) (by walk_at "mine.e") (by omega) (by omega) ?_
        rw [Int.toNat_natCast]
        have := alph_get hi
        simpa [S] using this
      · rw [tsg_pv]
        refine joinOk_of ?_
        rw [sum_chr]
        have : (Str.ofString "").length = 0 := by kernel_rfl
        simp only [List.length_map, List.length_append, this, hckl]; omega
      · rw [nints_len, List.length_append, hckl]; omega
      · rw [tsg_pv, ofS_empty, join_chr]
    · rw [S_len, S_len]; simp only [List.length_map, List.length_append, List.length_cons, List.length_nil, hckl]; omega
    · rw [S_app, hL]
    have hall : (S (lawL hd data k)).cps.all (· < 128) = true := by
      rw [Array.all_eq_true']
      intro c hc'
      have hc' : c ∈ lawL hd data k := by simpa [S] using hc'
      exact decide_eq_true (lawL_lt hasc c hc')
    have hll : (S (lawL hd data k)).length = hd.length + 1 + (data.length + 6) := by rw [S_len, lawL_len]
    exact Ex.ret (Ex1.ret (b := true) (Ev.meth1 (id := "str.encode") (x := S (lawL hd data k)) (ps := [.str "ascii"]) (by walk_at "mine.e") m_encode (EvA.cons Ev.str EvA.nil) (c_encode hall (by rw [hll]; omega) (by rw [hll]; omega))))
end
end Mine

open PySem PySem.W PySem.Calls PyProof.Rows
set_option Elab.async false
set_option linter.unusedVariables false
set_option maxRecDepth 100000
set_option maxHeartbeats 8000000
namespace Mine
local macro_rules | `(tactic| walk_at "mine.k") => `(tactic| first
  | (refine kindOf_of (by assumption) ?_; rfl)
  | (refine kindOf_rel (by assumption) (by assumption) ?_; rfl))
local macro_rules | `(tactic| walk_at "mine.bound") => `(tactic| first
  | (refine Or.inl ?_; walk_at "mine.k")
  | (refine Or.inr ⟨?_, ?_⟩; walk_at "mine.k"; (refine cells_of (by assumption) ?_; intro _; rfl)))
local macro_rules | `(tactic| walk_at "mine.v") => `(tactic| first
  | (refine EvV.boot (by assumption) (by walk_at "mine.k") ?_ ?_; rfl; rfl)
  | (refine EvV.glob (by assumption) (by walk_at "mine.k") ?_; rfl))
local macro_rules | `(tactic| walk_at "mine.e") => `(tactic| first
  | exact Ev.int
  | exact Ev.str
  | exact Ev.bool
  | exact Ev.none
  | (refine Ev.name (by assumption) ?_; rfl)
  | (refine EvV.ev (by walk_at "mine.v") ⟨_, rfl⟩)
  | (refine Ev.neg ?_; walk_at "mine.e")
  | (refine EvA.cons ?_ ?_ <;> walk_at "mine.e")
  | exact EvA.nil
  | (refine Ev.bin ?_ ?_ op_add <;> walk_at "mine.e")
  | (refine Ev.bin ?_ ?_ op_sub <;> walk_at "mine.e")
  | (refine Ev.bin ?_ ?_ op_and <;> walk_at "mine.e")
  | (refine Ev.bin ?_ ?_ op_xor <;> walk_at "mine.e")
  | (refine Ev.bin ?_ ?_ (op_shr ?_) <;> (try walk_at "mine.e")))
local macro_rules | `(tactic| walk_at "mine.sub") => `(tactic| (repeat (first | exact sub_nil | refine sub_cons (by rfl) ?_)))
local macro_rules | `(tactic| walk_at "mine.comp") => `(tactic| exact ⟨free_of (by assumption) (fun _ => by rfl), by decide, rfl, by decide, rfl, by intro q hq; cases hq⟩)
local macro_rules | `(tactic| walk_at "mine.bind1") => `(tactic| (intro s vs T hl; match vs, hl with
  | [v], _ => exact BindsTo.of_eq (by rfl)))
local macro_rules | `(tactic| walk_at "mine.bind2") => `(tactic| (intro s vs T hl; match vs, hl with
  | [v, u], _ => exact BindsTo.of_eq (by rfl)))
local macro_rules | `(tactic| walk_at "mine.bind3") => `(tactic| (intro s vs T hl; match vs, hl with
  | [v, u, x], _ => exact BindsTo.of_eq (by rfl)))

section
variable {prog : Program} {w : World} {H : Heap}
theorem ExF.exprCall {A : Around} {env : Env} {ρ : Rho} {fx : Str} {fp : Pos} {e : Expr} {rest : List Expr} {pos rpos : Pos} {f : Addr} {n : Nat} {ps : List PV} {C : Addr} {more : List Stmt}
    (hA : AOk n A) (hE : EnvOk env) (hl : ∃ l, A.frames = some l) (hf : EvV prog w H A env ρ (.Name fx fp) (.ref f)) (ha : EvA prog w H false A env ρ (e :: rest) ps) (hc : FnOk prog w H n f ps (.exc C)) (hk : keepIn (KF w.params) (.ref f) = true)
    (he : starEach (e :: rest) env = (false, eval e env) :: starEach rest env := by rfl)
    (hp : (backTo pos (starEach rest env)).any (·.1) = false := by rfl) : ExF prog w H A env ρ (.Expr (.Call (.Name fx fp) (e :: rest) [] pos) rpos :: more) C := fun s₀ s F R => by
  have hi : interactive env = false := by unfold interactive; rw [hE.kind]; rfl
  refine wpAny_execs_cons (wpAny_Expr (wp_callF (R.st F) hA hl hf ha hc hk (fun s₁ r s' k h => ?_) he hp) hi)
  obtain ⟨e, l, rfl, hl', X⟩ := h
  exact ⟨e, l, s₁, rfl, R.step k, hl', X⟩

theorem ex_37_37 (P : Params) : exmOne (KF P) (.ref 37) (.ref 37) = some true := by kernel_rfl
theorem ex_37_49 (P : Params) : exmOne (KF P) (.ref 37) (.ref 49) = some false := by kernel_rfl
theorem ex_49_49 (P : Params) : exmOne (KF P) (.ref 49) (.ref 49) = some true := by kernel_rfl

def refusedS : PV := .str (Str.ofString "refused")
def toldRes (x : List Nat) (m : Option Nat) : PV := match decOut x m with
  | .ok p => p
  | .exc _ => refusedS
theorem decOut_exc {x : List Nat} {m : Option Nat} {C : Addr} (h : decOut x m = .exc C) : C = 37 := by
  unfold decOut at h
  split at h
  · cases h; rfl
  · split at h
    · cases h; rfl
    · split at h
      · cases h
      · cases h; rfl
theorem fn_told {x : List Nat} {m : Option Nat} (hz : x.length ≤ 4000) : FnOk prog w H 4 146 [.str (S x), mPV m] (.ok (toldRes x m)) := by
  refine FnOk.def (names := ["text", "constant"]) (n := 3) [] [] (ho := by rfl) (hcd := by kernel_rfl) (hbody := rfl) (hbind := ?_) (hx := fun _ => .nil) (hloc := by decide) (hnd := by decide) (hclo := rfl) (hgl := rfl) (hbi := rfl) (hco := rfl) (hgen := rfl) (hk := rfl) (h := ?_)
  · walk_at "mine.bind2"
  · intro A env hA hE hsc hcode hqual hcl hl
    have hl' : ∃ l, A.frames = some l := let ⟨l, e⟩ := hl; ⟨_, e⟩
    have hd := fn_decode (prog := prog) (w := w) (H := H) (m := m) hz [.str (S x), mPV m] [] [] (.inl ⟨rfl, rfl, rfl⟩)
    cases e : decOut x m with
    | ok p =>
      have hr : toldRes x m = p := by unfold toldRes; rw [e]
      rw [e] at hd
      rw [hr]
      exact Ex.ret (Ex1.tryRet (Ex.ret (Ex1.ret (b := false) (Ev.callF hA hl' (by walk_at "mine.v") (EvA.cons (by walk_at "mine.e") (EvA.cons (by walk_at "mine.e") EvA.nil)) hd (by rfl)))))
    | exc C =>
      have hr : toldRes x m = refusedS := by unfold toldRes; rw [e]
      rw [e, decOut_exc e] at hd
      rw [hr]
      exact Ex.ret (Ex1.tryExc (ExF.retCall hA hl' (by walk_at "mine.v") (EvA.cons (by walk_at "mine.e") (EvA.cons (by walk_at "mine.e") EvA.nil)) hd (by rfl)) (.hit (fun m => by walk_at "mine.v") (ex_37_37 _)))

theorem fn_refused37 {p q : PV} (hd : FnOk prog w H 3 127 [p, q, .int 1] (.exc 37)) : FnOk prog w H 4 153 [p, q] (.ok (.str (Str.ofString "refused"))) := by
  refine FnOk.def (names := ["head", "data"]) (n := 3) [] [] (ho := by rfl) (hcd := by kernel_rfl) (hbody := rfl) (hbind := ?_) (hx := fun _ => .nil) (hloc := by decide) (hnd := by decide) (hclo := rfl) (hgl := rfl) (hbi := rfl) (hco := rfl) (hgen := rfl) (hk := rfl) (h := ?_)
  · walk_at "mine.bind2"
  · intro A env hA hE hsc hcode hqual hcl hl
    have hl' : ∃ l, A.frames = some l := let ⟨l, e⟩ := hl; ⟨_, e⟩
    exact Ex.ret (Ex1.tryExc (ExF.exprCall hA hE hl' (by walk_at "mine.v") (EvA.cons (by walk_at "mine.e") (EvA.cons (by walk_at "mine.e") (EvA.cons Ev.int EvA.nil))) hd (by rfl)) (.miss (fun m => by walk_at "mine.v") (ex_37_49 _) (.hit (fun m => by walk_at "mine.v") (ex_37_37 _))))
theorem fn_refused49 {p q : PV} (hd : FnOk prog w H 3 127 [p, q, .int 1] (.exc 49)) : FnOk prog w H 4 153 [p, q] (.ok (.str (Str.ofString "kind"))) := by
  refine FnOk.def (names := ["head", "data"]) (n := 3) [] [] (ho := by rfl) (hcd := by kernel_rfl) (hbody := rfl) (hbind := ?_) (hx := fun _ => .nil) (hloc := by decide) (hnd := by decide) (hclo := rfl) (hgl := rfl) (hbi := rfl) (hco := rfl) (hgen := rfl) (hk := rfl) (h := ?_)
  · walk_at "mine.bind2"
  · intro A env hA hE hsc hcode hqual hcl hl
    have hl' : ∃ l, A.frames = some l := let ⟨l, e⟩ := hl; ⟨_, e⟩
    exact Ex.ret (Ex1.tryExc (ExF.exprCall hA hE hl' (by walk_at "mine.v") (EvA.cons (by walk_at "mine.e") (EvA.cons (by walk_at "mine.e") (EvA.cons Ev.int EvA.nil))) hd (by rfl)) (.hit (fun m => by walk_at "mine.v") (ex_49_49 _)))

/-! the five that are refused -/
theorem enc_a : FnOk prog w H 3 127 [.str (S []), .list [], .int 1] (.exc 37) := by
  refine FnOk.def (names := ["hrp", "data", "m"]) (n := 2) [] [] (ho := by rfl) (hcd := by kernel_rfl) (hbody := rfl) (hbind := ?_) (hx := fun _ => .nil) (hloc := by decide) (hnd := by decide) (hclo := rfl) (hgl := rfl) (hbi := rfl) (hco := rfl) (hgen := rfl) (hk := rfl) (h := ?_)
  · intro s vs T hl
    match vs, hl with
    | [v, u, x], _ => exact BindsTo.of_defaults (T := 120) (by rfl) (T.K 120 _ (by rfl)) (by rfl) (by rfl) (by rfl)
  · intro A env hA hE hsc hcode hqual hcl hl
    refine Ex.cons (Ex1.if_ (b := true) (c := false) (Tr.not (c := true) (Tr.ofBool (Ev.isi (by walk_at "mine.v") (by walk_at "mine.e") (by walk_at "mine.v") isi_str_str rfl))) nofun (fun _ => Ex.nil)) ?_
    exact Ex.exc (Ex1.if_ (b := true) (c := true) (Tr.not (c := false) (Tr.eq (Tr.ofStr (x := S []) (by walk_at "mine.e") (by rw [S_len]; exact Nat.zero_le _)) (by rfl))) (fun _ => Ex.exc (Ex1.raiseV (by walk_at "mine.v") Ev.str hA.handled)) nofun)
theorem enc_b : FnOk prog w H 3 127 [.str (S [66]), .list [], .int 1] (.exc 37) := by
  refine FnOk.def (names := ["hrp", "data", "m"]) (n := 2) [] [] (ho := by rfl) (hcd := by kernel_rfl) (hbody := rfl) (hbind := ?_) (hx := fun _ => .nil) (hloc := by decide) (hnd := by decide) (hclo := rfl) (hgl := rfl) (hbi := rfl) (hco := rfl) (hgen := rfl) (hk := rfl) (h := ?_)
  · intro s vs T hl
    match vs, hl with
    | [v, u, x], _ => exact BindsTo.of_defaults (T := 120) (by rfl) (T.K 120 _ (by rfl)) (by rfl) (by rfl) (by rfl)
  · intro A env hA hE hsc hcode hqual hcl hl
    have hl' : ∃ l, A.frames = some l := let ⟨l, e⟩ := hl; ⟨_, e⟩
    have hxl : (S [66]).length ≤ sizeLine := by rw [S_len]; decide
    have hasc : ∀ c ∈ [66], c < 128 := by decide
    have tl : Builtin.Str.tooLong (Txt.lower (S [66])).length = false := by rw [lower_S hasc, S_len]; decide
    refine Ex.cons (Ex1.if_ (b := true) (c := false) (Tr.not (c := true) (Tr.ofBool (Ev.isi (by walk_at "mine.v") (by walk_at "mine.e") (by walk_at "mine.v") isi_str_str rfl))) nofun (fun _ => Ex.nil)) ?_
    refine Ex.cons (Ex1.if_ (b := true) (c := false) (Tr.not (c := true) (Tr.eq (Tr.ofStr (by walk_at "mine.e") hxl) (by rfl))) nofun (fun _ => Ex.nil)) ?_
    refine Ex.cons (Ex1.if_ (b := false) (c := false) (Tr.not (c := true) (Tr.ofBool (Ev.eq (Ev.callF (hA.mono (by decide : 1 ≤ 2)) hl' (by walk_at "mine.v") (EvA.cons (by walk_at "mine.e") EvA.nil) (fn_range (hd := [66]) (by decide)) (by rfl)) (congrArg PV.bool (by rfl))))) nofun (fun _ => Ex.nil)) ?_
    exact Ex.exc (Ex1.if_ (b := true) (c := true) (Tr.eq (Tr.cmp (by walk_at "mine.e") (Ev.meth0 (id := "str.lower") (x := S [66]) (by walk_at "mine.e") m_lower (c_lower tl)) c_neS) (by rw [lower_S hasc]; rw [bne_iff_ne]; intro q; have := S_inj q; revert this; decide)) (fun _ => Ex.exc (Ex1.raiseV (by walk_at "mine.v") (Ev.fstr (JP.cons Ev.str (JP.cons (Ev.fmtS (x := S [66]) (by walk_at "mine.e") hxl) JP.nil)) (by rw [str_app_nil, strLen_append, S_len]; exact Nat.le_of_ble_eq_true (by kernel_rfl))) hA.handled)) nofun)
theorem enc_e : FnOk prog w H 3 127 [.int 5, .list [], .int 1] (.exc 49) := by
  refine FnOk.def (names := ["hrp", "data", "m"]) (n := 2) [] [] (ho := by rfl) (hcd := by kernel_rfl) (hbody := rfl) (hbind := ?_) (hx := fun _ => .nil) (hloc := by decide) (hnd := by decide) (hclo := rfl) (hgl := rfl) (hbi := rfl) (hco := rfl) (hgen := rfl) (hk := rfl) (h := ?_)
  · intro s vs T hl
    match vs, hl with
    | [v, u, x], _ => exact BindsTo.of_defaults (T := 120) (by rfl) (T.K 120 _ (by rfl)) (by rfl) (by rfl) (by rfl)
  · intro A env hA hE hsc hcode hqual hcl hl
    refine Ex.exc (Ex1.if_ (b := true) (c := true) (Tr.not (c := false) (Tr.ofBool (Ev.isi (by walk_at "mine.v") (by walk_at "mine.e") (by walk_at "mine.v") isi_int_str rfl))) (fun _ => Ex.exc (Ex1.raiseT (by walk_at "mine.v") (Ev.fstr (JP.cons Ev.str (JP.cons (Ev.fmtS (Ev.tname (p := .int 5) (T := "int") (q := "int") (by walk_at "mine.v") (by walk_at "mine.e") rfl (by rintro s v ⟨t, rfl⟩; exact typeIs_int _ _ _) (by decide) (by decide +kernel) (by decide +kernel) (fun P => by kernel_rfl) (by decide +kernel) (by decide +kernel)) (by decide +kernel)) JP.nil)) (by decide +kernel)) hA.handled)) nofun)
end
end Mine

open PySem PySem.W PySem.Calls PyProof.Rows
set_option Elab.async false
set_option linter.unusedVariables false
set_option maxRecDepth 100000
set_option maxHeartbeats 8000000
namespace Mine
local macro_rules | `(tactic| walk_at "mine.k") => `(tactic| first
  | (refine kindOf_of (by assumption) ?_; rfl)
  | (refine kindOf_rel (by assumption) (by assumption) ?_; rfl))
local macro_rules | `(tactic| walk_at "mine.bound") => `(tactic| first
  | (refine Or.inl ?_; walk_at "mine.k")
  | (refine Or.inr ⟨?_, ?_⟩; walk_at "mine.k"; (refine cells_of (by assumption) ?_; intro _; rfl)))
local macro_rules | `(tactic| walk_at "mine.v") => `(tactic| first
  | (refine EvV.boot (by assumption) (by walk_at "mine.k") ?_ ?_; rfl; rfl)
  | (refine EvV.glob (by assumption) (by walk_at "mine.k") ?_; rfl))
local macro_rules | `(tactic| walk_at "mine.e") => `(tactic| first
  | exact Ev.int
  | exact Ev.str
  | exact Ev.bool
  | exact Ev.none
  | (refine Ev.name (by assumption) ?_; rfl)
  | (refine EvV.ev (by walk_at "mine.v") ⟨_, rfl⟩)
  | (refine Ev.neg ?_; walk_at "mine.e")
  | (refine EvA.cons ?_ ?_ <;> walk_at "mine.e")
  | exact EvA.nil
  | (refine Ev.bin ?_ ?_ op_add <;> walk_at "mine.e")
  | (refine Ev.bin ?_ ?_ op_sub <;> walk_at "mine.e")
  | (refine Ev.bin ?_ ?_ op_and <;> walk_at "mine.e")
  | (refine Ev.bin ?_ ?_ op_xor <;> walk_at "mine.e")
  | (refine Ev.bin ?_ ?_ (op_shr ?_) <;> (try walk_at "mine.e")))
local macro_rules | `(tactic| walk_at "mine.sub") => `(tactic| (repeat (first | exact sub_nil | refine sub_cons (by rfl) ?_)))
local macro_rules | `(tactic| walk_at "mine.comp") => `(tactic| exact ⟨free_of (by assumption) (fun _ => by rfl), by decide, rfl, by decide, rfl, by intro q hq; cases hq⟩)
local macro_rules | `(tactic| walk_at "mine.bind1") => `(tactic| (intro s vs T hl; match vs, hl with
  | [v], _ => exact BindsTo.of_eq (by rfl)))
local macro_rules | `(tactic| walk_at "mine.bind2") => `(tactic| (intro s vs T hl; match vs, hl with
  | [v, u], _ => exact BindsTo.of_eq (by rfl)))
local macro_rules | `(tactic| walk_at "mine.bind3") => `(tactic| (intro s vs T hl; match vs, hl with
  | [v, u, x], _ => exact BindsTo.of_eq (by rfl)))

section
variable {prog : Program} {w : World} {H : Heap}
theorem enc_c : FnOk prog w H 3 127 [.str (S [98]), .list (nints [32]), .int 1] (.exc 37) := by
  refine FnOk.def (names := ["hrp", "data", "m"]) (n := 2) [] [] (ho := by rfl) (hcd := by kernel_rfl) (hbody := rfl) (hbind := ?_) (hx := fun _ => .nil) (hloc := by decide) (hnd := by decide) (hclo := rfl) (hgl := rfl) (hbi := rfl) (hco := rfl) (hgen := rfl) (hk := rfl) (h := ?_)
  · intro s vs T hl
    match vs, hl with
    | [v, u, x], _ => exact BindsTo.of_defaults (T := 120) (by rfl) (T.K 120 _ (by rfl)) (by rfl) (by rfl) (by rfl)
  · intro A env hA hE hsc hcode hqual hcl hl
    have hl' : ∃ l, A.frames = some l := let ⟨l, e⟩ := hl; ⟨_, e⟩
    have hxl : (S [98]).length ≤ sizeLine := by rw [S_len]; decide
    have hasc : ∀ c ∈ [98], c < 128 := by decide
    have tl : Builtin.Str.tooLong (Txt.lower (S [98])).length = false := by rw [lower_S hasc, S_len]; decide
    refine Ex.cons (Ex1.if_ (b := true) (c := false) (Tr.not (c := true) (Tr.ofBool (Ev.isi (by walk_at "mine.v") (by walk_at "mine.e") (by walk_at "mine.v") isi_str_str rfl))) nofun (fun _ => Ex.nil)) ?_
    refine Ex.cons (Ex1.if_ (b := true) (c := false) (Tr.not (c := true) (Tr.eq (Tr.ofStr (by walk_at "mine.e") hxl) (by rfl))) nofun (fun _ => Ex.nil)) ?_
    refine Ex.cons (Ex1.if_ (b := false) (c := false) (Tr.not (c := true) (Tr.ofBool (Ev.eq (Ev.callF (hA.mono (by decide : 1 ≤ 2)) hl' (by walk_at "mine.v") (EvA.cons (by walk_at "mine.e") EvA.nil) (fn_range (hd := [98]) (by decide)) (by rfl)) (congrArg PV.bool (by rfl))))) nofun (fun _ => Ex.nil)) ?_
    refine Ex.cons (Ex1.if_ (b := true) (c := false) (Tr.eq (Tr.cmp (by walk_at "mine.e") (Ev.meth0 (id := "str.lower") (x := S [98]) (by walk_at "mine.e") m_lower (c_lower tl)) c_neS) (by rw [lower_S hasc]; exact bne_self_eq_false _)) nofun (fun _ => Ex.nil)) ?_
    refine Ex.exc (Ex1.forExc 0 (.int 32) (items := nints [32]) rfl (fun _ => [("hrp", .str (S [98])), ("data", .list (nints [32])), ("m", .int 1)]) (ItEv.ofList (by walk_at "mine.e")) hA.handled (by walk_at "mine.bound") (by walk_at "mine.sub") (fun i p h => absurd h (Nat.not_lt_zero i)) ?_)
    refine Ex.cons (Ex1.if_ (b := false) (c := false) (Tr.not (c := true) (Tr.ofBool (Ev.callF (hA.mono (by decide : 1 ≤ 2)) hl' (by walk_at "mine.v") (EvA.cons (by walk_at "mine.e") EvA.nil) fn_int (by rfl)))) nofun (fun _ => Ex.nil)) ?_
    exact Ex.exc (Ex1.if_ (b := true) (c := true) (Tr.not (c := false) (Tr.eq (Tr.cmp2 Ev.int (by walk_at "mine.e") Ev.int c_le c_lt) (by rfl))) (fun _ => Ex.exc (Ex1.raiseV (by walk_at "mine.v") (Ev.fstr (JP.cons Ev.str (JP.cons (Ev.fmtI (i := 32) (by walk_at "mine.e") (by decide +kernel)) JP.nil)) (by decide +kernel)) hA.handled)) nofun)
theorem enc_d : FnOk prog w H 3 127 [.str (S [98]), .list [.bool true], .int 1] (.exc 49) := by
  refine FnOk.def (names := ["hrp", "data", "m"]) (n := 2) [] [] (ho := by rfl) (hcd := by kernel_rfl) (hbody := rfl) (hbind := ?_) (hx := fun _ => .nil) (hloc := by decide) (hnd := by decide) (hclo := rfl) (hgl := rfl) (hbi := rfl) (hco := rfl) (hgen := rfl) (hk := rfl) (h := ?_)
  · intro s vs T hl
    match vs, hl with
    | [v, u, x], _ => exact BindsTo.of_defaults (T := 120) (by rfl) (T.K 120 _ (by rfl)) (by rfl) (by rfl) (by rfl)
  · intro A env hA hE hsc hcode hqual hcl hl
    have hl' : ∃ l, A.frames = some l := let ⟨l, e⟩ := hl; ⟨_, e⟩
    have hxl : (S [98]).length ≤ sizeLine := by rw [S_len]; decide
    have hasc : ∀ c ∈ [98], c < 128 := by decide
    have tl : Builtin.Str.tooLong (Txt.lower (S [98])).length = false := by rw [lower_S hasc, S_len]; decide
    refine Ex.cons (Ex1.if_ (b := true) (c := false) (Tr.not (c := true) (Tr.ofBool (Ev.isi (by walk_at "mine.v") (by walk_at "mine.e") (by walk_at "mine.v") isi_str_str rfl))) nofun (fun _ => Ex.nil)) ?_
    refine Ex.cons (Ex1.if_ (b := true) (c := false) (Tr.not (c := true) (Tr.eq (Tr.ofStr (by walk_at "mine.e") hxl) (by rfl))) nofun (fun _ => Ex.nil)) ?_
    refine Ex.cons (Ex1.if_ (b := false) (c := false) (Tr.not (c := true) (Tr.ofBool (Ev.eq (Ev.callF (hA.mono (by decide : 1 ≤ 2)) hl' (by walk_at "mine.v") (EvA.cons (by walk_at "mine.e") EvA.nil) (fn_range (hd := [98]) (by decide)) (by rfl)) (congrArg PV.bool (by rfl))))) nofun (fun _ => Ex.nil)) ?_
    refine Ex.cons (Ex1.if_ (b := true) (c := false) (Tr.eq (Tr.cmp (by walk_at "mine.e") (Ev.meth0 (id := "str.lower") (x := S [98]) (by walk_at "mine.e") m_lower (c_lower tl)) c_neS) (by rw [lower_S hasc]; exact bne_self_eq_false _)) nofun (fun _ => Ex.nil)) ?_
    refine Ex.exc (Ex1.forExc 0 (.bool true) (items := [.bool true]) rfl (fun _ => [("hrp", .str (S [98])), ("data", .list [.bool true]), ("m", .int 1)]) (ItEv.ofList (by walk_at "mine.e")) hA.handled (by walk_at "mine.bound") (by walk_at "mine.sub") (fun i p h => absurd h (Nat.not_lt_zero i)) ?_)
    exact Ex.exc (Ex1.if_ (b := false) (c := true) (Tr.not (c := false) (Tr.ofBool (Ev.callF (hA.mono (by decide : 1 ≤ 2)) hl' (by walk_at "mine.v") (EvA.cons (by walk_at "mine.e") EvA.nil) fn_int_b (by rfl)))) (fun _ => Ex.exc (Ex1.raiseT (by walk_at "mine.v") (Ev.fstr (JP.cons Ev.str (JP.cons (Ev.fmtS (Ev.tname (p := .bool true) (T := "bool") (q := "bool") (by walk_at "mine.v") (by walk_at "mine.e") rfl (by rintro s v rfl; rfl) (by decide) (by decide +kernel) (by decide +kernel) (fun P => by kernel_rfl) (by decide +kernel) (by decide +kernel)) (by decide +kernel)) JP.nil)) (by decide +kernel)) hA.handled)) nofun)
end
end Mine

open PySem PySem.W PySem.Calls PyProof.Rows
set_option Elab.async false
set_option linter.unusedVariables false
set_option maxRecDepth 100000
set_option maxHeartbeats 4000000
namespace Mine
/-! the law's own words, plain -/
def hdChars : List Nat := [98, 99, 116, 114, 33, 126]
def hdOf (f : Nat) : List Nat := (List.range (1 + f % 6)).map fun k => hdChars.getD ((f / 7 + 5 * k) % 6) 0
def numsOf (sc : List Int) : List Nat := (sc.take 16).map Int.natAbs
def firstOf (sc : List Int) : Nat := (numsOf sc).headD 0
def dataOf (sc : List Int) : List Nat := (((numsOf sc).drop 1).take 12).map (· % 32)
def tailL (hd data : List Nat) (c : Nat) : List Nat := data ++ cksum (expand hd ++ data) c
def farOf (f wide : Nat) : Nat → Nat
  | 0 => 0
  | 1 => 1 + f / 17 % wide
  | _ => 2 + f / 17 % wide + f / 19 % wide
def placeOf (f size k : Nat) : Nat := (f / 11 + farOf f ((size - 2) / 2) k) % size
def newAt (f : Nat) (tl : List Nat) (k : Nat) : Nat := (tl.getD (placeOf f tl.length k) 0 + 1 + (f / 13 + k) % 31) % 32
def turnV (f : Nat) (tl : List Nat) : Nat → List Nat
  | 0 => tl
  | k + 1 => (turnV f tl k).set (placeOf f tl.length k) (newAt f tl k)
def textOf (hd tl : List Nat) : List Nat := hd ++ [49] ++ tl.map sign
theorem lawL_text (hd data : List Nat) (c : Nat) : lawL hd data c = textOf hd (tailL hd data c) := rfl
def okTup (hd data : List Nat) : PV := .tup [.str (S hd), .list (nints data)]

structure Plain (hd data : List Nat) (f : Nat) : Prop where
  ok : ∀ c, c = 1 ∨ c = 734539939 → decOut (lawL hd data c) (some c) = .ok (okTup hd data)
  up : ∀ c, c = 1 ∨ c = 734539939 → toldRes ((lawL hd data c).map up1) (some c) = okTup hd data
  other : ∀ c, c = 1 ∨ c = 734539939 → toldRes (lawL hd data c) (some (735 - c % 735)) = refusedS
  turned : ∀ c, c = 1 ∨ c = 734539939 → ∀ k, k < 3 → toldRes (textOf hd (turnV f (tailL hd data c) (k + 1))) (some c) = refusedS
  mixed : ∀ c, c = 1 ∨ c = 734539939 → hd.map up1 ≠ hd → ((lawL hd data c).drop (hd.length + 1)).map up1 ≠ (lawL hd data c).drop (hd.length + 1) → toldRes (hd.map up1 ++ (lawL hd data c).drop hd.length) (some c) = refusedS
  own : ∀ a r, data = a :: r → decOut (lawL hd data (if a = 0 then 1 else 734539939)) none = .ok (okTup hd data)
  none : data = [] → toldRes (lawL hd [] 1) none = refusedS

theorem tail_len (hd data : List Nat) (c : Nat) : (tailL hd data c).length = data.length + 6 := by unfold tailL; rw [List.length_append, cksum_len]
theorem tail_lt {hd data : List Nat} (c : Nat) (h : ∀ v ∈ data, v < 32) : ∀ v ∈ tailL hd data c, v < 32 := fun v hv => (List.mem_append.mp hv).elim (h v) (cksum_lt _ _ v)
theorem turn_len (f : Nat) (tl : List Nat) : ∀ k, (turnV f tl k).length = tl.length
  | 0 => rfl
  | k + 1 => by rw [turnV, List.length_set, turn_len f tl k]
theorem turn_lt {f : Nat} {tl : List Nat} (h : ∀ v ∈ tl, v < 32) : ∀ k, ∀ v ∈ turnV f tl k, v < 32
  | 0, v, hv => h v hv
  | k + 1, v, hv => by
    rw [turnV] at hv
    rcases List.mem_or_eq_of_mem_set hv with hv | rfl
    · exact turn_lt h k v hv
    · unfold newAt; omega
theorem occ_alph : ∀ v < 32, Builtin.Str.occurrences (S alphL) (chr1 (sign v)) 0 (S alphL).length 1 = [v] := by decide +kernel
theorem text_get (hd tl : List Nat) {j : Nat} (h : j < tl.length) : (textOf hd tl)[hd.length + 1 + j]? = some (sign (tl.getD j 0)) := by
  unfold textOf
  rw [List.getElem?_append_right (by simp), List.getElem?_map]
  have : hd.length + 1 + j - (hd ++ [49]).length = j := by simp
  rw [this, List.getD_eq_getElem?_getD, List.getElem?_eq_getElem h]
  rfl
theorem text_set (hd tl : List Nat) {j v : Nat} (h : j < tl.length) : (textOf hd tl).take (hd.length + 1 + j) ++ [sign v] ++ (textOf hd tl).drop (hd.length + 1 + j + 1) = textOf hd (tl.set j v) := by
  unfold textOf
  have hl : (hd ++ [49]).length = hd.length + 1 := by simp
  rw [List.take_append, List.drop_append, hl]
  have e1 : hd.length + 1 + j - (hd.length + 1) = j := by omega
  have e2 : hd.length + 1 + j + 1 - (hd.length + 1) = j + 1 := by omega
  rw [e1, e2, List.take_of_length_le (by rw [hl]; omega), List.drop_of_length_le (by rw [hl]; omega), List.nil_append, List.set_eq_take_append_cons_drop, if_pos h]
  simp [List.map_take, List.map_drop]
end Mine

open PySem PySem.W PySem.Calls PyProof.Rows
set_option Elab.async false
set_option linter.unusedVariables false
set_option maxRecDepth 100000
set_option maxHeartbeats 8000000
namespace Mine
local macro_rules | `(tactic| walk_at "mine.k") => `(tactic| first
  | (refine kindOf_of (by assumption) ?_; rfl)
  | (refine kindOf_rel (by assumption) (by assumption) ?_; rfl))
local macro_rules | `(tactic| walk_at "mine.bound") => `(tactic| first
  | (refine Or.inl ?_; walk_at "mine.k")
  | (refine Or.inr ⟨?_, ?_⟩; walk_at "mine.k"; (refine cells_of (by assumption) ?_; intro _; rfl)))
local macro_rules | `(tactic| walk_at "mine.v") => `(tactic| first
  | (refine EvV.boot (by assumption) (by walk_at "mine.k") ?_ ?_; rfl; rfl)
  | (refine EvV.glob (by assumption) (by walk_at "mine.k") ?_; rfl))
local macro_rules | `(tactic| walk_at "mine.e") => `(tactic| first
  | exact Ev.int
  | exact Ev.str
  | exact Ev.bool
  | exact Ev.none
  | (refine Ev.name (by assumption) ?_; rfl)
  | (refine EvV.ev (by walk_at "mine.v") ⟨_, rfl⟩)
  | (refine Ev.neg ?_; walk_at "mine.e")
  | (refine EvA.cons ?_ ?_ <;> walk_at "mine.e")
  | exact EvA.nil
  | (refine Ev.bin ?_ ?_ op_add <;> walk_at "mine.e")
  | (refine Ev.bin ?_ ?_ op_sub <;> walk_at "mine.e")
  | (refine Ev.bin ?_ ?_ op_and <;> walk_at "mine.e")
  | (refine Ev.bin ?_ ?_ op_xor <;> walk_at "mine.e")
  | (refine Ev.bin ?_ ?_ (op_shr ?_) <;> (try walk_at "mine.e")))
local macro_rules | `(tactic| walk_at "mine.sub") => `(tactic| (repeat (first | exact sub_nil | refine sub_cons (by rfl) ?_)))
local macro_rules | `(tactic| walk_at "mine.comp") => `(tactic| exact ⟨free_of (by assumption) (fun _ => by rfl), by decide, rfl, by decide, rfl, by intro q hq; cases hq⟩)
local macro_rules | `(tactic| walk_at "mine.bind1") => `(tactic| (intro s vs T hl; match vs, hl with
  | [v], _ => exact BindsTo.of_eq (by rfl)))
local macro_rules | `(tactic| walk_at "mine.bind2") => `(tactic| (intro s vs T hl; match vs, hl with
  | [v, u], _ => exact BindsTo.of_eq (by rfl)))
local macro_rules | `(tactic| walk_at "mine.bind3") => `(tactic| (intro s vs T hl; match vs, hl with
  | [v, u, x], _ => exact BindsTo.of_eq (by rfl)))

section
variable {prog : Program} {w : World} {H : Heap}
def wrongs : List (List Nat) := [[], [113, 113, 113, 113, 113, 113, 113], [49, 113, 113, 113, 113, 113, 113], [98, 49, 113, 113, 113, 113, 113], [98, 49, 113, 113, 113, 113, 113, 98], [98, 49, 98, 113, 113, 113, 113, 113, 113],
  [127, 49, 113, 113, 113, 113, 113, 113], [98, 49, 32, 113, 113, 113, 113, 113, 113], [98, 233, 49, 113, 113, 113, 113, 113, 113]]
def gabs : PV → PV
  | .int i => .int ((i.natAbs : Nat) : Int)
  | _ => .none
def gh (f : Nat) : PV → PV
  | .int i => .str (chr1 (hdChars.getD ((f / 7 + 5 * i.toNat) % 6) 0))
  | _ => .none
def gm32 : PV → PV
  | .int i => .int ((i.toNat % 32 : Nat) : Int)
  | _ => .none
theorem mabs_pv (l : List Int) : (l.map PV.int).map gabs = nints (l.map Int.natAbs) := by unfold nints; rw [List.map_map, List.map_map]; rfl
theorem m32_pv (l : List Nat) : (nints l).map gm32 = nints (l.map (· % 32)) := by unfold nints; rw [List.map_map, List.map_map]; rfl
theorem mh_pv (f n : Nat) : ((List.range n).map fun i : Nat => PV.int (i : Int)).map (gh f) = (((List.range n).map fun k => hdChars.getD ((f / 7 + 5 * k) % 6) 0).map chr1).map PV.str := by
  rw [List.map_map, List.map_map, List.map_map]; rfl
theorem fdivN (a c : Nat) : (a : Int).fdiv (c : Int) = ((a / c : Nat) : Int) := by
  rw [Int.fdiv_eq_ediv_of_nonneg _ (by omega)]; rfl
theorem fmodN (a c : Nat) : (a : Int).fmod (c : Int) = ((a % c : Nat) : Int) := by
  rw [Int.fmod_eq_emod_of_nonneg _ (by omega)]; rfl
theorem ok_tup (hd data : List Nat) : okTup hd data = .tup [.str (S hd), .list ((data.map fun n : Nat => (n : Int)).map PV.int)] := by
  unfold okTup nints
  rw [List.map_map]; rfl
theorem strOk_S {l : List Nat} (h : ∀ c ∈ l, c < 128) : PyData.strOk (S l) = true := by
  unfold PyData.strOk
  rw [Array.all_eq_true']
  intro c hc
  have hc : c ∈ l := by simpa [S] using hc
  have := h c hc
  exact decide_eq_true (by omega)
theorem hdOf_len (f : Nat) : (hdOf f).length = 1 + f % 6 := by unfold hdOf; simp
theorem hdOf_mem (f : Nat) : ∀ c ∈ hdOf f, c ∈ hdChars := by
  intro c hc
  unfold hdOf at hc
  obtain ⟨k, _, rfl⟩ := List.mem_map.mp hc
  have h : (f / 7 + 5 * k) % 6 < 6 := Nat.mod_lt _ (by decide)
  rw [List.getD_eq_getElem?_getD, List.getElem?_eq_getElem (by exact h)]
  exact List.getElem_mem _
theorem hdOf_asc (f : Nat) : ∀ c ∈ hdOf f, c < 128 := fun c hc => by
  have h : ∀ c ∈ hdChars, c < 128 := by decide
  exact h c (hdOf_mem f c hc)
theorem hdOf_range (f : Nat) : (hdOf f).all inRange = true := by
  rw [List.all_eq_true]
  intro c hc
  have h : ∀ c ∈ hdChars, inRange c = true := by decide
  exact h c (hdOf_mem f c hc)
theorem hdOf_low (f : Nat) : (hdOf f).map lo1 = hdOf f := by
  have h : ∀ c ∈ hdChars, lo1 c = c := by decide
  exact (List.map_congr_left fun c hc => h c (hdOf_mem f c hc)).trans (List.map_id _)
theorem dataOf_len (sc : List Int) : (dataOf sc).length ≤ 12 := by unfold dataOf; rw [List.length_map, List.length_take]; omega
theorem dataOf_lt (sc : List Int) : ∀ v ∈ dataOf sc, v < 32 := by
  intro v hv
  unfold dataOf at hv
  obtain ⟨k, _, rfl⟩ := List.mem_map.mp hv
  omega

theorem law_ex {oc : Value} {od : Option Addr} {osl : Array (Option Value)} {fd : FuncData} {body : List Stmt} (ho : (KF w.params).lookup 158 = some ⟨oc, od, .func fd, osl⟩) (hbody : fd.body = .stmts body) {sc : List Int} (hscl : sc.length ≤ 63)
    (PL : Plain (hdOf (firstOf sc)) (dataOf sc) (firstOf sc))
    {A : Around} {env : Env} (hA : AOk 5 A) (hE : EnvOk env) (hsc : env.scope = fd.scope) (hcl : env.cells = cellsFrom (env.locals + 1) fd.scope.names []) (hl : ∃ l, A.frames = some (env :: l)) :
    Ex prog w H A env [("script", .list (sc.map PV.int))] body (.ret (.bool true)) := by
  have h3 := @Option.some.inj Obj _ _ ho
  cases h3
  cases hbody
  have hl' : ∃ l, A.frames = some l := let ⟨l, e⟩ := hl; ⟨_, e⟩
  have zz : sizeLine = 16777216 := rfl
  have hscz : (sc.map PV.int).length ≤ sizeLine := by rw [List.length_map]; omega
  have t16 : cut none (some 16) (sc.map PV.int) = (sc.take 16).map PV.int := by rw [show (16 : Int) = ((16 : Nat) : Int) from rfl, cut_upto, List.map_take]
  have hnums : (numsOf sc).length ≤ 16 := by unfold numsOf; rw [List.length_map, List.length_take]; omega
  -- numbers
  refine Ex.cons (Ex1.comp (items := (sc.take 16).map PV.int) [] gabs (ItEv.ofList (Ev.eq (Ev.sliceL (lo := none) (hi := some 16) (by walk_at "mine.e") rfl ⟨_, rfl, Ev.int⟩ hscz) (congrArg PV.list t16))) hA.handled hE (by walk_at "mine.comp") (by intro q hq; cases hq) (by walk_at "mine.k") ?_ ?_ ?_ (swaps_true hE (by walk_at "mine.k") rfl rfl)) ?_
  · intro cenv hEc hsc' p hp
    obtain ⟨i, _, rfl⟩ := List.mem_map.mp hp
    refine Ev.eq (Ev.callB (by walk_at "mine.v") (EvA.cons (Ev.callT (by walk_at "mine.v") (EvA.cons (by walk_at "mine.e") EvA.nil) c_int) EvA.nil) c_abs) (congrArg PV.int ?_)
    split <;> omega
  · intro p hp
    obtain ⟨i, _, rfl⟩ := List.mem_map.mp hp
    rfl
  · rw [List.length_map, List.length_take]; omega
  rw [mabs_pv]
  have hnm : (sc.take 16).map Int.natAbs = numsOf sc := rfl
  rw [hnm]
  have hnz : (nints (numsOf sc)).length ≤ sizeLine := by rw [nints_len]; omega
  -- first
  refine Ex.cons (Ex1.assign (b := true) (p := .int ((firstOf sc : Nat) : Int)) (Ev.ite (c := !(nints (numsOf sc)).isEmpty) (Tr.ofList (by walk_at "mine.e") hnz) ?_ ?_) (Or.inr ⟨kindOf_of hsc (by rfl), cells_of hcl (fun _ => by rfl)⟩)) ?_
  · intro hne
    refine Ev.subL (l := nints (numsOf sc)) (by walk_at "mine.e") Ev.int (by decide) (by decide) ?_
    unfold firstOf
    cases hq : numsOf sc with
    | nil => rw [hq] at hne; cases hne
    | cons a r => rfl
  · intro hne
    have : firstOf sc = 0 := by
      unfold firstOf
      cases hq : numsOf sc with
      | nil => rfl
      | cons a r => rw [hq] at hne; cases hne
    rw [this]
    exact Ev.int
  generalize hf : firstOf sc = f at *
  -- head
  have hf7 : (f : Int).fdiv 7 = ((f / 7 : Nat) : Int) := fdivN f 7
  refine Ex.cons (Ex1.assign (b := true) (p := .str (S (hdOf f))) (Ev.eq (Ev.meth1 (id := "str.join") (x := Str.ofString "") (ps := [.list (((hdOf f).map chr1).map PV.str)]) Ev.str m_join (EvA.cons ?_ EvA.nil) (c_join ?_)) ?_) (by walk_at "mine.bound")) ?_
  · unfold hdOf
    rw [← mh_pv]
    refine Ev.comp (items := (List.range (1 + f % 6)).map fun i : Nat => PV.int (i : Int)) [("first", .int (f : Int))] (gh f) (ItEv.range (n := 1 + f % 6) (by walk_at "mine.v") (Ev.eq (Ev.bin Ev.int (Ev.bin (by walk_at "mine.e") Ev.int (op_fmod (by decide))) op_add) (congrArg PV.int ?_)) (by omega)) hA.handled hE
      ⟨free_of hcl (fun _ => by rfl), by decide, rfl, by decide, rfl, ?_⟩ ?_ ?_ ?_ ?_
    · have : (f : Int).fmod 6 = ((f % 6 : Nat) : Int) := fmodN f 6
      rw [this]; omega
    · intro q hq
      simp only [List.mem_cons, List.not_mem_nil, or_false] at hq
      subst hq
      exact ⟨rfl, by walk_at "mine.k"⟩
    · intro q hq
      simp only [List.mem_cons, List.not_mem_nil, or_false] at hq
      subst hq
      rfl
    · intro cenv hEc hsc' p hp
      obtain ⟨k, hk, rfl⟩ := List.mem_map.mp hp
      have hmod : (f / 7 + 5 * k) % 6 < 6 := Nat.mod_lt _ (by decide)
      refine Ev.subS (x := S hdChars) (c := hdChars.getD ((f / 7 + 5 * k) % 6) 0) (i := (((f / 7 + 5 * k) % 6 : Nat) : Int)) Ev.str (Ev.eq (Ev.bin (Ev.bin (Ev.bin (by walk_at "mine.e") Ev.int (op_fdiv (by decide) (PyProof.noPylong_of_log2 (by decide +kernel)))) (Ev.bin Ev.int (by walk_at "mine.e") (op_mul (IntMulOk.of_left (by decide)))) op_add) Ev.int (op_fmod (by decide))) (congrArg PV.int ?_)) (by omega) (by omega) ?_
      · rw [hf7]
        exact fmodN (f / 7 + 5 * k) 6
      · rw [Int.toNat_natCast]
        have e : (S hdChars).cps[(f / 7 + 5 * k) % 6]? = hdChars[(f / 7 + 5 * k) % 6]? := by simp [S]
        rw [e, List.getD_eq_getElem?_getD, List.getElem?_eq_getElem (by exact hmod)]; rfl
    · intro p hp
      obtain ⟨k, hk, rfl⟩ := List.mem_map.mp hp
      rfl
    · rw [List.length_map, List.length_range]; omega
  · rw [sum_chr]
    have : (Str.ofString "").length = 0 := by kernel_rfl
    rw [List.length_map, hdOf_len, this]; omega
  · rw [ofS_empty, join_chr]
  have hasc := hdOf_asc f
  have hhl := hdOf_len f
  have hrng := hdOf_range f
  have hlow := hdOf_low f
  generalize hhd : hdOf f = hd at *
  -- data
  have t13 : cut (some 1) (some 13) (nints (numsOf sc)) = nints (((numsOf sc).drop 1).take 12) := by
    rw [nints_cut]
    exact congrArg nints (cut_run (numsOf sc) 1 13)
  refine Ex.cons (Ex1.comp (items := nints (((numsOf sc).drop 1).take 12)) [] gm32 (ItEv.ofList (Ev.eq (Ev.sliceL (lo := some 1) (hi := some 13) (by walk_at "mine.e") ⟨_, rfl, Ev.int⟩ ⟨_, rfl, Ev.int⟩ hnz) (congrArg PV.list t13))) hA.handled hE (by walk_at "mine.comp") (by intro q hq; cases hq) (by walk_at "mine.k") ?_ ?_ ?_ (swaps_true hE (by walk_at "mine.k") rfl rfl)) ?_
  · intro cenv hEc hsc' p hp
    obtain ⟨i, _, rfl⟩ := List.mem_map.mp hp
    exact Ev.eq (Ev.bin (by walk_at "mine.e") Ev.int (op_fmod (by decide))) (congrArg PV.int (fmodN i 32))
  · intro p hp
    obtain ⟨i, _, rfl⟩ := List.mem_map.mp hp
    rfl
  · rw [nints_len, List.length_take]; omega
  rw [m32_pv]
  have hdd : (((numsOf sc).drop 1).take 12).map (· % 32) = dataOf sc := rfl
  rw [hdd]
  have hdl := dataOf_len sc
  have hdt := dataOf_lt sc
  generalize dataOf sc = data at *
  refine Ex.cons (Ex1.assign (b := true) (p := .str (S alphL)) Ev.str (by walk_at "mine.bound")) ?_
  have hne : hd ≠ [] := by intro q; rw [q] at hhl; simp at hhl; omega
  have hl90 : hd.length ≤ 90 := by omega
  have hone : Str.ofString "1" = S [49] := by kernel_rfl
  refine Ex.cons (Ex1.for_ (items := [.int 1, .int 734539939]) (fun _ => [("head", .str (S hd)), ("data", .list (nints data)), ("first", .int (f : Int)), ("signs", .str (S alphL))]) (ItEv.ofTup (Ev.tup (EvA.cons Ev.int (EvA.cons Ev.int EvA.nil)) rfl (by show 2 ≤ sizeLine; decide)) rfl) hA.handled (by walk_at "mine.bound") (by walk_at "mine.sub") ?_) ?_
  · intro i p hp
    have hcc : ∃ c : Nat, p = .int (c : Int) ∧ (c = 1 ∨ c = 734539939) := by
      match i, hp with
      | 0, hp => cases hp; exact ⟨1, rfl, .inl rfl⟩
      | 1, hp => cases hp; exact ⟨734539939, rfl, .inr rfl⟩
    obtain ⟨c, rfl, hc⟩ := hcc
    have p1 := PL.ok c hc
    have p2 := PL.up c hc
    have p3 := PL.other c hc
    have p4 := PL.turned c hc
    have p5 := PL.mixed c hc
    have hTl : (lawL hd data c).length = hd.length + 1 + (data.length + 6) := lawL_len hd data c
    have hTa : ∀ x ∈ lawL hd data c, x < 128 := lawL_lt hasc
    have htt := lawL_text hd data c
    have htlen := tail_len hd data c
    have htlt := tail_lt (hd := hd) c hdt
    generalize htl : tailL hd data c = tl at *
    generalize hT : lawL hd data c = T at *
    have hzT : T.length ≤ 4000 := by omega
    have fe := fn_encode (prog := prog) (w := w) (H := H) (m := some c) (k := c) (data := data) rfl hne hrng hlow hl90 (by omega) hdt [.str (S hd), .list (nints data), .int (c : Int)] [] [] (.inl ⟨rfl, rfl, rfl⟩)
    rw [hT] at fe
    have fdc := fn_decode (prog := prog) (w := w) (H := H) (x := T) (m := some c) hzT [.str (S T), .int (c : Int)] [] [] (.inl ⟨rfl, rfl, rfl⟩)
    rw [p1, ok_tup] at fdc
    have fup := fn_told (prog := prog) (w := w) (H := H) (x := T.map up1) (m := some c) (by rw [List.length_map]; exact hzT)
    rw [p2, ok_tup] at fup
    have fot := fn_told (prog := prog) (w := w) (H := H) (x := T) (m := some (735 - c % 735)) hzT
    rw [p3] at fot
    have fx := fn_text (prog := prog) (w := w) (H := H) (m := c) hl90 hasc (by omega : data.length ≤ 90) hdt
    rw [hT] at fx
    have hTz : (S T).length ≤ sizeLine := by rw [S_len]; omega
    have hTall : (S T).cps.all (· < 128) = true := by
      rw [Array.all_eq_true']
      intro x hx
      have hx : x ∈ T := by simpa [S] using hx
      exact decide_eq_true (hTa x hx)
    have tuT : Builtin.Str.tooLong (Txt.upper (S T)).length = false := by rw [upper_S hTa, S_len, List.length_map]; unfold Builtin.Str.tooLong; exact decide_eq_false (by omega)
    have huA : A.units + 64 < cLine := by have := hA.units; show A.units + 64 < 9900; omega
    have hokS : PyData.strOk (S hd) = true := strOk_S hasc
    have hdpv : nints data = (data.map fun n : Nat => (n : Int)).map PV.int := by unfold nints; rw [List.map_map]; rfl
    refine Ex.cons (Ex1.assign (b := false) (p := .str (S T)) (Ev.callF (hA.mono (by decide : 2 ≤ 5)) hl' (by walk_at "mine.v") (EvA.cons (by walk_at "mine.e") (EvA.cons (by walk_at "mine.e") (EvA.cons (by walk_at "mine.e") EvA.nil))) fx (by rfl)) (by walk_at "mine.bound")) ?_
    have hcn : ∀ (e1 e2 : Expr) (k : Nat) (pos : Pos) (ρ' : Rho), Ev prog w H true A env ρ' e1 (.str (S hd)) → True := fun _ _ _ _ _ _ => trivial
    clear hcn
    refine Ex.cons (Ex1.if_ (b := false) (c := false) (Tr.eq (Tr.or (c := false) (Tr.eq (Tr.cmp (Ev.callF (hA.mono (by decide : 3 ≤ 5)) hl' (by walk_at "mine.v") (EvA.cons (by walk_at "mine.e") (EvA.cons (by walk_at "mine.e") (EvA.cons (by walk_at "mine.e") EvA.nil))) fe (by rfl)) (Ev.meth1 (id := "str.encode") (x := S T) (ps := [.str "ascii"]) (by walk_at "mine.e") m_encode (EvA.cons Ev.str EvA.nil) (c_encode hTall (by rw [S_len]; omega) hTz)) c_neB) (bne_self_eq_false _))
      (fun _ => Tr.or (c := false) (Tr.cmp (Ev.callF (hA.mono (by decide : 3 ≤ 5)) hl' (by walk_at "mine.v") (EvA.cons (by walk_at "mine.e") (EvA.cons (by walk_at "mine.e") EvA.nil)) fdc (by rfl)) (Ev.tup (EvA.cons (by walk_at "mine.e") (EvA.cons (Ev.eq (Ev.name (p := .list (nints data)) hE (by rfl)) (congrArg PV.list hdpv)) EvA.nil)) rfl (by show 2 ≤ sizeLine; decide)) (c_neT hokS huA))
      (fun _ => Tr.or (c := false) (Tr.cmp (Ev.callF (hA.mono (by decide : 4 ≤ 5)) hl' (by walk_at "mine.v") (EvA.cons (Ev.eq (Ev.meth0 (id := "str.upper") (x := S T) (by walk_at "mine.e") m_upper (c_upper tuT)) (congrArg PV.str (upper_S hTa))) (EvA.cons (by walk_at "mine.e") EvA.nil)) fup (by rfl)) (Ev.tup (EvA.cons (by walk_at "mine.e") (EvA.cons (Ev.eq (Ev.name (p := .list (nints data)) hE (by rfl)) (congrArg PV.list hdpv)) EvA.nil)) rfl (by show 2 ≤ sizeLine; decide)) (c_neT hokS huA)) (fun _ => Tr.or_nil)))) (by rfl)) nofun (fun _ => Ex.nil)) ?_
    have hmc : (735 : Int) - (c : Int).fmod 735 = ((735 - c % 735 : Nat) : Int) := by
      have e : (c : Int).fmod 735 = ((c % 735 : Nat) : Int) := fmodN c 735
      rw [e]; have := Nat.mod_lt c (by decide : 0 < 735); omega
    refine Ex.cons (Ex1.if_ (b := false) (c := false) (Tr.eq (Tr.cmp (Ev.callF (hA.mono (by decide : 4 ≤ 5)) hl' (by walk_at "mine.v") (EvA.cons (by walk_at "mine.e") (EvA.cons (Ev.eq (Ev.bin Ev.int (Ev.bin (by walk_at "mine.e") Ev.int (op_fmod (by decide))) op_sub) (congrArg PV.int hmc)) EvA.nil)) fot (by rfl)) Ev.str c_neS) (bne_self_eq_false _)) nofun (fun _ => Ex.nil)) ?_
    have hhz : (S hd).length ≤ sizeLine := by rw [S_len]; omega
    refine Ex.cons (Ex1.assign (b := true) (p := .int ((hd.length + 1 : Nat) : Int)) (Ev.eq (Ev.bin (Ev.callB (by walk_at "mine.v") (EvA.cons (by walk_at "mine.e") EvA.nil) (c_lenS hhz)) Ev.int op_add) (congrArg PV.int (by rw [S_len]; omega))) (by walk_at "mine.bound")) ?_
    refine Ex.cons (Ex1.assign (b := true) (p := .int ((tl.length : Nat) : Int)) (Ev.eq (Ev.bin (Ev.callB (by walk_at "mine.v") (EvA.cons (by walk_at "mine.e") EvA.nil) (c_lenS hTz)) (by walk_at "mine.e") op_sub) (congrArg PV.int (by rw [S_len]; omega))) (by walk_at "mine.bound")) ?_
    refine Ex.cons (Ex1.assign (b := true) (p := .str (S (textOf hd (turnV f tl 0)))) (Ev.eq (Ev.name (p := .str (S T)) hE (by rfl)) (congrArg (fun z => PV.str (S z)) htt)) (by walk_at "mine.bound")) ?_
    have hwd : ((tl.length : Nat) : Int) - 2 = ((tl.length - 2 : Nat) : Int) := by omega
    refine Ex.cons (Ex1.assign (b := true) (p := .int (((tl.length - 2) / 2 : Nat) : Int)) (Ev.eq (Ev.bin (Ev.bin (by walk_at "mine.e") Ev.int op_sub) Ev.int (op_fdiv (by decide) (PyProof.noPylong_of_log2 (by decide +kernel)))) (congrArg PV.int (by rw [hwd]; exact fdivN (tl.length - 2) 2))) (by walk_at "mine.bound")) ?_
    have hw2 : 2 ≤ (tl.length - 2) / 2 := by omega
    generalize hwide : (tl.length - 2) / 2 = wide at *
    have hwne : (wide : Int) ≠ 0 := by omega
    have e17 : ((f : Int).fdiv 17).fmod (wide : Int) = ((f / 17 % wide : Nat) : Int) := by rw [show (f : Int).fdiv 17 = ((f / 17 : Nat) : Int) from fdivN f 17]; exact fmodN _ _
    have e19 : ((f : Int).fdiv 19).fmod (wide : Int) = ((f / 19 % wide : Nat) : Int) := by rw [show (f : Int).fdiv 19 = ((f / 19 : Nat) : Int) from fdivN f 19]; exact fmodN _ _
    refine Ex.cons (Ex1.assign (b := true) (p := .list (nints [farOf f wide 0, farOf f wide 1, farOf f wide 2])) (Ev.eq (Ev.list (EvA.cons Ev.int (EvA.cons (Ev.bin Ev.int (Ev.bin (Ev.bin (by walk_at "mine.e") Ev.int (op_fdiv (by decide) (PyProof.noPylong_of_log2 (by decide +kernel)))) (by walk_at "mine.e") (op_fmod hwne)) op_add)
      (EvA.cons (Ev.bin (Ev.bin Ev.int (Ev.bin (Ev.bin (by walk_at "mine.e") Ev.int (op_fdiv (by decide) (PyProof.noPylong_of_log2 (by decide +kernel)))) (by walk_at "mine.e") (op_fmod hwne)) op_add) (Ev.bin (Ev.bin (by walk_at "mine.e") Ev.int (op_fdiv (by decide) (PyProof.noPylong_of_log2 (by decide +kernel)))) (by walk_at "mine.e") (op_fmod hwne)) op_add) EvA.nil))) rfl (by show 3 ≤ sizeLine; decide)) (by rw [e17, e19]; rfl)) (by walk_at "mine.bound")) ?_
    refine Ex.cons (Ex1.for_ (items := (List.range 3).map fun i : Nat => PV.int (i : Int)) (fun k => [("turned", .str (S (textOf hd (turnV f tl k)))), ("text", .str (S T)), ("far", .list (nints [farOf f wide 0, farOf f wide 1, farOf f wide 2])), ("behind", .int ((hd.length + 1 : Nat) : Int)), ("size", .int ((tl.length : Nat) : Int)), ("signs", .str (S alphL)), ("first", .int (f : Int)), ("constant", .int (c : Int)), ("head", .str (S hd)), ("data", .list (nints data))]) (ItEv.range (n := 3) (by walk_at "mine.v") Ev.int (by decide)) hA.handled (by walk_at "mine.bound") (by walk_at "mine.sub") ?_) ?_
    · intro k p hp
      have hk : k < 3 := by
        have := (List.getElem?_eq_some_iff.mp hp).1
        simpa using this
      have hp' : p = .int (k : Int) := by
        rw [List.getElem?_map, List.getElem?_range hk] at hp
        exact (Option.some.inj hp).symm
      subst hp'
      have hszp : 0 < tl.length := by omega
      have hj : placeOf f tl.length k < tl.length := Nat.mod_lt _ hszp
      have hfar : (nints [farOf f wide 0, farOf f wide 1, farOf f wide 2])[k]? = some (.int ((farOf f wide k : Nat) : Int)) := by
        have : k = 0 ∨ k = 1 ∨ k = 2 := by omega
        rcases this with rfl | rfl | rfl <;> rfl
      have hplace : ((hd.length + 1 : Nat) : Int) + ((f : Int).fdiv 11 + ((farOf f wide k : Nat) : Int)).fmod ((tl.length : Nat) : Int) = ((hd.length + 1 + placeOf f tl.length k : Nat) : Int) := by
        rw [show (f : Int).fdiv 11 = ((f / 11 : Nat) : Int) from fdivN f 11]
        have : ((f / 11 : Nat) : Int) + ((farOf f wide k : Nat) : Int) = ((f / 11 + farOf f wide k : Nat) : Int) := by omega
        rw [this, fmodN]
        unfold placeOf
        rw [hwide]; omega
      have hstep : textOf hd (turnV f tl (k + 1)) = (textOf hd (turnV f tl k)).take (hd.length + 1 + placeOf f tl.length k) ++ [sign (newAt f tl k)] ++ (textOf hd (turnV f tl k)).drop (hd.length + 1 + placeOf f tl.length k + 1) := by
        rw [text_set hd (turnV f tl k) (j := placeOf f tl.length k) (v := newAt f tl k) (by rw [turn_len]; exact hj)]
        rfl
      have ft := fn_told (prog := prog) (w := w) (H := H) (x := textOf hd (turnV f tl (k + 1))) (m := some c) (by unfold textOf; simp only [List.length_append, List.length_map, turn_len, List.length_cons, List.length_nil]; omega)
      rw [p4 k hk] at ft
      have hUz : (S (textOf hd (turnV f tl k))).length ≤ sizeLine := by rw [S_len]; unfold textOf; simp only [List.length_append, List.length_map, turn_len, List.length_cons, List.length_nil]; omega
      have hUl : (textOf hd (turnV f tl k)).length ≤ 4000 := by unfold textOf; simp only [List.length_append, List.length_map, turn_len, List.length_cons, List.length_nil]; omega
      have hget : (S T).cps[hd.length + 1 + placeOf f tl.length k]? = some (sign (tl.getD (placeOf f tl.length k) 0)) := by
        have := text_get hd tl hj
        rw [← htt] at this
        simpa [S] using this
      have hvlt : tl.getD (placeOf f tl.length k) 0 < 32 := by
        rw [List.getD_eq_getElem?_getD, List.getElem?_eq_getElem hj]
        exact htlt _ (List.getElem_mem _)
      have hnlt : newAt f tl k < 32 := Nat.mod_lt _ (by decide)
      have hnew : (((((tl.getD (placeOf f tl.length k) 0 : Nat) : Int) + 1) + ((f : Int).fdiv 13 + (k : Int)).fmod 31).fmod 32) = ((newAt f tl k : Nat) : Int) := by
        rw [show (f : Int).fdiv 13 = ((f / 13 : Nat) : Int) from fdivN f 13]
        have e1 : ((f / 13 : Nat) : Int) + (k : Int) = ((f / 13 + k : Nat) : Int) := by omega
        rw [e1, show (((f / 13 + k : Nat) : Int)).fmod 31 = (((f / 13 + k) % 31 : Nat) : Int) from fmodN _ 31]
        have e2 : ((tl.getD (placeOf f tl.length k) 0 : Nat) : Int) + 1 + (((f / 13 + k) % 31 : Nat) : Int) = ((tl.getD (placeOf f tl.length k) 0 + 1 + (f / 13 + k) % 31 : Nat) : Int) := by omega
        rw [e2]
        exact fmodN _ 32
      generalize hpl : placeOf f tl.length k = j at *
      generalize hv : tl.getD j 0 = v at *
      refine Ex.cons (Ex1.assign (b := true) (p := .int ((hd.length + 1 + j : Nat) : Int)) (Ev.eq (Ev.bin (by walk_at "mine.e") (Ev.bin (Ev.bin (Ev.bin (by walk_at "mine.e") Ev.int (op_fdiv (by decide) (PyProof.noPylong_of_log2 (by decide +kernel)))) (Ev.subL (l := nints [farOf f wide 0, farOf f wide 1, farOf f wide 2]) (p := .int ((farOf f wide k : Nat) : Int)) (by walk_at "mine.e") (by walk_at "mine.e") (by omega) (by omega) (by rw [Int.toNat_natCast]; exact hfar)) op_add) (by walk_at "mine.e") (op_fmod (by omega))) op_add) (congrArg PV.int hplace)) (by walk_at "mine.bound")) ?_
      refine Ex.cons (Ex1.assign (b := true) (p := .int ((v : Nat) : Int)) (Ev.meth1 (id := "str.index") (x := S alphL) (ps := [.str (chr1 (sign v))]) (by walk_at "mine.e") m_index (EvA.cons (Ev.subS (x := S T) (c := sign v) (i := ((hd.length + 1 + j : Nat) : Int)) (by walk_at "mine.e") (by walk_at "mine.e") (by omega) (by omega) (by rw [Int.toNat_natCast]; exact hget)) EvA.nil) (c_index (occ_alph v hvlt))) (by walk_at "mine.bound")) ?_
      have s1 : Txt.slice (S (textOf hd (turnV f tl k))) none (some ((hd.length + 1 + j : Nat) : Int)) = S ((textOf hd (turnV f tl k)).take (hd.length + 1 + j)) := by rw [slice_cut, cut_upto]
      have s2 : Txt.slice (S (textOf hd (turnV f tl k))) (some (((hd.length + 1 + j : Nat) : Int) + 1)) none = S ((textOf hd (turnV f tl k)).drop (hd.length + 1 + j + 1)) := by rw [slice_cut]; exact congrArg S (cut_from _ (hd.length + 1 + j + 1))
      have hchr : chr1 (sign (newAt f tl k)) = S [sign (newAt f tl k)] := rfl
      refine Ex.cons (Ex1.assign (b := true) (p := .str (S (textOf hd (turnV f tl (k + 1))))) (Ev.eq (Ev.bin (p := .str (S ((textOf hd (turnV f tl k)).take (hd.length + 1 + j) ++ [sign (newAt f tl k)]))) (q := .str (S ((textOf hd (turnV f tl k)).drop (hd.length + 1 + j + 1))))
        (Ev.eq (Ev.bin (p := .str (S ((textOf hd (turnV f tl k)).take (hd.length + 1 + j)))) (q := .str (S [sign (newAt f tl k)])) (Ev.eq (Ev.sliceS (lo := none) (hi := some ((hd.length + 1 + j : Nat) : Int)) (by walk_at "mine.e") rfl ⟨_, rfl, by walk_at "mine.e"⟩ hUz) (congrArg PV.str s1))
          (Ev.subS (x := S alphL) (c := sign (newAt f tl k)) (i := ((newAt f tl k : Nat) : Int)) (by walk_at "mine.e") (Ev.eq (Ev.bin (Ev.bin (Ev.bin (by walk_at "mine.e") Ev.int op_add) (Ev.bin (Ev.bin (Ev.bin (by walk_at "mine.e") Ev.int (op_fdiv (by decide) (PyProof.noPylong_of_log2 (by decide +kernel)))) (by walk_at "mine.e") op_add) Ev.int (op_fmod (by decide))) op_add) Ev.int (op_fmod (by decide))) (congrArg PV.int hnew)) (by omega) (by omega) ?_) (op_addS ?_)) (congrArg PV.str (S_app _ _)))
        (Ev.eq (Ev.sliceS (lo := some (((hd.length + 1 + j : Nat) : Int) + 1)) (hi := none) (by walk_at "mine.e") ⟨_, rfl, Ev.bin (by walk_at "mine.e") Ev.int op_add⟩ rfl hUz) (congrArg PV.str s2)) (op_addS ?_)) (congrArg PV.str (by rw [S_app, hstep]))) (by walk_at "mine.bound")) ?_
      · rw [Int.toNat_natCast]
        have := alph_get hnlt
        simpa [S] using this
      · rw [S_len, S_len, List.length_take]; simp only [List.length_cons, List.length_nil]; omega
      · rw [S_len, S_len, List.length_append, List.length_take, List.length_drop]; simp only [List.length_cons, List.length_nil]; omega
      exact Ex.to (Ex.cons (Ex1.if_ (b := false) (c := false) (Tr.eq (Tr.cmp (Ev.callF (hA.mono (by decide : 4 ≤ 5)) hl' (by walk_at "mine.v") (EvA.cons (by walk_at "mine.e") (EvA.cons (by walk_at "mine.e") EvA.nil)) ft (by rfl)) Ev.str c_neS) (bne_self_eq_false _)) nofun (fun _ => Ex.nil)) Ex.nil) (by walk_at "mine.sub")
    have huh : ∀ x ∈ hd.map up1, x < 128 := by
      intro x hx
      obtain ⟨d, hd', rfl⟩ := List.mem_map.mp hx
      have := hasc d hd'
      unfold up1; split <;> omega
    have tuH : Builtin.Str.tooLong (Txt.upper (S hd)).length = false := by rw [upper_S hasc, S_len, List.length_map]; unfold Builtin.Str.tooLong; exact decide_eq_false (by omega)
    have hdrop : ∀ x ∈ T.drop (hd.length + 1), x < 128 := fun x hx => hTa x (List.mem_of_mem_drop hx)
    have tuD : Builtin.Str.tooLong (Txt.upper (S (T.drop (hd.length + 1)))).length = false := by rw [upper_S hdrop, S_len, List.length_map, List.length_drop]; unfold Builtin.Str.tooLong; exact decide_eq_false (by omega)
    have neS : ∀ x y : List Nat, (S x != S y) = decide (x ≠ y) := fun x y => by
      rw [Bool.eq_iff_iff]
      simp only [bne_iff_ne, decide_eq_true_eq, ne_eq]
      exact ⟨fun h q => h (by rw [q]), fun h q => h (S_inj q)⟩
    have s3 : Txt.slice (S T) (some (((S hd).length : Nat) : Int)) none = S (T.drop hd.length) := by rw [slice_cut, cut_from, S_len]
    have s4 : Txt.slice (S T) (some ((hd.length + 1 : Nat) : Int)) none = S (T.drop (hd.length + 1)) := by rw [slice_cut, cut_from]
    refine Ex.cons (Ex1.assign (b := true) (p := .str (S (hd.map up1 ++ T.drop hd.length))) (Ev.eq (Ev.bin (p := .str (S (hd.map up1))) (q := .str (S (T.drop hd.length))) (Ev.eq (Ev.meth0 (id := "str.upper") (x := S hd) (by walk_at "mine.e") m_upper (c_upper tuH)) (congrArg PV.str (upper_S hasc)))
      (Ev.eq (Ev.sliceS (lo := some (((S hd).length : Nat) : Int)) (hi := none) (by walk_at "mine.e") ⟨_, rfl, Ev.callB (by walk_at "mine.v") (EvA.cons (by walk_at "mine.e") EvA.nil) (c_lenS hhz)⟩ rfl hTz) (congrArg PV.str s3)) (op_addS (by rw [S_len, S_len, List.length_map, List.length_drop]; omega))) (congrArg PV.str (S_app _ _))) (by walk_at "mine.bound")) ?_
    have fin2 : ∀ (st : Stmt) (ρ' : Rho), Ex1 prog w H A env ρ' st (.next ρ') → True := fun _ _ _ => trivial
    clear fin2
    by_cases q1 : hd.map up1 ≠ hd
    rotate_left 1
    · refine Ex.to (Ex.cons (Ex1.if_ (b := false) (c := false) (Tr.eq (Tr.and (c := false) (d := false) (Tr.eq (Tr.cmp (Ev.eq (Ev.meth0 (id := "str.upper") (x := S hd) (by walk_at "mine.e") m_upper (c_upper tuH)) (congrArg PV.str (upper_S hasc))) (by walk_at "mine.e") c_neS) (by rw [neS]; exact decide_eq_false q1)) nofun) (by rfl)) nofun (fun _ => Ex.nil)) Ex.nil) (by walk_at "mine.sub")
    by_cases q2 : (T.drop (hd.length + 1)).map up1 ≠ T.drop (hd.length + 1)
    rotate_left 1
    · refine Ex.to (Ex.cons (Ex1.if_ (b := false) (c := false) (Tr.eq (Tr.and (c := true) (d := false) (Tr.eq (Tr.cmp (Ev.eq (Ev.meth0 (id := "str.upper") (x := S hd) (by walk_at "mine.e") m_upper (c_upper tuH)) (congrArg PV.str (upper_S hasc))) (by walk_at "mine.e") c_neS) (by rw [neS]; exact decide_eq_true q1))
        (fun _ => Tr.eq (Tr.and (c := false) (d := false) (Tr.eq (Tr.cmp (Ev.eq (Ev.meth0 (id := "str.upper") (x := S (T.drop (hd.length + 1))) (Ev.eq (Ev.sliceS (lo := some ((hd.length + 1 : Nat) : Int)) (hi := none) (by walk_at "mine.e") ⟨_, rfl, by walk_at "mine.e"⟩ rfl hTz) (congrArg PV.str s4)) m_upper (c_upper tuD)) (congrArg PV.str (upper_S hdrop))) (Ev.eq (Ev.sliceS (lo := some ((hd.length + 1 : Nat) : Int)) (hi := none) (by walk_at "mine.e") ⟨_, rfl, by walk_at "mine.e"⟩ rfl hTz) (congrArg PV.str s4)) c_neS) (by rw [neS]; exact decide_eq_false q2)) nofun) (by rfl))) (by rfl)) nofun (fun _ => Ex.nil)) Ex.nil) (by walk_at "mine.sub")
    have fm := fn_told (prog := prog) (w := w) (H := H) (x := hd.map up1 ++ T.drop hd.length) (m := some c) (by rw [List.length_append, List.length_map, List.length_drop]; omega)
    rw [p5 q1 q2] at fm
    refine Ex.to (Ex.cons (Ex1.if_ (b := false) (c := false) (Tr.eq (Tr.and (c := true) (d := false) (Tr.eq (Tr.cmp (Ev.eq (Ev.meth0 (id := "str.upper") (x := S hd) (by walk_at "mine.e") m_upper (c_upper tuH)) (congrArg PV.str (upper_S hasc))) (by walk_at "mine.e") c_neS) (by rw [neS]; exact decide_eq_true q1))
        (fun _ => Tr.eq (Tr.and (c := true) (d := false) (Tr.eq (Tr.cmp (Ev.eq (Ev.meth0 (id := "str.upper") (x := S (T.drop (hd.length + 1))) (Ev.eq (Ev.sliceS (lo := some ((hd.length + 1 : Nat) : Int)) (hi := none) (by walk_at "mine.e") ⟨_, rfl, by walk_at "mine.e"⟩ rfl hTz) (congrArg PV.str s4)) m_upper (c_upper tuD)) (congrArg PV.str (upper_S hdrop))) (Ev.eq (Ev.sliceS (lo := some ((hd.length + 1 : Nat) : Int)) (hi := none) (by walk_at "mine.e") ⟨_, rfl, by walk_at "mine.e"⟩ rfl hTz) (congrArg PV.str s4)) c_neS) (by rw [neS]; exact decide_eq_true q2))
        (fun _ => Tr.eq (Tr.and (c := false) (d := true) (Tr.eq (Tr.cmp (Ev.callF (hA.mono (by decide : 4 ≤ 5)) hl' (by walk_at "mine.v") (EvA.cons (by walk_at "mine.e") (EvA.cons (by walk_at "mine.e") EvA.nil)) fm (by rfl)) Ev.str c_neS) (bne_self_eq_false _)) (fun _ => Tr.and_nil)) (by rfl))) (by rfl))) (by rfl)) nofun (fun _ => Ex.nil)) Ex.nil) (by walk_at "mine.sub")
  have huA : A.units + 64 < cLine := by have := hA.units; show A.units + 64 < 9900; omega
  have hokS : PyData.strOk (S hd) = true := strOk_S hasc
  have hdpv : nints data = (data.map fun n : Nat => (n : Int)).map PV.int := by unfold nints; rw [List.map_map]; rfl
  have hdz : (nints data).length ≤ sizeLine := by rw [nints_len]; omega
  refine Ex.cons (Ex1.if_ (b := true) (c := !(nints data).isEmpty) (o := .next []) (Tr.ofList (l := nints data) (by walk_at "mine.e") hdz) ?_ ?_) ?_
  · intro hne'
    cases hdat : data with
    | nil => rw [hdat] at hne'; cases hne'
    | cons a r =>
      have po := PL.own a r hdat
      rw [hdat] at po hdt hdl hdpv
      have hTl : (lawL hd (a :: r) (if a = 0 then 1 else 734539939)).length = hd.length + 1 + ((a :: r).length + 6) := lawL_len _ _ _
      have hTa : ∀ x ∈ lawL hd (a :: r) (if a = 0 then 1 else 734539939), x < 128 := lawL_lt hasc
      have fx := fn_text (prog := prog) (w := w) (H := H) (m := if a = 0 then 1 else 734539939) hl90 hasc (by omega : (a :: r).length ≤ 90) hdt
      have fe := fn_encode (prog := prog) (w := w) (H := H) (m := none) (k := if a = 0 then 1 else 734539939) (data := a :: r) rfl hne hrng hlow hl90 (by omega) hdt [.str (S hd), .list (nints (a :: r))] [Value.none] [PV.none] (.inr ⟨rfl, rfl, rfl, rfl⟩)
      have fdc := fn_decode (prog := prog) (w := w) (H := H) (x := lawL hd (a :: r) (if a = 0 then 1 else 734539939)) (m := none) (by omega) [.str (S (lawL hd (a :: r) (if a = 0 then 1 else 734539939)))] [Value.none] [PV.none] (.inr ⟨rfl, rfl, rfl, rfl⟩)
      rw [po, ok_tup] at fdc
      have hcst : ∀ k : Nat, (k = if a = 0 then 1 else 734539939) → True := fun _ _ => trivial
      clear hcst
      generalize hT : lawL hd (a :: r) (if a = 0 then 1 else 734539939) = T at *
      have hTz : (S T).length ≤ sizeLine := by rw [S_len]; omega
      have hTall : (S T).cps.all (· < 128) = true := by
        rw [Array.all_eq_true']
        intro x hx
        have hx : x ∈ T := by simpa [S] using hx
        exact decide_eq_true (hTa x hx)
      refine Ex.to (Ex.cons (Ex1.assign (b := false) (p := .str (S T)) (Ev.callF (hA.mono (by decide : 2 ≤ 5)) hl' (by walk_at "mine.v") (EvA.cons (by walk_at "mine.e") (EvA.cons (by walk_at "mine.e") (EvA.cons (p := .int (((if a = 0 then 1 else 734539939 : Nat)) : Int)) (Ev.ite (c := decide (a = 0)) (Tr.eq (Tr.cmp (Ev.subL (l := nints (a :: r)) (p := .int (a : Int)) (by walk_at "mine.e") Ev.int (by decide) (by decide) rfl) Ev.int c_eq) ?_) ?_ ?_) EvA.nil))) fx (by rfl)) (by walk_at "mine.bound"))
        (Ex.cons (Ex1.if_ (b := false) (c := false) (Tr.eq (Tr.or (c := false) (Tr.eq (Tr.cmp (Ev.callF (hA.mono (by decide : 3 ≤ 5)) hl' (by walk_at "mine.v") (EvA.cons (by walk_at "mine.e") (EvA.cons (by walk_at "mine.e") EvA.nil)) fe (by rfl)) (Ev.meth1 (id := "str.encode") (x := S T) (ps := [.str "ascii"]) (by walk_at "mine.e") m_encode (EvA.cons Ev.str EvA.nil) (c_encode hTall (by rw [S_len]; omega) hTz)) c_neB) (bne_self_eq_false _))
          (fun _ => Tr.or (c := false) (Tr.cmp (Ev.callF (hA.mono (by decide : 3 ≤ 5)) hl' (by walk_at "mine.v") (EvA.cons (by walk_at "mine.e") EvA.nil) fdc (by rfl)) (Ev.tup (EvA.cons (by walk_at "mine.e") (EvA.cons (Ev.eq (Ev.name (p := .list (nints (a :: r))) hE (by rfl)) (congrArg PV.list hdpv)) EvA.nil)) rfl (by show 2 ≤ sizeLine; decide)) (c_neT hokS huA)) (fun _ => Tr.or_nil))) (by rfl)) nofun (fun _ => Ex.nil)) Ex.nil)) sub_nil
      · rw [Bool.eq_iff_iff]; simp only [beq_iff_eq, decide_eq_true_eq]; omega
      · intro h
        rw [if_pos (of_decide_eq_true h)]
        exact Ev.int
      · intro h
        rw [if_neg (of_decide_eq_false h)]
        exact Ev.int
  · intro he
    have hdat : data = [] := by
      cases data with
      | nil => rfl
      | cons a r => cases he
    have pn := PL.none hdat
    have fx := fn_text (prog := prog) (w := w) (H := H) (hd := hd) (data := []) (m := 1) hl90 hasc (by decide) (by intro v hv; cases hv)
    have ft := fn_told (prog := prog) (w := w) (H := H) (x := lawL hd [] 1) (m := none) (by rw [lawL_len]; simp only [List.length_nil]; omega)
    rw [pn] at ft
    exact Ex.to (Ex.cons (Ex1.if_ (b := false) (c := false) (Tr.eq (Tr.cmp (Ev.callF (hA.mono (by decide : 4 ≤ 5)) hl' (by walk_at "mine.v") (EvA.cons (Ev.callF (hA.mono (by decide : 2 ≤ 5)) hl' (by walk_at "mine.v") (EvA.cons (by walk_at "mine.e") (EvA.cons (Ev.list EvA.nil rfl (by decide)) (EvA.cons Ev.int EvA.nil))) fx (by rfl)) (EvA.cons Ev.none EvA.nil)) ft (by rfl)) Ev.str c_neS) (bne_self_eq_false _)) nofun (fun _ => Ex.nil)) Ex.nil) sub_nil
  -- the nine wrong texts
  have hwr : ∀ l ∈ wrongs, toldRes l (some 1) = refusedS := by
    intro l hl
    have h : ∀ l ∈ wrongs, decL l = none := by decide +kernel
    unfold toldRes decOut
    rw [h l hl]
  refine Ex.cons (Ex1.for_ (items := wrongs.map fun l => PV.str (S l)) (fun _ => []) (ItEv.ofTup (Ev.eq (Ev.tup (EvA.cons Ev.str (EvA.cons Ev.str (EvA.cons Ev.str (EvA.cons Ev.str (EvA.cons Ev.str (EvA.cons Ev.str (EvA.cons Ev.str (EvA.cons Ev.str (EvA.cons Ev.str EvA.nil))))))))) rfl (by show 9 ≤ sizeLine; decide)) (congrArg PV.tup (by kernel_rfl))) rfl) hA.handled (by walk_at "mine.bound") sub_nil ?_) ?_
  · intro i p hp
    rw [List.getElem?_map] at hp
    obtain ⟨l, hl, rfl⟩ := Option.map_eq_some_iff.mp hp
    have hm := List.mem_of_getElem? hl
    have hlen : ∀ l ∈ wrongs, l.length ≤ 4000 := by decide
    have ft := fn_told (prog := prog) (w := w) (H := H) (x := l) (m := some 1) (hlen l hm)
    rw [hwr l hm] at ft
    exact Ex.to (Ex.cons (Ex1.if_ (b := false) (c := false) (Tr.eq (Tr.cmp (Ev.callF (hA.mono (by decide : 4 ≤ 5)) hl' (by walk_at "mine.v") (EvA.cons (by walk_at "mine.e") (EvA.cons Ev.int EvA.nil)) ft (by rfl)) Ev.str c_neS) (bne_self_eq_false _)) nofun (fun _ => Ex.nil)) Ex.nil) sub_nil
  have ra := fn_refused37 (enc_a (prog := prog) (w := w) (H := H))
  have rb := fn_refused37 (enc_b (prog := prog) (w := w) (H := H))
  have rc := fn_refused37 (enc_c (prog := prog) (w := w) (H := H))
  have rd := fn_refused49 (enc_d (prog := prog) (w := w) (H := H))
  have re := fn_refused49 (enc_e (prog := prog) (w := w) (H := H))
  have eqt : ∀ x : Str, PV.bool (x == x) = PV.bool true := fun x => congrArg PV.bool (beq_self_eq_true x)
  have k1 : PV.str (Str.ofString "") = PV.str (S []) := congrArg PV.str (by kernel_rfl)
  have k2 : PV.str (Str.ofString "B") = PV.str (S [66]) := congrArg PV.str (by kernel_rfl)
  have k3 : PV.str (Str.ofString "b") = PV.str (S [98]) := congrArg PV.str (by kernel_rfl)
  exact Ex.ret (Ex1.ret (b := false)
    (Ev.and (Ev.eq (Ev.cmp (Ev.callF (hA.mono (by decide : 4 ≤ 5)) hl' (by walk_at "mine.v") (EvA.cons (Ev.eq Ev.str k1) (EvA.cons (Ev.list EvA.nil rfl (by decide)) EvA.nil)) ra (by rfl)) Ev.str c_eqS) (eqt _))
    (Ev.and (Ev.eq (Ev.cmp (Ev.callF (hA.mono (by decide : 4 ≤ 5)) hl' (by walk_at "mine.v") (EvA.cons (Ev.eq Ev.str k2) (EvA.cons (Ev.list EvA.nil rfl (by decide)) EvA.nil)) rb (by rfl)) Ev.str c_eqS) (eqt _))
    (Ev.and (Ev.eq (Ev.cmp (Ev.callF (hA.mono (by decide : 4 ≤ 5)) hl' (by walk_at "mine.v") (EvA.cons (Ev.eq Ev.str k3) (EvA.cons (Ev.list (EvA.cons Ev.int EvA.nil) rfl (by decide)) EvA.nil)) rc (by rfl)) Ev.str c_eqS) (eqt _))
    (Ev.and (Ev.eq (Ev.cmp (Ev.callF (hA.mono (by decide : 4 ≤ 5)) hl' (by walk_at "mine.v") (EvA.cons (Ev.eq Ev.str k3) (EvA.cons (Ev.list (EvA.cons Ev.bool EvA.nil) rfl (by decide)) EvA.nil)) rd (by rfl)) Ev.str c_eqS) (eqt _))
    (Ev.and_one (Ev.eq (Ev.cmp (Ev.callF (hA.mono (by decide : 4 ≤ 5)) hl' (by walk_at "mine.v") (EvA.cons Ev.int (EvA.cons (Ev.list EvA.nil rfl (by decide)) EvA.nil)) re (by rfl)) Ev.str c_eqS) (eqt _))))))))
end
end Mine

open PySem PySem.W PySem.Calls PyProof.Rows
set_option Elab.async false
set_option linter.unusedVariables false
set_option maxRecDepth 100000
set_option maxHeartbeats 4000000
namespace Mine
theorem run_law {prog : Program} {w : World} {s₁ : Shared} {h₁ : Heap} {tk : Nat} {env : Env} {oc : Value} {od : Option Addr} {osl : Array (Option Value)} {fd : FuncData} {body : List Stmt} {mg mb m : Str → Option Value} {bm : Addr} {ob : Obj} {l : Addr} {vs : List Value} {ns : List Int}
    (PL : Plain (hdOf (firstOf ns)) (dataOf ns) (firstOf ns))
    (ho : (KF w.params).lookup 158 = some ⟨oc, od, .func fd, osl⟩) (hbody : fd.body = .stmts body) (hE : EnvOk env) (hf : env.frame = some env.locals) (hsc : env.scope = fd.scope) (hcl : env.cells = cellsFrom (env.locals + 1) fd.scope.names []) (hL : env.locals = s₁.heap.objs.size)
    (KX : (KF w.params).In s₁.heap) (TT : ∀ P, P ∈ [70, 122] → s₁.heap.get? P = some (tabObj #[])) (hg : s₁.gens = #[]) (n1 : s₁.heap.Ns mainGlobals mg) (n2 : s₁.heap.Ns builtinsNs mb) (n3 : ∀ x : Str, x ≠ "__name__" → mb x = bootBuiltins x) (M : BMod s₁.heap mainGlobals mg bm ob) (hlim : s₁.heap.NoLimit)
    (F : Fr s₁.heap s₁.heap.objs.size h₁ m) (hk : env.kindOf "script" = some .local) (hm : m "script" = some (.ref l)) (hl : s₁.heap.IsList l vs.toArray) (hI : IntsAre vs ns) (hlen : ¬ (63 : Int) < ns.length)
    (hcell : ∀ n c, env.cells.lookup n = some c → s₁.heap.objs.size < c ∧ ∃ v, h₁.IsCell c v) (hap : ∀ n n' c, env.cells.lookup n = some c → env.cells.lookup n' = some c → n = n') :
    wpAny (model prog w) (callerA.deeper env) (execs body env) (fun f s' => f = .ret (.bool true) ∧ Kp [] s₁ s') (fun _ _ => False) { s₁ with heap := h₁, toks := tk } := by
  have hnew : s₁.heap.get? env.locals = none := none_of_size (by rw [hL]; exact Nat.le_refl _)
  have hfr : (callerA.deeper env).frames = some [env] := Around.frames_deeper (by rfl)
  have T : TopOk s₁.heap w s₁.heap := ⟨KX, fun b o e => ⟨o, e⟩, KX, ⟨mg, mb, n1, n2, n3, bm, ob, M⟩, hlim, ⟨#[], TT 70 (by simp), by trivial⟩, ⟨#[], TT 122 (by simp), by trivial⟩⟩
  have FO : FrameOk s₁.heap w (callerA.deeper env) env s₁ := ⟨hE, hf, hnew, hnew, T, AllBare.of_eq hg, ⟨[], hfr, fun e he => by cases he⟩, fun n c e => none_of_size (Nat.le_of_lt (hcell n c e).1), hap⟩
  have kk : Keeps s₁ { s₁ with heap := h₁, toks := tk } := Keeps.mk' F.keep
  have R : Run s₁.heap w (callerA.deeper env) env [("script", .list (ns.map PV.int))] s₁ { s₁ with heap := h₁, toks := tk } := by
    refine ⟨.of_keeps kk, ⟨m, hL ▸ F.ns⟩, fun n c e => (hcell n c e).2, fun x p e => ?_⟩
    rw [List.lookup_cons] at e
    by_cases hx : x = "script"
    · subst hx
      simp only [beq_self_eq_true] at e
      cases e
      exact .inl ⟨hk, m, .ref l, hL ▸ F.ns, hm, l, vs, rfl, (Grow.of_keeps (fs := []) F.keep).isList hl, Prims.ofInts hI⟩
    · rw [beq_false_of_ne hx] at e; cases e
  have hA : AOk 5 (callerA.deeper env) := ⟨rfl, by show callerA.depth + 1 + 4 * 5 ≤ 600; decide, by show callerA.units + 3 + 20 * 5 ≤ 4000; decide⟩
  refine wpAny_mono (law_ex (prog := prog) (w := w) (H := s₁.heap) ho hbody (by omega) PL hA hE hsc hcl ⟨_, hfr⟩ s₁ _ FO R) (fun f s' q => ?_) fun _ _ q => q
  obtain ⟨v, rfl, R', r⟩ := q
  have r : v = .bool true := r
  subst r
  refine ⟨rfl, ⟨R'.kp.grow.mono fun b hb ⟨o, e⟩ => ?_, R'.kp.os, R'.kp.gens⟩⟩
  have hb : b ∈ (List.filterMap (·.frame) [env]) := by unfold fsOf at hb; rw [hfr] at hb; exact hb
  simp only [List.filterMap_cons, hf, List.filterMap_nil, List.mem_cons, List.not_mem_nil, or_false] at hb
  subst hb
  rw [hnew] at e; cases e
theorem oldK_of {P : Params} {h h' : Heap} (KX : (KF P).In h) (TT : ∀ Q, Q ∈ [70, 122] → h.get? Q = some (tabObj #[])) (g : Grow [] h h') : OldK h h' := by
  have tab : ∀ b o, h.get? b = some o → IsT b o → isCodeTable h b ∧ o = tabObj #[] ∧ ∃ ps, h'.get? b = some (tabObj ps) := fun b o e n => by
    obtain ⟨_, hb, _⟩ := n
    rcases hb with rfl | rfl
    · have e2 := TT 70 (by simp)
      rw [e] at e2
      obtain ⟨more, k, _⟩ := g.tab 70 (.inl rfl) #[] (TT 70 (by simp)) (by trivial)
      exact ⟨((codeHd_of_K (c := 74) KX (by kernel_rfl)).tab (TT 70 (by simp))).isCodeTable, Option.some.inj e2, _, k⟩
    · have e2 := TT 122 (by simp)
      rw [e] at e2
      obtain ⟨more, k, _⟩ := g.tab 122 (.inr rfl) #[] (TT 122 (by simp)) (by trivial)
      exact ⟨((codeHd_of_K (c := 126) KX (by kernel_rfl)).tab (TT 122 (by simp))).isCodeTable, Option.some.inj e2, _, k⟩
  refine ⟨fun b o e => ?_, fun b o e => ?_⟩
  · by_cases n : IsT b o
    · obtain ⟨ht, rfl, ps, hP⟩ := tab b o e n
      exact .inr (.inl ⟨ht, rfl, #[], ps, rfl, by rw [Array.empty_append]; exact hP⟩)
    · rcases g.obj b o e n with k | ⟨_, f, _⟩
      · exact .inl k
      · cases f
  · by_cases n : IsT b o
    · obtain ⟨_, _, ps, hP⟩ := tab b o e n
      exact ⟨_, hP⟩
    · rcases g.obj b o e n with k | ⟨_, f, _⟩
      · exact ⟨_, k⟩
      · cases f
end Mine

open PySem PySem.W PySem.Calls PyProof.Rows
set_option Elab.async false
set_option linter.unusedVariables false
set_option maxRecDepth 100000
set_option maxHeartbeats 4000000
namespace Mine
/-! decL of a text of the law's kind -/
theorem sign_ne : ∀ v < 32, sign v ≠ 49 ∧ inR (sign v) = true ∧ lo1 (sign v) = sign v ∧ idxOf (sign v) = (v : Int) ∧ lo1 (up1 (sign v)) = sign v ∧ inR (up1 (sign v)) = true ∧ up1 (sign v) ≠ 49 ∧ up1 (up1 (sign v)) = up1 (sign v) := by decide +kernel
theorem hdc_ne : ∀ c ∈ hdChars, c ≠ 49 ∧ inR c = true ∧ lo1 c = c ∧ lo1 (up1 c) = c ∧ inR (up1 c) = true ∧ up1 c ≠ 49 ∧ up1 (up1 c) = up1 c := by decide +kernel

theorem lastOne_app (a b : List Nat) (hb : ∀ c ∈ b, c ≠ 49) : lastOne (a ++ 49 :: b) = some a.length := by
  have hn : ∀ l : List Nat, (∀ c ∈ l, c ≠ 49) → lastOne l = none := by
    intro l
    induction l with
    | nil => intro _; rfl
    | cons c r ih =>
      intro h
      rw [lastOne, ih fun x hx => h x (.tail _ hx)]
      simp [h c (.head _)]
  induction a with
  | nil => rw [List.nil_append, lastOne, hn b hb]; rfl
  | cons c r ih => rw [List.cons_append, lastOne, ih]; rfl

/-- head and tail as they stand, or turned by a case that lowers back -/
theorem decL_gen {hd tl H T : List Nat} (hH : H.map lo1 = hd) (hT : T.map lo1 = tl.map sign) (h1 : hd ≠ []) (h6 : 6 ≤ tl.length) (htl : ∀ v ∈ tl, v < 32) (r1 : H.all inR = true) (r2 : T.all inR = true) (hT1 : ∀ c ∈ T, c ≠ 49)
    (hcase : (H ++ [49] ++ T).map lo1 = H ++ [49] ++ T ∨ (H ++ [49] ++ T).map up1 = H ++ [49] ++ T) : decL (H ++ [49] ++ T) = some (hd, tl) := by
  have hlen : H.length = hd.length := by rw [← hH, List.length_map]
  have hlenT : T.length = tl.length := by have := congrArg List.length hT; simpa using this
  have hpos : lastOne (H ++ [49] ++ T) = some H.length := by rw [List.append_assoc]; exact lastOne_app H T hT1
  have hne : H.length ≠ 0 := by rw [hlen]; exact fun q => h1 (List.length_eq_zero_iff.mp q)
  have tk : (H ++ [49] ++ T).take H.length = H := by rw [List.append_assoc, List.take_left']; rfl
  have dr : ∀ l l' : List Nat, l.length = H.length → (l ++ [49] ++ l').drop (H.length + 1) = l' := fun l l' h => by
    rw [List.drop_left' (by rw [List.length_append, h]; rfl)]
  have hmap : (H ++ [49] ++ T).map lo1 = hd ++ [49] ++ tl.map sign := by rw [List.map_append, List.map_append, hH, hT]; rfl
  unfold decL
  rw [hpos]
  dsimp only
  rw [if_neg hne, if_neg (by simp only [List.length_append, List.length_cons, List.length_nil]; omega), tk, if_neg (by rw [r1]; nofun), dr H T rfl, if_neg (by rw [r2]; nofun), if_neg (by
    rintro ⟨q1, q2⟩
    rcases hcase with q | q
    · exact q1 q
    · exact q2 q), hmap, dr hd (tl.map sign) hlen.symm]
  have hix : (tl.map sign).map idxOf = tl.map fun v : Nat => (v : Int) := by
    rw [List.map_map]
    exact List.map_congr_left fun v hv => (sign_ne v (htl v hv)).2.2.2.1
  rw [hix]
  have hany : ∀ l : List Nat, (l.map fun v : Nat => (v : Int)).any (· == -1) = false := fun l => by
    rw [List.any_eq_false]
    intro i hi
    obtain ⟨v, _, rfl⟩ := List.mem_map.mp hi
    simp <;> omega
  rw [← List.map_drop, if_neg (by rw [hany]; nofun), if_neg (by rw [hany]; nofun)]
  congr 1
  refine Prod.ext ?_ ?_
  · show List.take H.length (hd ++ [49] ++ tl.map sign) = hd
    rw [List.append_assoc, hlen, List.take_left']; rfl
  · show List.map Int.toNat _ = tl
    rw [List.map_map]
    exact (List.map_congr_left fun v _ => by rfl).trans (List.map_id _)
end Mine

open PySem PySem.W PySem.Calls PyProof.Rows
set_option Elab.async false
set_option linter.unusedVariables false
set_option maxRecDepth 100000
set_option maxHeartbeats 4000000
namespace Mine
/-! linearity -/
theorem taps_xor : ∀ x < 32, ∀ y < 32, taps (x ^^^ y) = taps x ^^^ taps y := by decide +kernel
theorem x4 (a b c d : Nat) : (a ^^^ b) ^^^ (c ^^^ d) = (a ^^^ c) ^^^ (b ^^^ d) := by
  rw [Nat.xor_assoc, Nat.xor_assoc, ← Nat.xor_assoc b c d, Nat.xor_comm b c, Nat.xor_assoc c b d]
theorem step_xor {a b v u : Nat} (ha : a < 2 ^ 30) (hb : b < 2 ^ 30) : pmStep (a ^^^ b) (v ^^^ u) = pmStep a v ^^^ pmStep b u := by
  unfold pmStep
  have h1 : a >>> 25 < 32 := by rw [Nat.shiftRight_eq_div_pow]; omega
  have h2 : b >>> 25 < 32 := by rw [Nat.shiftRight_eq_div_pow]; omega
  rw [Nat.and_xor_distrib_right, Nat.shiftLeft_xor_distrib, Nat.shiftRight_xor_distrib, taps_xor _ h1 _ h2]
  rw [x4 ((a &&& 33554431) <<< 5) ((b &&& 33554431) <<< 5) v u, x4]
theorem fold_xor : ∀ (vs us : List Nat) (a b : Nat), vs.length = us.length → (∀ v ∈ vs, v < 32) → (∀ v ∈ us, v < 32) → a < 2 ^ 30 → b < 2 ^ 30 →
    (List.zipWith (· ^^^ ·) vs us).foldl pmStep (a ^^^ b) = vs.foldl pmStep a ^^^ us.foldl pmStep b
  | [], [], a, b, _, _, _, _, _ => rfl
  | v :: vs, u :: us, a, b, hl, hv, hu, ha, hb => by
    simp only [List.zipWith_cons_cons, List.foldl_cons]
    rw [step_xor ha hb]
    exact fold_xor vs us _ _ (by simpa using hl) (fun x hx => hv x (.tail _ hx)) (fun x hx => hu x (.tail _ hx)) (pmStep_lt ha (hv v (.head _))) (pmStep_lt hb (hu u (.head _)))
def F0 (e : List Nat) : Nat := e.foldl pmStep 0
theorem F0_lt {e : List Nat} (h : ∀ v ∈ e, v < 32) : F0 e < 2 ^ 30 := foldl_pm_lt e 0 (by decide) h
theorem zip_xor_lt {vs us : List Nat} (hv : ∀ v ∈ vs, v < 32) (hu : ∀ v ∈ us, v < 32) : ∀ x ∈ List.zipWith (· ^^^ ·) vs us, x < 32 := by
  intro x hx
  obtain ⟨i, hi⟩ := List.getElem?_of_mem hx
  rw [List.getElem?_zipWith] at hi
  cases e1 : vs[i]? with
  | none => rw [e1] at hi; simp at hi
  | some v =>
    cases e2 : us[i]? with
    | none => rw [e1, e2] at hi; simp at hi
    | some u =>
      rw [e1, e2] at hi
      cases hi
      exact Nat.xor_lt_two_pow (n := 5) (hv v (List.mem_of_getElem? e1)) (hu u (List.mem_of_getElem? e2))
/-- two tails behind the same beginning -/
theorem pm_diff {X vs us : List Nat} (hX : ∀ v ∈ X, v < 32) (hl : vs.length = us.length) (hv : ∀ v ∈ vs, v < 32) (hu : ∀ v ∈ us, v < 32) : pm (X ++ us) = pm (X ++ vs) ^^^ F0 (List.zipWith (· ^^^ ·) vs us) := by
  unfold pm
  rw [List.foldl_append, List.foldl_append]
  have hs := foldl_pm_lt X 1 (by decide) hX
  have h := fold_xor vs us _ _ hl hv hu hs hs
  rw [Nat.xor_self] at h
  rw [show F0 (List.zipWith (· ^^^ ·) vs us) = _ from h, ← Nat.xor_assoc, Nat.xor_self, Nat.zero_xor]

/-! the checksum answers its constant -/
theorem and31 (x : Nat) : x &&& 31 = x % 32 := Nat.and_two_pow_sub_one_eq_mod x 5
theorem F0_six {a b c d e f : Nat} (ha : a < 32) (hb : b < 32) (hc : c < 32) (hd : d < 32) (he : e < 32) (hf : f < 32) : F0 [a, b, c, d, e, f] = a * 33554432 + b * 1048576 + c * 32768 + d * 1024 + e * 32 + f := by
  have st : ∀ s v : Nat, s < 33554432 → v < 32 → pmStep s v = s * 32 + v := by
    intro s v hs hv
    unfold pmStep
    have h1 : s >>> 25 = 0 := by rw [Nat.shiftRight_eq_div_pow]; omega
    have h2 : s &&& 33554431 = s := by
      have : s &&& (2 ^ 25 - 1) = s % 2 ^ 25 := Nat.and_two_pow_sub_one_eq_mod s 25
      rw [show (33554431 : Nat) = 2 ^ 25 - 1 by decide, this]; omega
    rw [h1, h2, show taps 0 = 0 by decide, Nat.xor_zero, Nat.shiftLeft_eq]
    have := Nat.two_pow_add_eq_or_of_lt (i := 5) hv s
    have h3 : (2 ^ 5 * s) ^^^ v = 2 ^ 5 * s + v := by
      have h4 := xor_and_add (2 ^ 5 * s) v
      have h5 : (2 ^ 5 * s) &&& v = 0 := by
        have h6 : v &&& 31 = v := by rw [and31]; omega
        rw [← h6, Nat.and_comm v 31, ← Nat.and_assoc, and31, Nat.mul_mod_right, Nat.zero_and]
      omega
    rw [Nat.mul_comm s (2 ^ 5), h3]
  unfold F0
  simp only [List.foldl_cons, List.foldl_nil]
  rw [st 0 a (by omega) ha, st _ b (by omega) hb, st _ c (by omega) hc, st _ d (by omega) hd, st _ e (by omega) he, st _ f (by omega) hf]
  omega
theorem pm_ck {X : List Nat} {c : Nat} (hX : ∀ v ∈ X, v < 32) (hc : c < 2 ^ 30) : pm (X ++ cksum X c) = c := by
  have h6 : ∀ v ∈ List.replicate 6 0, v < 32 := fun v hv => by rw [(List.mem_replicate.mp hv).2]; decide
  have h := pm_diff (vs := List.replicate 6 0) (us := cksum X c) hX (by rw [cksum_len]; rfl) h6 (cksum_lt X c)
  rw [h]
  have hR : pm (X ++ List.replicate 6 0) < 2 ^ 30 := pm_lt fun v hv => (List.mem_append.mp hv).elim (hX v) (h6 v)
  generalize hP : pm (X ++ List.replicate 6 0) = P at *
  have hRc : P ^^^ c < 2 ^ 30 := Nat.xor_lt_two_pow hR hc
  have key : F0 (List.zipWith (· ^^^ ·) (List.replicate 6 0) (cksum X c)) = P ^^^ c := by
    unfold cksum
    rw [hP]
    generalize P ^^^ c = R at *
    have e : List.zipWith (· ^^^ ·) (List.replicate 6 0) ((List.range 6).map fun i => R >>> (5 * (5 - i)) &&& 31) = [R >>> 25 &&& 31, R >>> 20 &&& 31, R >>> 15 &&& 31, R >>> 10 &&& 31, R >>> 5 &&& 31, R >>> 0 &&& 31] := by
      show [0 ^^^ _, 0 ^^^ _, 0 ^^^ _, 0 ^^^ _, 0 ^^^ _, 0 ^^^ _] = _
      simp only [Nat.zero_xor]
    rw [e]
    simp only [and31, Nat.shiftRight_eq_div_pow]
    rw [F0_six (Nat.mod_lt _ (by decide)) (Nat.mod_lt _ (by decide)) (Nat.mod_lt _ (by decide)) (Nat.mod_lt _ (by decide)) (Nat.mod_lt _ (by decide)) (Nat.mod_lt _ (by decide))]
    omega
  rw [key, ← Nat.xor_assoc, Nat.xor_self, Nat.zero_xor]
end Mine

open PySem PySem.W PySem.Calls PyProof.Rows
set_option Elab.async false
set_option linter.unusedVariables false
set_option maxRecDepth 100000
set_option maxHeartbeats 4000000
namespace Mine
/-! the high parts of the rests of one wrong sign, by its place from the end (a table that a small program of mine printed) -/
def hiRows : List (List Nat) := [
  [1, 2, 3, 4, 5, 6, 7, 8, 9, 10, 11, 12, 13, 14, 15, 16, 17, 18, 19, 20, 21, 22, 23, 24, 25, 26, 27, 28, 29, 30, 31],
  [32, 64, 96, 128, 160, 192, 224, 256, 288, 320, 352, 384, 416, 448, 480, 512, 544, 576, 608, 640, 672, 704, 736, 768, 800, 832, 864, 896, 928, 960, 992],
  [1024, 2048, 3072, 4096, 5120, 6144, 7168, 8192, 9216, 10240, 11264, 12288, 13312, 14336, 15360, 16384, 17408, 18432, 19456, 20480, 21504, 22528, 23552, 24576, 25600, 26624, 27648, 28672, 29696, 30720, 31744],
  [32768, 65536, 98304, 131072, 163840, 196608, 229376, 262144, 294912, 327680, 360448, 393216, 425984, 458752, 491520, 524288, 557056, 589824, 622592, 655360, 688128, 720896, 753664, 786432, 819200, 851968, 884736, 917504, 950272, 983040, 1015808],
  [1048576, 2097152, 3145728, 4194304, 5242880, 6291456, 7340032, 8388608, 9437184, 10485760, 11534336, 12582912, 13631488, 14680064, 15728640, 16777216, 17825792, 18874368, 19922944, 20971520, 22020096, 23068672, 24117248, 25165824, 26214400, 27262976, 28311552, 29360128, 30408704, 31457280, 32505856],
  [31150781, 20087923, 15324878, 16058575, 19815026, 29854908, 1891841, 32117150, 3228451, 14194157, 17024848, 18815313, 12864492, 2989346, 32952223, 22061845, 9171368, 6432614, 28931547, 27634650, 8321383, 9908137, 21789972, 12235403, 23191606, 25704184, 5465157, 5225028, 26536185, 24985143, 10906762],
  [16695115, 32111542, 18302205, 22533733, 27879726, 12463571, 4231832, 4132330, 12694177, 30864988, 19417367, 23649167, 26633412, 8462393, 8363890, 6986708, 9708703, 25387106, 25026345, 20794801, 29618938, 13940231, 2754892, 5609022, 11217269, 29126024, 21156547, 16924763, 33357584, 15449069, 1377446],
  [2172665, 4344059, 6516226, 8664543, 10818342, 13008164, 15162333, 17329047, 19484014, 21635948, 23790997, 25976392, 28145841, 30283443, 32452682, 9762343, 11915486, 14073564, 16226341, 1098744, 3269889, 5409539, 7581178, 27041200, 29211465, 31380811, 33551282, 18393199, 20549270, 22732948, 24888941],
  [18242379, 12326838, 27938045, 23898725, 8057134, 30457299, 13035160, 6148586, 21727905, 14796380, 33004823, 20020111, 2564292, 26045497, 10172274, 11503572, 28957855, 1282146, 17156905, 29568433, 13989626, 25115143, 6906188, 15881790, 31722869, 5128584, 22551235, 27196507, 8955664, 19065837, 3453094],
  [4233413, 8466826, 12691791, 16933652, 21167057, 25383582, 29608539, 9725729, 13959140, 1398443, 5623406, 26608693, 30842096, 18298303, 22523258, 19427170, 23656359, 27877096, 32097837, 2755702, 6984883, 11222524, 15443257, 29100099, 33329286, 20789705, 25010444, 12479319, 16708498, 4152029, 8372760],
  [15077486, 30154972, 19542194, 18661777, 33214975, 13689165, 3600675, 12429067, 6010725, 24217559, 26711993, 27354778, 21460724, 7161414, 9131560, 24103734, 25811800, 10742762, 4586372, 7539367, 9771721, 29305467, 22624789, 30567485, 20216915, 1985761, 16276623, 13544876, 2670018, 16944496, 31759646],
  [15700216, 30122457, 19149089, 18072475, 33313635, 14180930, 3666618, 12002879, 5813959, 24938470, 26416926, 27583908, 21722460, 7292029, 8443013, 24004983, 25287055, 10873006, 4880470, 8227564, 9574932, 28715829, 22657997, 31027016, 20381616, 1232529, 16604777, 13282515, 2440235, 16846090, 32415218],
  [31425064, 20676976, 14943064, 15958729, 19661025, 29885369, 1540497, 31916210, 3703450, 14451138, 16974826, 18121339, 13303891, 3080971, 32538915, 22937933, 8487781, 6651965, 28967445, 28148612, 7471532, 9831156, 21594332, 12124671, 23495639, 25329807, 6095527, 4883254, 26542366, 24183366, 11436142],
  [6598131, 13196239, 11400764, 25597630, 31603533, 22007153, 19619970, 27076725, 33129862, 22311866, 19979849, 1818315, 8327992, 13821188, 11946231, 29282499, 31096112, 24611596, 18032383, 3688061, 6089614, 15801778, 9809985, 2357430, 4674885, 15377273, 9309834, 27618824, 29475835, 23868871, 17340468],
  [22164186, 3432637, 23482983, 6841683, 20600713, 6030830, 17708852, 12906127, 26664021, 15765042, 27442408, 11307996, 33470726, 10021729, 30071227, 25787454, 14372580, 29170819, 15674969, 31529325, 11742135, 30767568, 8866570, 21861041, 2072683, 24769036, 2867414, 19265506, 7849272, 17930079, 4433285],
  [3711536, 6668649, 6120281, 13313746, 15959266, 11462587, 9848203, 25348269, 28994205, 31918532, 31435764, 21622399, 24202319, 19672854, 18124070, 26555738, 28153706, 32568371, 29906435, 22942600, 23507384, 20697825, 17002705, 1572343, 3104711, 7486622, 4890286, 14474021, 14973205, 12130892, 8501372],
  [33394901, 25141635, 8532310, 8110854, 25580499, 17064581, 16380496, 14919468, 18757625, 27002543, 6395514, 9987114, 23459071, 31966633, 1725820, 29838200, 3857325, 12118779, 21330478, 29132926, 4266155, 12790269, 20887848, 19197012, 14253185, 5983703, 27712770, 23015250, 10665863, 2133713, 31268356]]
theorem xor_zero_eq {a b : Nat} (h : a ^^^ b = 0) : a = b := by
  have := congrArg (· ^^^ b) h
  simpa [Nat.xor_assoc] using this
def syn (j v : Nat) : Nat := F0 (v :: List.replicate j 0)
theorem tab_ok : ∀ j < 17, ∀ v < 31, syn (j + 1) (v + 1) >>> 5 = (hiRows.getD j []).getD v 0 := by decide +kernel
theorem tab_ne : ∀ j < 17, ∀ x ∈ hiRows.getD j [], x ≠ 0 := by decide +kernel
theorem tab_apart : ∀ j < 17, ∀ i < j, ∀ x ∈ hiRows.getD j [], ∀ y ∈ hiRows.getD i [], x ≠ y := by decide +kernel
theorem tab_len : ∀ j < 17, (hiRows.getD j []).length = 31 := by decide +kernel
theorem tab_mem {j v : Nat} (h1 : 1 ≤ j) (h2 : j ≤ 17) (h3 : 1 ≤ v) (h4 : v < 32) : syn j v >>> 5 ∈ hiRows.getD (j - 1) [] := by
  have h := tab_ok (j - 1) (by omega) (v - 1) (by omega)
  rw [show j - 1 + 1 = j by omega, show v - 1 + 1 = v by omega] at h
  have hl := tab_len (j - 1) (by omega)
  rw [h]
  generalize hiRows.getD (j - 1) [] = row at *
  rw [List.getD_eq_getElem?_getD, List.getElem?_eq_getElem (by omega)]
  exact List.getElem_mem _

def G (r : List Nat) : Nat := F0 (r ++ [0])
def wt (r : List Nat) : Nat := r.countP (· != 0)
theorem F0_cons {u : Nat} {r : List Nat} (hu : u < 32) (hr : ∀ v ∈ r, v < 32) : F0 (u :: r) = syn r.length u ^^^ F0 r := by
  have h0 : ∀ v ∈ u :: List.replicate r.length 0, v < 32 := by
    intro v hv
    rcases List.mem_cons.mp hv with rfl | hv
    · exact hu
    · rw [(List.mem_replicate.mp hv).2]; decide
  have h1 : ∀ v ∈ 0 :: r, v < 32 := by
    intro v hv
    rcases List.mem_cons.mp hv with rfl | hv
    · decide
    · exact hr v hv
  have h := fold_xor (u :: List.replicate r.length 0) (0 :: r) 0 0 (by simp) h0 h1 (by decide) (by decide)
  have e : List.zipWith (· ^^^ ·) (u :: List.replicate r.length 0) (0 :: r) = u :: r := by
    rw [List.zipWith_cons_cons, Nat.xor_zero]
    congr 1
    clear h h0 h1 hr
    induction r with
    | nil => rfl
    | cons a r ih => rw [List.length_cons, List.replicate_succ, List.zipWith_cons_cons, ih, Nat.zero_xor]
  rw [e] at h
  exact h
theorem G_cons {u : Nat} {r : List Nat} (hu : u < 32) (hr : ∀ v ∈ r, v < 32) : G (u :: r) = syn (r.length + 1) u ^^^ G r := by
  unfold G
  rw [List.cons_append, F0_cons hu (by
    intro v hv
    rcases List.mem_append.mp hv with hv | hv
    · exact hr v hv
    · simp at hv; omega)]
  rw [List.length_append]; rfl
theorem syn_zero (j : Nat) : syn j 0 = 0 := by
  unfold syn F0
  have : ∀ n, (List.replicate n 0).foldl pmStep 0 = 0 := by
    intro n
    induction n with
    | zero => rfl
    | succ n ih => rw [List.replicate_succ, List.foldl_cons, show pmStep 0 0 = 0 by decide, ih]
  have h := this (j + 1)
  rwa [List.replicate_succ] at h
theorem wt_cons (u : Nat) (r : List Nat) : wt (u :: r) = wt r + (if u = 0 then 0 else 1) := by
  unfold wt
  rw [List.countP_cons]
  by_cases h : u = 0 <;> simp [h]
theorem G_wt : ∀ (r : List Nat), (∀ v ∈ r, v < 32) →
    (wt r = 0 → G r = 0) ∧
    (wt r = 1 → ∃ j v, 1 ≤ j ∧ j ≤ r.length ∧ 1 ≤ v ∧ v < 32 ∧ G r = syn j v) ∧
    (wt r = 2 → ∃ j v i u, 1 ≤ i ∧ i < j ∧ j ≤ r.length ∧ 1 ≤ v ∧ v < 32 ∧ 1 ≤ u ∧ u < 32 ∧ G r = syn j v ^^^ syn i u)
  | [], _ => by
    have h0 : wt [] = 0 := rfl
    exact ⟨fun _ => by decide, fun h => by omega, fun h => by omega⟩
  | u :: r, hr => by
    have hu := hr u (.head _)
    have hr' : ∀ v ∈ r, v < 32 := fun v hv => hr v (.tail _ hv)
    obtain ⟨i0, i1, i2⟩ := G_wt r hr'
    rw [wt_cons, G_cons hu hr', List.length_cons]
    by_cases h : u = 0
    · subst h
      rw [if_pos rfl, Nat.add_zero, syn_zero, Nat.zero_xor]
      refine ⟨i0, fun h => ?_, fun h => ?_⟩
      · obtain ⟨j, v, a, b, c, d, e⟩ := i1 h
        exact ⟨j, v, a, by omega, c, d, e⟩
      · obtain ⟨j, v, i, w, a, b, c, d⟩ := i2 h
        exact ⟨j, v, i, w, a, b, by omega, d⟩
    · rw [if_neg h]
      refine ⟨fun h => by omega, fun h1 => ?_, fun h2 => ?_⟩
      · rw [i0 (by omega), Nat.xor_zero]
        exact ⟨r.length + 1, u, by omega, Nat.le_refl _, by omega, hu, rfl⟩
      · obtain ⟨j, v, a, b, c, d, e⟩ := i1 (by omega)
        exact ⟨r.length + 1, u, j, v, a, by omega, Nat.le_refl _, by omega, hu, c, d, by rw [e]⟩
theorem hi_ne {r : List Nat} (hr : ∀ v ∈ r, v < 32) (hl : r.length ≤ 17) (hw : wt r = 1 ∨ wt r = 2) : G r >>> 5 ≠ 0 := by
  obtain ⟨_, i1, i2⟩ := G_wt r hr
  rcases hw with h | h
  · obtain ⟨j, v, a, b, c, d, e⟩ := i1 h
    rw [e]
    exact tab_ne (j - 1) (by omega) _ (tab_mem a (by omega) c d)
  · obtain ⟨j, v, i, u, a, b, c, d, e, f, g, q⟩ := i2 h
    rw [q, Nat.shiftRight_xor_distrib]
    intro z
    have h1 := tab_mem (by omega : 1 ≤ j) (by omega) d e
    have h2 := tab_mem a (by omega : i ≤ 17) f g
    refine tab_apart (j - 1) (by omega) (i - 1) (by omega) _ h1 _ h2 ?_
    exact xor_zero_eq z
theorem step_inj0 {s : Nat} (hs : s < 2 ^ 30) (h : pmStep s 0 = 0) : s = 0 := by
  unfold pmStep at h
  rw [Nat.xor_zero] at h
  have h2 : (s &&& 33554431) <<< 5 = taps (s >>> 25) := xor_zero_eq h
  have h3 : s >>> 25 < 32 := by rw [Nat.shiftRight_eq_div_pow]; omega
  have h4 : ∀ t < 32, taps t % 32 = 0 → t = 0 := by decide +kernel
  have h5 : taps (s >>> 25) % 32 = 0 := by rw [← h2, Nat.shiftLeft_eq]; omega
  have h6 := h4 _ h3 h5
  have h7 : s &&& 33554431 = s := by
    have : s &&& (2 ^ 25 - 1) = s % 2 ^ 25 := Nat.and_two_pow_sub_one_eq_mod s 25
    rw [Nat.shiftRight_eq_div_pow] at h6
    rw [show (33554431 : Nat) = 2 ^ 25 - 1 by decide, this]; omega
  rw [h6, h7, show taps 0 = 0 by decide, Nat.shiftLeft_eq] at h2
  omega
theorem wt_app (r : List Nat) (v : Nat) : wt (r ++ [v]) = wt r + (if v = 0 then 0 else 1) := by
  unfold wt
  rw [List.countP_append]
  by_cases h : v = 0 <;> simp [h]
theorem F0_app (r : List Nat) (v : Nat) : F0 (r ++ [v]) = pmStep (F0 r) v := by
  unfold F0
  rw [List.foldl_append]; rfl
theorem dist : ∀ (n : Nat) (e : List Nat), e.length = n → n ≤ 18 → (∀ v ∈ e, v < 32) → 1 ≤ wt e → wt e ≤ 3 → F0 e ≠ 0
  | 0, e, hn, _, _, h1, _ => by
    have : e = [] := List.length_eq_zero_iff.mp hn
    subst this; cases h1
  | n + 1, e, hn, hl, he, h1, h3 => by
    rcases List.eq_nil_or_concat e with rfl | ⟨r, v, rfl⟩
    · cases hn
    · rw [List.concat_eq_append] at *
      have hrl : r.length = n := by simpa using hn
      have hr : ∀ v ∈ r, v < 32 := fun x hx => he x (List.mem_append_left _ hx)
      have hv : v < 32 := he v (List.mem_append_right _ (.head _))
      rw [wt_app] at h1 h3
      rw [F0_app]
      intro z
      by_cases h : v = 0
      · subst h
        rw [if_pos rfl] at h1 h3
        exact dist n r hrl (by omega) hr h1 h3 (step_inj0 (F0_lt hr) z)
      · rw [if_neg h] at h1 h3
        have e1 : pmStep (F0 r) v = G r ^^^ v := by
          unfold G
          rw [F0_app]
          unfold pmStep
          rw [Nat.xor_zero, Nat.xor_assoc, Nat.xor_comm v, ← Nat.xor_assoc]
        rw [e1] at z
        have z := xor_zero_eq z
        by_cases hw : wt r = 0
        · have := (G_wt r hr).1 hw
          omega
        · refine hi_ne hr (by omega) (by omega) ?_
          rw [z, Nat.shiftRight_eq_div_pow]; omega
end Mine

open PySem PySem.W PySem.Calls PyProof.Rows
set_option Elab.async false
set_option linter.unusedVariables false
set_option maxRecDepth 100000
set_option maxHeartbeats 4000000
namespace Mine
theorem decOut_of {x hd tl : List Nat} {m : Option Nat} {k : Nat} (e : decL x = some (hd, tl)) (hk : pickM m (tl.take (tl.length - 6)) = some k) :
    decOut x m = if pm (expand hd ++ tl) = k then .ok (okTup hd (tl.take (tl.length - 6))) else .exc 37 := by
  unfold decOut
  rw [e]
  dsimp only
  rw [hk]
  dsimp only
  rw [List.take_append_drop]; rfl
theorem decL_case {x : List Nat} (h1 : x.map lo1 ≠ x) (h2 : x.map up1 ≠ x) : decL x = none := by
  unfold decL
  split
  · rfl
  · split
    · rfl
    · split
      · rfl
      · split
        · rfl
        · split
          · rfl
          · rw [if_pos ⟨h1, h2⟩]
theorem map_id_of {l : List Nat} {g : Nat → Nat} (h : ∀ c ∈ l, g c = c) : l.map g = l := (List.map_congr_left h).trans (List.map_id _)

section
variable {hd tl : List Nat} (hh : ∀ c ∈ hd, c ∈ hdChars) (hne : hd ≠ []) (h6 : 6 ≤ tl.length) (htl : ∀ v ∈ tl, v < 32)
include hh hne h6 htl
theorem decL_text : decL (textOf hd tl) = some (hd, tl) := by
  have a1 : hd.map lo1 = hd := map_id_of fun c hc => (hdc_ne c (hh c hc)).2.2.1
  have a2 : (tl.map sign).map lo1 = tl.map sign := map_id_of fun c hc => by
    obtain ⟨v, hv, rfl⟩ := List.mem_map.mp hc
    exact (sign_ne v (htl v hv)).2.2.1
  refine decL_gen a1 a2 hne h6 htl ?_ ?_ ?_ (.inl ?_)
  · exact List.all_eq_true.mpr fun c hc => (hdc_ne c (hh c hc)).2.1
  · refine List.all_eq_true.mpr fun c hc => ?_
    obtain ⟨v, hv, rfl⟩ := List.mem_map.mp hc
    exact (sign_ne v (htl v hv)).2.1
  · intro c hc
    obtain ⟨v, hv, rfl⟩ := List.mem_map.mp hc
    exact (sign_ne v (htl v hv)).1
  · rw [List.map_append, List.map_append, a1, a2]; rfl
theorem decL_upper : decL ((textOf hd tl).map up1) = some (hd, tl) := by
  have e : (textOf hd tl).map up1 = hd.map up1 ++ [49] ++ (tl.map sign).map up1 := by
    unfold textOf
    rw [List.map_append, List.map_append]; rfl
  rw [e]
  have a1 : (hd.map up1).map lo1 = hd := by
    rw [List.map_map]
    exact map_id_of fun c hc => (hdc_ne c (hh c hc)).2.2.2.1
  have a2 : ((tl.map sign).map up1).map lo1 = tl.map sign := by
    rw [List.map_map]
    exact map_id_of fun c hc => by
      obtain ⟨v, hv, rfl⟩ := List.mem_map.mp hc
      exact (sign_ne v (htl v hv)).2.2.2.2.1
  refine decL_gen a1 a2 hne h6 htl ?_ ?_ ?_ (.inr ?_)
  · refine List.all_eq_true.mpr fun c hc => ?_
    obtain ⟨d, hd', rfl⟩ := List.mem_map.mp hc
    exact (hdc_ne d (hh d hd')).2.2.2.2.1
  · refine List.all_eq_true.mpr fun c hc => ?_
    obtain ⟨d, hd', rfl⟩ := List.mem_map.mp hc
    obtain ⟨v, hv, rfl⟩ := List.mem_map.mp hd'
    exact (sign_ne v (htl v hv)).2.2.2.2.2.1
  · intro c hc
    obtain ⟨d, hd', rfl⟩ := List.mem_map.mp hc
    obtain ⟨v, hv, rfl⟩ := List.mem_map.mp hd'
    exact (sign_ne v (htl v hv)).2.2.2.2.2.2.1
  · rw [List.map_append, List.map_append]
    congr 1
    · congr 1
      rw [List.map_map]
      exact List.map_congr_left fun c hc => (hdc_ne c (hh c hc)).2.2.2.2.2.2
    · rw [List.map_map]
      refine List.map_congr_left fun c hc => ?_
      obtain ⟨v, hv, rfl⟩ := List.mem_map.mp hc
      exact (sign_ne v (htl v hv)).2.2.2.2.2.2.2
end

/-! how many places are turned -/
theorem wt_set : ∀ (l m : List Nat) (j v : Nat), wt (List.zipWith (· ^^^ ·) l (m.set j v)) ≤ wt (List.zipWith (· ^^^ ·) l m) + 1
  | [], m, j, v => by simp [wt]
  | a :: l, [], j, v => by simp [wt]
  | a :: l, b :: m, 0, v => by
    rw [List.set_cons_zero, List.zipWith_cons_cons, List.zipWith_cons_cons, wt_cons, wt_cons]
    split <;> split <;> omega
  | a :: l, b :: m, j + 1, v => by
    rw [List.set_cons_succ, List.zipWith_cons_cons, List.zipWith_cons_cons, wt_cons, wt_cons]
    have := wt_set l m j v
    omega
theorem wt_self (l : List Nat) : wt (List.zipWith (· ^^^ ·) l l) = 0 := by
  induction l with
  | nil => rfl
  | cons a l ih => rw [List.zipWith_cons_cons, wt_cons, ih, Nat.xor_self]; rfl
theorem wt_turn (f : Nat) (tl : List Nat) : ∀ k, wt (List.zipWith (· ^^^ ·) tl (turnV f tl k)) ≤ k
  | 0 => by rw [turnV, wt_self]; exact Nat.le_refl _
  | k + 1 => by
    rw [turnV]
    have := wt_set tl (turnV f tl k) (placeOf f tl.length k) (newAt f tl k)
    have := wt_turn f tl k
    omega
theorem place_ne (f size : Nat) (hs : 6 ≤ size) {k : Nat} (hk : k = 1 ∨ k = 2) : placeOf f size k ≠ placeOf f size 0 := by
  unfold placeOf
  have hw : 2 ≤ (size - 2) / 2 := by omega
  have hw2 : 2 * ((size - 2) / 2) ≤ size - 2 := by omega
  generalize (size - 2) / 2 = w at *
  have m1 : f / 17 % w < w := Nat.mod_lt _ (by omega)
  have m2 : f / 19 % w < w := Nat.mod_lt _ (by omega)
  have key : ∀ x d : Nat, 0 < d → d < size → (x + d) % size ≠ (x + 0) % size := by
    intro x d h0 h1 h
    have e1 := Nat.div_add_mod (x + d) size
    have e2 := Nat.div_add_mod x size
    rw [Nat.add_zero] at h
    rw [h] at e1
    have : size * ((x + d) / size) = size * (x / size) + d := by omega
    have h3 : (x + d) / size = x / size ∨ (x + d) / size ≥ x / size + 1 := by
      have := Nat.div_le_div_right (c := size) (Nat.le_add_right x d)
      omega
    rcases h3 with h3 | h3
    · rw [h3] at this; omega
    · have := Nat.mul_le_mul_left size h3
      rw [Nat.mul_add] at this
      omega
  rcases hk with rfl | rfl
  · exact key _ _ (by show 0 < 1 + f / 17 % w; omega) (by show 1 + f / 17 % w < size; omega)
  · exact key _ _ (by show 0 < 2 + f / 17 % w + f / 19 % w; omega) (by show 2 + f / 17 % w + f / 19 % w < size; omega)
theorem turn_at0 (f : Nat) {tl : List Nat} (h6 : 6 ≤ tl.length) : ∀ k, k < 3 → (turnV f tl (k + 1))[placeOf f tl.length 0]? = some (newAt f tl 0)
  | 0, _ => by
    rw [turnV, List.getElem?_set_self (by rw [turn_len]; exact Nat.mod_lt _ (by omega))]
  | k + 1, hk => by
    rw [turnV, List.getElem?_set_ne (place_ne f tl.length h6 (by omega))]
    exact turn_at0 f h6 k (by omega)
theorem turn_wt1 (f : Nat) {tl : List Nat} (h6 : 6 ≤ tl.length) (htl : ∀ v ∈ tl, v < 32) {k : Nat} (hk : k < 3) : 1 ≤ wt (List.zipWith (· ^^^ ·) tl (turnV f tl (k + 1))) := by
  have hp : placeOf f tl.length 0 < tl.length := Nat.mod_lt _ (by omega)
  have h1 := turn_at0 f h6 k hk
  have h2 : tl[placeOf f tl.length 0]? = some (tl.getD (placeOf f tl.length 0) 0) := by
    rw [List.getD_eq_getElem?_getD, List.getElem?_eq_getElem hp]; rfl
  have hlt := htl _ (List.mem_of_getElem? h2)
  have h3 : (List.zipWith (· ^^^ ·) tl (turnV f tl (k + 1)))[placeOf f tl.length 0]? = some (tl.getD (placeOf f tl.length 0) 0 ^^^ newAt f tl 0) := by
    rw [List.getElem?_zipWith, h1, h2]
  have hne : tl.getD (placeOf f tl.length 0) 0 ^^^ newAt f tl 0 ≠ 0 := by
    intro z
    have z := xor_zero_eq z
    unfold newAt at z
    generalize tl.getD (placeOf f tl.length 0) 0 = x at *
    omega
  unfold wt
  refine List.countP_pos_iff.mpr ⟨_, List.mem_of_getElem? h3, ?_⟩
  simpa using hne

theorem plain_of {hd data : List Nat} (f : Nat) (hh : ∀ c ∈ hd, c ∈ hdChars) (hne : hd ≠ []) (hd2 : ∀ v ∈ data, v < 32) (hd1 : data.length ≤ 12) : Plain hd data f := by
  have hasc : ∀ c ∈ hd, c < 128 := fun c hc => by
    have h : ∀ c ∈ hdChars, c < 128 := by decide
    exact h c (hh c hc)
  have hX : ∀ v ∈ expand hd, v < 32 := expand_lt hasc
  have hXd : ∀ v ∈ expand hd ++ data, v < 32 := fun v hv => (List.mem_append.mp hv).elim (hX v) (hd2 v)
  have hpm : ∀ c, c < 2 ^ 30 → pm (expand hd ++ tailL hd data c) = c := fun c hc => by
    unfold tailL
    rw [← List.append_assoc]
    exact pm_ck hXd hc
  have h6 : ∀ c, 6 ≤ (tailL hd data c).length := fun c => by rw [tail_len]; omega
  have hlt : ∀ c, ∀ v ∈ tailL hd data c, v < 32 := fun c => tail_lt c hd2
  have htk : ∀ c, (tailL hd data c).take ((tailL hd data c).length - 6) = data := fun c => by
    rw [tail_len, Nat.add_sub_cancel]
    unfold tailL
    exact List.take_left' rfl
  have hc30 : ∀ c, c = 1 ∨ c = 734539939 → c < 2 ^ 30 := fun c h => by rcases h with rfl | rfl <;> decide
  have dT := fun c => decL_text hh hne (h6 c) (hlt c)
  have dU := fun c => decL_upper hh hne (h6 c) (hlt c)
  refine ⟨fun c hc => ?_, fun c hc => ?_, fun c hc => ?_, fun c hc k hk => ?_, fun c hc q1 q2 => ?_, fun a r hdat => ?_, fun hdat => ?_⟩
  · rw [lawL_text, decOut_of (dT c) (k := c) rfl, if_pos (hpm c (hc30 c hc)), htk]
  · unfold toldRes
    rw [lawL_text, decOut_of (dU c) (k := c) rfl, if_pos (hpm c (hc30 c hc)), htk]
  · unfold toldRes
    rw [lawL_text, decOut_of (dT c) (k := 735 - c % 735) rfl, if_neg]
    rw [hpm c (hc30 c hc)]
    rcases hc with rfl | rfl <;> decide
  · have hl := turn_len f (tailL hd data c) (k + 1)
    have hlt' := turn_lt (f := f) (hlt c) (k + 1)
    unfold toldRes
    rw [decOut_of (decL_text hh hne (by rw [hl]; exact h6 c) hlt') (k := c) rfl, if_neg]
    have hdiff := pm_diff (X := expand hd) (vs := tailL hd data c) (us := turnV f (tailL hd data c) (k + 1)) hX hl.symm (hlt c) hlt'
    rw [hdiff, hpm c (hc30 c hc)]
    intro z
    have z0 : F0 (List.zipWith (· ^^^ ·) (tailL hd data c) (turnV f (tailL hd data c) (k + 1))) = 0 := by
      have := congrArg (c ^^^ ·) z
      simpa [← Nat.xor_assoc] using this
    refine dist _ _ rfl ?_ (zip_xor_lt (hlt c) hlt') (turn_wt1 f (h6 c) (hlt c) hk) (Nat.le_trans (wt_turn f _ _) (by omega)) z0
    rw [List.length_zipWith, hl, Nat.min_self, tail_len]; omega
  · have e1 : (lawL hd data c).drop hd.length = [49] ++ (tailL hd data c).map sign := by
      rw [lawL_text]; unfold textOf
      rw [List.append_assoc]; exact List.drop_left' rfl
    have e2 : (lawL hd data c).drop (hd.length + 1) = (tailL hd data c).map sign := by
      rw [lawL_text]; unfold textOf
      exact List.drop_left' (by simp)
    rw [e2] at q2
    rw [e1]
    have a1 : (hd.map up1).map lo1 = hd := by
      rw [List.map_map]
      exact map_id_of fun c hc => (hdc_ne c (hh c hc)).2.2.2.1
    have hn : decL (hd.map up1 ++ ([49] ++ (tailL hd data c).map sign)) = none := by
      refine decL_case (fun z => ?_) (fun z => ?_)
      · rw [List.map_append, a1] at z
        have := (List.append_inj z (by rw [List.length_map])).1
        exact q1 this.symm
      · rw [List.map_append, List.map_append] at z
        have := (List.append_inj z (by simp)).2
        exact q2 (List.append_inj this rfl).2
    unfold toldRes decOut
    rw [hn]
  · have hk : pickM none ((tailL hd data (if a = 0 then 1 else 734539939)).take ((tailL hd data (if a = 0 then 1 else 734539939)).length - 6)) = some (if a = 0 then 1 else 734539939) := by
      rw [htk, hdat]; rfl
    rw [lawL_text, decOut_of (dT _) hk, if_pos (hpm _ (by split <;> decide)), htk]
  · subst hdat
    unfold toldRes decOut
    rw [lawL_text, dT 1]
    dsimp only
    rw [htk]
    rfl
theorem plain_all (sc : List Int) : Plain (hdOf (firstOf sc)) (dataOf sc) (firstOf sc) := by
  refine plain_of _ (fun c hc => ?_) ?_ ?_ ?_
  · unfold hdOf at hc
    obtain ⟨k, _, rfl⟩ := List.mem_map.mp hc
    have h : (firstOf sc / 7 + 5 * k) % 6 < 6 := Nat.mod_lt _ (by decide)
    rw [List.getD_eq_getElem?_getD, List.getElem?_eq_getElem (by exact h)]
    exact List.getElem_mem _
  · intro q
    have := congrArg List.length q
    unfold hdOf at this
    simp at this
  · intro v hv
    unfold dataOf at hv
    obtain ⟨k, _, rfl⟩ := List.mem_map.mp hv
    omega
  · unfold dataOf; rw [List.length_map, List.length_take]; omega
end Mine

set_option maxRecDepth 100000
set_option maxHeartbeats 8000000
theorem PySem.Challenge.cw_ez0008_01_holds : PySem.Challenge.rw_ez0008_01.Holds := by
  w_on
  o_law
  o_head (kmHook Mine.hd.heap_39 [2, 3, 15, 22, 23, 24, 25, 28, 35, 36, 37, 40, 47, 48, 49, 52, 54, 55, 57, 58, 59, 61, 62, 64, 65, 66, 67, 69,
          71, 72, 74, 75, 76, 78, 79, 81, 82, 83, 86, 87, 88, 91, 92, 93, 95, 96, 98, 99, 100, 102, 103, 105, 106, 107,
          110, 111, 112, 113, 115, 116, 118, 119, 120, 121, 123, 124, 126, 127, 128, 130, 131, 133, 134, 135, 138, 139,
          140, 142, 143, 145, 146, 147, 149, 150, 152, 153, 154, 157, 158] (fun _ => by kernel_rfl) [70, 122])
  (case hw => w_witness2)
  w_strict (
    intro w s₀ s₁ mg mb G Y fa o pm cd doc dV kV ho hd hcd hD hmg hg args vals as hpre hlay hrd hwl hlo
    have KX := km_in_of Y
    have TT := km_tabs_of Y
    have X := (Ground.X G).1
    have V := (Ground.X G).2
    refine Ground.open G ?_
    intro T B D TE TW
    try (refine guard_noD D (by decide +kernel) ?_; clear D)
    obtain ⟨bm, ob, M⟩ := bmod_of_top T
    have TA := at_of_top T
    try (obtain ⟨cdA, cdP, he, B0⟩ := based_of_top T rfl hmg ho hd; have he' : cd = _ := he; subst he'; clear he)
    clear hmg
    wrow_args hpre hlay hrd hwl hlo
    first | refine callC_kw (enter_call ?_) | refine enter_call ?_ | refine callC_kw (enter_callW ?_) | refine enter_callW ?_
    w_top on
    have K0 := below_caller (Top.heap T)
    w_call any ho hd hcd hD T F
    clear hd TA
    k_drop
    rename Fr _ _ _ _ => F1
    rename News _ _ _ _ => N0
    rename Heap.IsList _ _ _ => hL
    rename IntsAre _ _ => hI
    rename ¬ _ < _ => hlen
    have hcellI := (N0 _ (.head _)).1
    rename Obj.data _ = Data.cell _ => hwd
    refine wpAny_mono (Mine.run_law (Mine.plain_all _) (by rfl) rfl ⟨rfl, rfl, rfl⟩ rfl rfl rfl rfl KX TT hg T.g T.b T.builtins M T.nolimit F1 (by rfl) (by rfl) hL hI (by simpa using hlen) ?_ ?_) (fun f s' q => ?_) (fun _ _ q => q.elim)
    · intro n c e
      have e : List.lookup n [(Str.ofString "first", s₁.heap.objs.size + 1)] = some c := e
      have hm := Mine.mem2 e
      simp only [List.mem_cons, Prod.mk.injEq, List.not_mem_nil, or_false] at hm
      obtain ⟨_, rfl⟩ := hm
      exact ⟨Nat.lt_succ_self _, _, _, hcellI, hwd⟩
    · intro n n' c e e'
      have e : List.lookup n [(Str.ofString "first", s₁.heap.objs.size + 1)] = some c := e
      have e' : List.lookup n' [(Str.ofString "first", s₁.heap.objs.size + 1)] = some c := e'
      have hm := Mine.mem2 e
      have hm' := Mine.mem2 e'
      simp only [List.mem_cons, Prod.mk.injEq, List.not_mem_nil, or_false] at hm hm'
      rw [hm.1, hm'.1]
    · obtain ⟨rfl, q⟩ := q
      refine ⟨.inl ⟨.bool true, .bool true, [], rfl, raisesW_false ?_, .bool true, ?_, unshared_nil⟩, Mine.oldK_of KX TT q.grow, q.os, q.gens (AllBare.of_eq hg)⟩
      · wrow_none_raised
      · wrow_post)
