import PyProof.Rows.All
import Wide.All
import OpenK.AllK
import Wide.FinOn
import Lean
import PySem.Challenge.RW_bj0059_01
open PySem PySem.W PyProof.Rows
set_option Elab.async false
set_option linter.unusedVariables false
set_option linter.unusedSimpArgs false
namespace Mine

/-- the frozen part of a heap: objects that nobody changes any more -/
abbrev Fz := Addr → Option Obj
def Fz.le (H H' : Fz) : Prop := ∀ a o, H a = some o → H' a = some o
theorem Fz.le_refl (H : Fz) : Fz.le H H := fun _ _ e => e
theorem Fz.le_trans {H H' H'' : Fz} (x : Fz.le H H') (y : Fz.le H' H'') : Fz.le H H'' := fun a o e => y a o (x a o e)

inductive PV where
  | none
  | bool (b : Bool)
  | int (i : Int)
  | str (s : Str)
  | list (xs : List PV)
  | tup (xs : List PV)
  | range (a b : Int)
  | ref (a : Addr)

def isDat (o : Obj) : Bool := match o.data with
  | .dict .. => false
  | .cell .. => false
  | _ => true
/-- what a value may stand for: no frame, no cell, no iterator -/
def isVal (o : Obj) : Bool := isDat o && (o.cls == .type "list" || o.cls == .type "tuple" || o.cls == .type "range")

def LstO (o : Obj) (vs : List Value) : Prop := ∃ n, o = { cls := .type "list", dict := none, data := .seq vs.toArray n, slots := #[] }
def TupO (o : Obj) (vs : List Value) : Prop := o.cls = .type "tuple" ∧ ∃ n, o.data = .seq vs.toArray n
def RngO (o : Obj) (a b : Int) : Prop := ∃ t u v, o = { cls := .type "range", dict := none, data := .fields #[.int a t, .int b u, .int 1 v], slots := #[] }

theorem LstO.isVal {o : Obj} {vs : List Value} (h : LstO o vs) : isVal o = true := by
  obtain ⟨n, e⟩ := h; rw [e]; exact (by decide : (Value.type "list" == Value.type "list" || Value.type "list" == Value.type "tuple" || Value.type "list" == Value.type "range") = true)
theorem TupO.isVal {o : Obj} {vs : List Value} (h : TupO o vs) : isVal o = true := by
  obtain ⟨c, n, e⟩ := h; unfold Mine.isVal isDat; rw [e, c]; exact (by decide : (Value.type "tuple" == Value.type "list" || Value.type "tuple" == Value.type "tuple" || Value.type "tuple" == Value.type "range") = true)
theorem RngO.isVal {o : Obj} {a b : Int} (h : RngO o a b) : isVal o = true := by
  obtain ⟨_, _, _, e⟩ := h; rw [e]; exact (by decide : (Value.type "range" == Value.type "list" || Value.type "range" == Value.type "tuple" || Value.type "range" == Value.type "range") = true)

mutual
def Rep (H : Fz) : PV → Value → Prop
  | .none, v => v = .none
  | .bool b, v => v = .bool b
  | .int i, v => ∃ t, v = .int i t
  | .str s, v => ∃ t, v = .str s t
  | .list xs, v => ∃ a o vs, v = .ref a ∧ H a = some o ∧ LstO o vs ∧ RepL H xs vs
  | .tup xs, v => ∃ a o vs, v = .ref a ∧ H a = some o ∧ TupO o vs ∧ RepL H xs vs
  | .range x y, v => ∃ a o, v = .ref a ∧ H a = some o ∧ RngO o x y
  | .ref a, v => v = .ref a
def RepL (H : Fz) : List PV → List Value → Prop
  | [], vs => vs = []
  | x :: xs, vs => ∃ v vs', vs = v :: vs' ∧ Rep H x v ∧ RepL H xs vs'
end

mutual
theorem Rep.monoV {H H' : Fz} (k : ∀ a o, H a = some o → isVal o = true → H' a = some o) : ∀ {p : PV} {v : Value}, Rep H p v → Rep H' p v
  | .none, _, h => h
  | .bool _, _, h => h
  | .int _, _, h => h
  | .str _, _, h => h
  | .list xs, _, h => by
    unfold Rep at h ⊢
    obtain ⟨a, o, vs, e, ho, hl, hr⟩ := h
    exact ⟨a, o, vs, e, k a o ho hl.isVal, hl, RepL.monoV k hr⟩
  | .tup xs, _, h => by
    unfold Rep at h ⊢
    obtain ⟨a, o, vs, e, ho, hl, hr⟩ := h
    exact ⟨a, o, vs, e, k a o ho hl.isVal, hl, RepL.monoV k hr⟩
  | .range x y, _, h => by
    unfold Rep at h ⊢
    obtain ⟨a, o, e, ho, hl⟩ := h
    exact ⟨a, o, e, k a o ho hl.isVal, hl⟩
  | .ref _, _, h => h
theorem RepL.monoV {H H' : Fz} (k : ∀ a o, H a = some o → isVal o = true → H' a = some o) : ∀ {ps : List PV} {vs : List Value}, RepL H ps vs → RepL H' ps vs
  | [], _, h => h
  | p :: ps, vs, h => by
    unfold RepL at h ⊢
    obtain ⟨v, vs', e, h1, h2⟩ := h
    exact ⟨v, vs', e, Rep.monoV k h1, RepL.monoV k h2⟩
end
theorem Rep.mono {H H' : Fz} (k : Fz.le H H') {p : PV} {v : Value} (h : Rep H p v) : Rep H' p v := h.monoV fun a o e _ => k a o e
theorem RepL.mono {H H' : Fz} (k : Fz.le H H') {p : List PV} {v : List Value} (h : RepL H p v) : RepL H' p v := h.monoV fun a o e _ => k a o e

theorem RepL.length {H : Fz} : ∀ {ps : List PV} {vs : List Value}, RepL H ps vs → vs.length = ps.length
  | [], vs, h => by unfold RepL at h; subst h; rfl
  | p :: ps, vs, h => by
    unfold RepL at h
    obtain ⟨v, vs', e, _, h2⟩ := h
    subst e; simp [RepL.length h2]
theorem RepL.get {H : Fz} : ∀ {ps : List PV} {vs : List Value} {i : Nat} {p : PV}, RepL H ps vs → ps[i]? = some p → ∃ v, vs[i]? = some v ∧ Rep H p v
  | [], _, i, p, _, e => by simp at e
  | q :: ps, vs, i, p, h, e => by
    unfold RepL at h
    obtain ⟨v, vs', e', h1, h2⟩ := h
    subst e'
    cases i with
    | zero => simp at e; subst e; exact ⟨v, by simp, h1⟩
    | succ i => simp at e ⊢; exact RepL.get h2 e
theorem RepL.append {H : Fz} : ∀ {ps qs : List PV} {vs ws : List Value}, RepL H ps vs → RepL H qs ws → RepL H (ps ++ qs) (vs ++ ws)
  | [], qs, vs, ws, h, k => by unfold RepL at h; subst h; exact k
  | p :: ps, qs, vs, ws, h, k => by
    unfold RepL at h
    obtain ⟨v, vs', e, h1, h2⟩ := h
    subst e
    show RepL H (p :: (ps ++ qs)) (v :: (vs' ++ ws))
    unfold RepL
    exact ⟨v, vs' ++ ws, rfl, h1, h2.append k⟩
theorem RepL.take {H : Fz} : ∀ {ps : List PV} {vs : List Value} (n : Nat), RepL H ps vs → RepL H (ps.take n) (vs.take n)
  | _, vs, 0, _ => by simp [RepL]
  | [], vs, n + 1, h => by unfold RepL at h; subst h; simp [RepL]
  | p :: ps, vs, n + 1, h => by
    unfold RepL at h
    obtain ⟨v, vs', e, h1, h2⟩ := h
    subst e
    show RepL H (p :: ps.take n) (v :: vs'.take n)
    unfold RepL
    exact ⟨v, _, rfl, h1, RepL.take n h2⟩
theorem RepL.drop {H : Fz} : ∀ {ps : List PV} {vs : List Value} (n : Nat), RepL H ps vs → RepL H (ps.drop n) (vs.drop n)
  | _, vs, 0, h => by simpa using h
  | [], vs, n + 1, h => by unfold RepL at h; subst h; simp [RepL]
  | p :: ps, vs, n + 1, h => by
    unfold RepL at h
    obtain ⟨v, vs', e, h1, h2⟩ := h
    subst e
    simpa using RepL.drop n h2
theorem RepL.set {H : Fz} : ∀ {ps : List PV} {vs : List Value} (n : Nat) {p : PV} {v : Value}, RepL H ps vs → Rep H p v → RepL H (ps.set n p) (vs.set n v)
  | [], vs, n, _, _, h, _ => by unfold RepL at h; subst h; simp [RepL]
  | q :: ps, vs, 0, p, v, h, hp => by
    unfold RepL at h
    obtain ⟨u, vs', e, h1, h2⟩ := h
    subst e
    show RepL H (p :: ps) (v :: vs')
    unfold RepL
    exact ⟨v, vs', rfl, hp, h2⟩
  | q :: ps, vs, n + 1, p, v, h, hp => by
    unfold RepL at h
    obtain ⟨u, vs', e, h1, h2⟩ := h
    subst e
    show RepL H (q :: ps.set n p) (u :: vs'.set n v)
    unfold RepL
    exact ⟨u, _, rfl, h1, RepL.set n h2 hp⟩
theorem RepL.nil {H : Fz} : RepL H [] [] := by simp [RepL]
theorem RepL.cons {H : Fz} {p : PV} {ps : List PV} {v : Value} {vs : List Value} (h : Rep H p v) (k : RepL H ps vs) : RepL H (p :: ps) (v :: vs) := by
  unfold RepL; exact ⟨v, vs, rfl, h, k⟩
theorem RepL.snoc {H : Fz} {p : PV} {ps : List PV} {v : Value} {vs : List Value} (k : RepL H ps vs) (h : Rep H p v) : RepL H (ps ++ [p]) (vs ++ [v]) := k.append (.cons h .nil)

/-- what a mutable object holds -/
inductive MV where
  | list (xs : List PV)
  | rit (x left : Int)
  | obj (o : Obj)
abbrev Mu := Addr → Option MV
def MRep (H : Fz) (h : Heap) (a : Addr) : MV → Prop
  | .list xs => ∃ vs : List Value, h.IsList a vs.toArray ∧ RepL H xs vs
  | .rit x l => IsRangeIter h a x l 1
  | .obj o => h.get? a = some o ∧ isDat o = true

theorem MRep.mono {H H' : Fz} {h h' : Heap} {a : Addr} {v : MV} (x : MRep H h a v) (k : Fz.le H H') (e : ∀ o, h.get? a = some o → h'.get? a = some o) : MRep H' h' a v := by
  cases v with
  | list xs => obtain ⟨vs, ⟨o, h1, r⟩, h2⟩ := x; exact ⟨vs, ⟨o, e _ h1, r⟩, h2.mono k⟩
  | rit y l => exact e _ x
  | obj o => exact ⟨e _ x.1, x.2⟩
theorem MRep.val {H : Fz} {h : Heap} {a : Addr} {v : MV} (x : MRep H h a v) : ∃ o, h.get? a = some o ∧ isDat o = true := by
  cases v with
  | list xs => obtain ⟨vs, ⟨o, h1, _, n, hd⟩, h2⟩ := x; exact ⟨_, h1, by unfold isDat; rw [hd]⟩
  | rit y l => exact ⟨_, x, rfl⟩
  | obj o => exact ⟨o, x⟩

structure G where
  prog : Program
  w : World
  B : Heap
  p : Program
  loose : List Str
  mg : Str → Option Value
  mb : Str → Option Value
  os : OsState
  T : TopRead p loose mg mb B

abbrev G.M (g : G) : Model := model g.prog g.w

structure St (g : G) (mu : Mu) (H : Fz) (s : Shared) : Prop where
  sub : ∀ a o, H a = some o → s.heap.get? a = some o
  base : ∀ a o, g.B.get? a = some o → H a = some o
  mus : ∀ a v, mu a = some v → H a = none ∧ MRep H s.heap a v
  os : s.os = g.os
  gens : AllBare s.gens

abbrev Sto := Str → Option PV
def Sto.set (σ : Sto) (x : Str) (p : PV) : Sto := fun y => if y = x then some p else σ y

structure Fra (env : Env) (σ : Sto) (H : Fz) (h : Heap) : Prop where
  ns : ∃ m, h.Ns env.locals m ∧ ∀ x p, env.kindOf x = some .local → σ x = some p → ∃ v, m x = some v ∧ Rep H p v
  cells : ∀ x c, env.cells.lookup x = some c → ∃ vo, h.IsCell c vo ∧ ∀ p, env.kindOf x ≠ some .local → σ x = some p → ∃ v, vo = some v ∧ Rep H p v
  offL : H env.locals = none
  offC : ∀ x c, env.cells.lookup x = some c → H c = none ∧ c ≠ env.locals
  apart : ∀ x y c, env.cells.lookup x = some c → env.cells.lookup y = some c → x = y

structure Inv (g : G) (env : Env) (σ : Sto) (mu : Mu) (H : Fz) (s : Shared) : Prop where
  st : St g mu H s
  fr : Fra env σ H s.heap

theorem isVal.dat {o : Obj} (h : isVal o = true) : isDat o = true := (Bool.and_eq_true_iff.mp h).1
theorem ns_notVal {h : Heap} {a : Addr} {m : Str → Option Value} (x : h.Ns a m) {o : Obj} (e : h.get? a = some o) : isDat o = false := by
  obtain ⟨o', es, ep, ho, hd, _⟩ := x
  rw [e] at ho; cases ho
  unfold isDat; rw [hd]
theorem cell_notVal {h : Heap} {a : Addr} {v : Option Value} (x : h.IsCell a v) {o : Obj} (e : h.get? a = some o) : isDat o = false := by
  obtain ⟨o', ho, hd⟩ := x
  rw [e] at ho; cases ho
  unfold isDat; rw [hd]

theorem Inv.muL {g env σ mu H s} (I : Inv g env σ mu H s) : mu env.locals = none := by
  cases e : mu env.locals with
  | none => rfl
  | some v =>
    obtain ⟨o, ho, hv⟩ := (I.st.mus _ _ e).2.val
    obtain ⟨m, hn, _⟩ := I.fr.ns
    rw [ns_notVal hn ho] at hv; cases hv
theorem Inv.muC {g env σ mu H s} (I : Inv g env σ mu H s) {x : Str} {c : Addr} (hc : env.cells.lookup x = some c) : mu c = none := by
  cases e : mu c with
  | none => rfl
  | some v =>
    obtain ⟨o, ho, hv⟩ := (I.st.mus _ _ e).2.val
    obtain ⟨vo, hn, _⟩ := I.fr.cells x c hc
    rw [cell_notVal hn ho] at hv; cases hv

/-- everything that exists is kept -/
abbrev Kp (h h' : Heap) : Prop := ∀ b o, h.get? b = some o → h'.get? b = some o

theorem St.keeps {g mu H s} (S : St g mu H s) {h' : Heap} (k : Kp s.heap h') (tk : Nat) : St g mu H { s with heap := h', toks := tk } :=
  ⟨fun a o e => k a o (S.sub a o e), S.base, fun a v e => ⟨(S.mus a v e).1, (S.mus a v e).2.mono (Fz.le_refl H) fun o e' => k a o e'⟩, S.os, S.gens⟩
theorem Fra.keeps {env σ H h h'} (F : Fra env σ H h) (k : Kp h h') : Fra env σ H h' where
  ns := let ⟨m, hn, r⟩ := F.ns; ⟨m, hn.keeps k, r⟩
  cells := fun x c hc => let ⟨vo, hn, r⟩ := F.cells x c hc; ⟨vo, hn.keeps k, r⟩
  offL := F.offL
  offC := F.offC
  apart := F.apart
theorem Inv.keeps {g env σ mu H s} (I : Inv g env σ mu H s) {h' : Heap} (k : Kp s.heap h') (tk : Nat) : Inv g env σ mu H { s with heap := h', toks := tk } :=
  ⟨I.st.keeps k tk, I.fr.keeps k⟩
theorem Inv.tok {g env σ mu H s} (I : Inv g env σ mu H s) (tk : Nat) : Inv g env σ mu H { s with toks := tk } := I.keeps (fun _ _ e => e) tk
theorem St.tok {g mu H s} (I : St g mu H s) (tk : Nat) : St g mu H { s with toks := tk } := I.keeps (fun _ _ e => e) tk

def Fz.add (H : Fz) (a : Addr) (o : Obj) : Fz := fun b => if b = a then some o else H b
theorem Fz.le_add {H : Fz} {a : Addr} {o : Obj} (h : H a = none) : Fz.le H (H.add a o) := fun b o' e => by
  unfold Fz.add
  by_cases hb : b = a
  · subst hb; rw [h] at e; cases e
  · rw [if_neg hb]; exact e
theorem Fz.add_self (H : Fz) (a : Addr) (o : Obj) : H.add a o a = some o := by simp [Fz.add]

theorem St.none_of_size {g mu H s} (S : St g mu H s) {a : Addr} (ha : s.heap.objs.size ≤ a) : H a = none := by
  cases e : H a with
  | none => rfl
  | some o => exact absurd (Heap.lt_size (S.sub a o e)) (Nat.not_lt.mpr ha)
theorem St.mu_none_of_size {g mu H s} (S : St g mu H s) {a : Addr} (ha : s.heap.objs.size ≤ a) : mu a = none := by
  cases e : mu a with
  | none => rfl
  | some v =>
    obtain ⟨o, ho, _⟩ := (S.mus a v e).2.val
    exact absurd (Heap.lt_size ho) (Nat.not_lt.mpr ha)

/-- freeze one more object -/
theorem St.add {g mu H s} (S : St g mu H s) {a : Addr} {o : Obj} (e : s.heap.get? a = some o) (hH : H a = none) (hm : mu a = none) : St g mu (H.add a o) s where
  sub := fun b o' e' => by
    unfold Fz.add at e'
    by_cases hb : b = a
    · subst hb; rw [if_pos rfl] at e'; cases e'; exact e
    · rw [if_neg hb] at e'; exact S.sub b o' e'
  base := fun b o' e' => Fz.le_add hH b o' (S.base b o' e')
  mus := fun b v e' => by
    have hb : b ≠ a := by rintro rfl; rw [hm] at e'; cases e'
    refine ⟨?_, (S.mus b v e').2.mono (Fz.le_add hH) fun _ x => x⟩
    unfold Fz.add; rw [if_neg hb]; exact (S.mus b v e').1
  os := S.os
  gens := S.gens

/-- a new object, frozen at once -/
theorem St.push {g mu H s} (S : St g mu H s) (o : Obj) (hf : o.isFreed = false) (tk : Nat) : St g mu (H.add s.heap.objs.size o) { s with heap := s.heap.push o, toks := tk } :=
  (S.keeps (h' := s.heap.push o) (fun _ _ e => Heap.get?_push_of_some _ e) tk).add (Heap.get?_push_size _ hf) (S.none_of_size (Nat.le_refl _)) (S.mu_none_of_size (Nat.le_refl _))

theorem Fra.add {env σ H h a o} (F : Fra env σ H h) (hH : H a = none) (hL : a ≠ env.locals) (hC : ∀ x c, env.cells.lookup x = some c → c ≠ a) : Fra env σ (H.add a o) h where
  ns := let ⟨m, hn, r⟩ := F.ns; ⟨m, hn, fun x p h1 h2 => let ⟨v, h3, h4⟩ := r x p h1 h2; ⟨v, h3, h4.mono (Fz.le_add hH)⟩⟩
  cells := fun x c hc => let ⟨vo, hn, r⟩ := F.cells x c hc; ⟨vo, hn, fun p h1 h2 => let ⟨v, h3, h4⟩ := r p h1 h2; ⟨v, h3, h4.mono (Fz.le_add hH)⟩⟩
  offL := by unfold Fz.add; rw [if_neg (Ne.symm hL)]; exact F.offL
  offC := fun x c hc => ⟨by unfold Fz.add; rw [if_neg (hC x c hc)]; exact (F.offC x c hc).1, (F.offC x c hc).2⟩
  apart := F.apart

/-- all that is not held as mutable, as frozen -/
def topF (mu : Mu) (h : Heap) : Fz := fun a => if (mu a).isSome then none else h.get? a
theorem St.le_top {g mu H s} (S : St g mu H s) : Fz.le H (topF mu s.heap) := fun a o e => by
  unfold topF
  cases hm : mu a with
  | none => simpa using S.sub a o e
  | some v => rw [(S.mus a v hm).1] at e; cases e
theorem St.top {g mu H s} (S : St g mu H s) : St g mu (topF mu s.heap) s where
  sub := fun a o e => by
    unfold topF at e
    cases hm : mu a with
    | none => simpa [hm] using e
    | some v => simp [hm] at e
  base := fun a o e => S.le_top a o (S.base a o e)
  mus := fun a v e => ⟨by unfold topF; simp [e], (S.mus a v e).2.mono S.le_top fun _ x => x⟩
  os := S.os
  gens := S.gens

/-- what a run leaves: a greater frozen part, the mutable ones, a value -/
def Post (g : G) (H : Fz) (Q : PV → Mu → Prop) (v : Value) (s' : Shared) : Prop := ∃ H' mu' p, Fz.le H H' ∧ St g mu' H' s' ∧ Rep H' p v ∧ Q p mu'
def RunV (g : G) (A : Around) (mu : Mu) (H : Fz) (t : Sem Value) (Q : PV → Mu → Prop) : Prop :=
  ∀ s, St g mu H s → wpAny g.M A t (Post g H Q) (fun _ _ => False) s

def IPost (g : G) (env : Env) (σ : Sto) (H : Fz) (Q : PV → Mu → Prop) (v : Value) (s' : Shared) : Prop := ∃ H' mu' p, Fz.le H H' ∧ Inv g env σ mu' H' s' ∧ Rep H' p v ∧ Q p mu'

open Classical in
/-- take frames away from a frozen part -/
noncomputable def offFc (env : Env) (H : Fz) : Fz := fun a => if a = env.locals ∨ ∃ x, env.cells.lookup x = some a then none else H a

theorem Inv.back {g env σ mu H s} (I : Inv g env σ mu H s) {H' : Fz} {mu' : Mu} {s' : Shared} (le : Fz.le (topF mu s.heap) H') (S : St g mu' H' s') :
    ∃ H'', Fz.le H H'' ∧ Inv g env σ mu' H'' s' ∧ (∀ p v, Rep H' p v → Rep H'' p v) := by
  classical
  have kL : ∀ o, s.heap.get? env.locals = some o → s'.heap.get? env.locals = some o := fun o e => S.sub _ _ (le _ _ (by unfold topF; rw [I.muL]; simpa using e))
  have kC : ∀ x c, env.cells.lookup x = some c → ∀ o, s.heap.get? c = some o → s'.heap.get? c = some o := fun x c hc o e => S.sub _ _ (le _ _ (by unfold topF; rw [I.muC hc]; simpa using e))
  have kH : Fz.le H H' := Fz.le_trans I.st.le_top le
  have hval : ∀ a o, H' a = some o → isVal o = true → offFc env H' a = some o := fun a o e hv => by
    unfold offFc
    have : ¬ (a = env.locals ∨ ∃ x, env.cells.lookup x = some a) := by
      rintro (rfl | ⟨x, hx⟩)
      · obtain ⟨m, hn, _⟩ := I.fr.ns
        obtain ⟨oL, _, _, hL, _⟩ := id hn
        have := S.sub _ _ e
        rw [kL _ hL] at this; cases this
        have hv := isVal.dat hv
        rw [ns_notVal hn hL] at hv; cases hv
      · obtain ⟨vo, hn, _⟩ := I.fr.cells x a hx
        obtain ⟨oL, hL, _⟩ := id hn
        have := S.sub _ _ e
        rw [kC x a hx _ hL] at this; cases this
        have hv := isVal.dat hv
        rw [cell_notVal hn hL] at hv; cases hv
    rw [if_neg this]; exact e
  have hle : Fz.le H (offFc env H') := fun a o e => by
    unfold offFc
    have : ¬ (a = env.locals ∨ ∃ x, env.cells.lookup x = some a) := by
      rintro (rfl | ⟨x, hx⟩)
      · rw [I.fr.offL] at e; cases e
      · rw [(I.fr.offC x a hx).1] at e; cases e
    rw [if_neg this]; exact kH a o e
  refine ⟨offFc env H', hle, ⟨⟨fun a o e => ?_, fun a o e => hle a o (I.st.base a o e), fun a v e => ?_, S.os, S.gens⟩, ?_⟩, fun p v h => h.monoV hval⟩
  · unfold offFc at e
    split at e
    · cases e
    · exact S.sub a o e
  · obtain ⟨h1, h2⟩ := S.mus a v e
    refine ⟨by unfold offFc; split; · rfl
               · exact h1, ?_⟩
    cases v with
    | list xs => obtain ⟨vs, h3, h4⟩ := h2; exact ⟨vs, h3, h4.monoV hval⟩
    | rit y l => exact h2
    | obj o => exact h2
  · refine ⟨?_, ?_, ?_, ?_, I.fr.apart⟩
    · obtain ⟨m, hn, r⟩ := I.fr.ns
      exact ⟨m, hn.at' fun o e => kL o e, fun x p h1 h2 => let ⟨v, h3, h4⟩ := r x p h1 h2; ⟨v, h3, h4.mono hle⟩⟩
    · intro x c hc
      obtain ⟨vo, ⟨o, ho, hd⟩, r⟩ := I.fr.cells x c hc
      exact ⟨vo, ⟨o, kC x c hc o ho, hd⟩, fun p h1 h2 => let ⟨v, h3, h4⟩ := r p h1 h2; ⟨v, h3, h4.mono hle⟩⟩
    · unfold offFc; simp
    · intro x c hc
      refine ⟨?_, (I.fr.offC x c hc).2⟩
      unfold offFc; rw [if_pos (Or.inr ⟨x, hc⟩)]

theorem Inv.run {g env σ mu H s A t Q} (I : Inv g env σ mu H s) (h : ∀ H', Fz.le H H' → RunV g A mu H' t Q) :
    wpAny g.M A t (IPost g env σ H Q) (fun _ _ => False) s := by
  refine wpAny_mono (h _ I.st.le_top s I.st.top) (fun v s' hp => ?_) fun _ _ f => f
  obtain ⟨H', mu', p, hle, hS, hR, hQ⟩ := hp
  obtain ⟨H'', h1, h2, h3⟩ := I.back hle hS
  exact ⟨H'', mu', p, h1, h2, h3 _ _ hR, hQ⟩

end Mine
namespace Mine

def Sto.upd := @Sto.set
theorem Sto.set_self {σ : Sto} {x p} : (σ.set x p) x = some p := by simp [Sto.set]
theorem Sto.set_ne {σ : Sto} {x y p} (h : x ≠ y) : (σ.set y p) x = σ x := by simp [Sto.set, h]
theorem Sto.set_eq {σ : Sto} {x y p} : (σ.set y p) x = if x = y then some p else σ x := rfl

abbrev NoE : Value → Shared → Prop := fun _ _ => False

/-- an expression, in an environment -/
def EV (g : G) (A : Around) (env : Env) (σ : Sto) (mu : Mu) (e : Expr) (Q : PV → Mu → Prop) : Prop :=
  ∀ H s, Inv g env σ mu H s → wpAny g.M A (eval e env) (IPost g env σ H Q) NoE s
def BPost (g : G) (env : Env) (σ : Sto) (H : Fz) (Q : Bool → Mu → Prop) (b : Bool) (s' : Shared) : Prop := ∃ H' mu', Fz.le H H' ∧ Inv g env σ mu' H' s' ∧ Q b mu'
/-- a test -/
def TR (g : G) (A : Around) (env : Env) (σ : Sto) (mu : Mu) (e : Expr) (Q : Bool → Mu → Prop) : Prop :=
  ∀ H s, Inv g env σ mu H s → wpAny g.M A (isTrue e env (eval e env)) (BPost g env σ H Q) NoE s
def ALT (g : G) (A : Around) (env : Env) (σ : Sto) (mu : Mu) (op : BoolOp) (es : List Expr) (Q : Bool → Mu → Prop) : Prop :=
  ∀ H s, Inv g env σ mu H s → wpAny g.M A (allTrue op es env) (BPost g env σ H Q) NoE s
def LPost (g : G) (env : Env) (σ : Sto) (H : Fz) (Q : List PV → Mu → Prop) (vs : List Value) (s' : Shared) : Prop := ∃ H' mu' ps, Fz.le H H' ∧ Inv g env σ mu' H' s' ∧ RepL H' ps vs ∧ Q ps mu'
/-- arguments -/
def EVL (g : G) (A : Around) (env : Env) (σ : Sto) (mu : Mu) (pos : Pos) (es : List Expr) (Q : List PV → Mu → Prop) : Prop :=
  ∀ H s, Inv g env σ mu H s → wpAny g.M A (spliced (backTo pos (starEach es env))) (LPost g env σ H Q) NoE s

def BIN (g : G) (A : Around) (op : Operator) (mu : Mu) (p q : PV) (Q : PV → Mu → Prop) : Prop :=
  ∀ H a b, Rep H p a → Rep H q b → RunV g A mu H (binaryOp op a b) Q
def INP (g : G) (A : Around) (op : Operator) (mu : Mu) (p q : PV) (Q : PV → Mu → Prop) : Prop :=
  ∀ H a b, Rep H p a → Rep H q b → RunV g A mu H (inplaceOp op a b) Q
def CMP (g : G) (A : Around) (op : CmpOp) (mu : Mu) (p q : PV) (Q : PV → Mu → Prop) : Prop :=
  ∀ H a b, Rep H p a → Rep H q b → RunV g A mu H (compareOp op a b) Q

section
variable {g : G} {A : Around} {env : Env} {σ : Sto} {mu : Mu}

theorem IPost.mono {H H' : Fz} {Q Q' : PV → Mu → Prop} {v s} (h : IPost g env σ H' Q v s) (k : Fz.le H H') (hQ : ∀ p m, Q p m → Q' p m) : IPost g env σ H Q' v s :=
  let ⟨H'', mu', p, h1, h2, h3, h4⟩ := h; ⟨H'', mu', p, Fz.le_trans k h1, h2, h3, hQ _ _ h4⟩
theorem BPost.mono {H H' : Fz} {Q Q' : Bool → Mu → Prop} {v s} (h : BPost g env σ H' Q v s) (k : Fz.le H H') (hQ : ∀ p m, Q p m → Q' p m) : BPost g env σ H Q' v s :=
  let ⟨H'', mu', h1, h2, h4⟩ := h; ⟨H'', mu', Fz.le_trans k h1, h2, hQ _ _ h4⟩
theorem LPost.mono {H H' : Fz} {Q Q' : List PV → Mu → Prop} {v s} (h : LPost g env σ H' Q v s) (k : Fz.le H H') (hQ : ∀ p m, Q p m → Q' p m) : LPost g env σ H Q' v s :=
  let ⟨H'', mu', p, h1, h2, h3, h4⟩ := h; ⟨H'', mu', p, Fz.le_trans k h1, h2, h3, hQ _ _ h4⟩
theorem EV.mono {e Q Q'} (h : EV g A env σ mu e Q) (hQ : ∀ p m, Q p m → Q' p m) : EV g A env σ mu e Q' := fun H s I =>
  wpAny_mono (h H s I) (fun _ _ x => x.mono (Fz.le_refl _) hQ) fun _ _ x => x
theorem TR.mono {e Q Q'} (h : TR g A env σ mu e Q) (hQ : ∀ p m, Q p m → Q' p m) : TR g A env σ mu e Q' := fun H s I =>
  wpAny_mono (h H s I) (fun _ _ x => x.mono (Fz.le_refl _) hQ) fun _ _ x => x
theorem ALT.mono {op e Q Q'} (h : ALT g A env σ mu op e Q) (hQ : ∀ p m, Q p m → Q' p m) : ALT g A env σ mu op e Q' := fun H s I =>
  wpAny_mono (h H s I) (fun _ _ x => x.mono (Fz.le_refl _) hQ) fun _ _ x => x
theorem EVL.mono {pos e Q Q'} (h : EVL g A env σ mu pos e Q) (hQ : ∀ p m, Q p m → Q' p m) : EVL g A env σ mu pos e Q' := fun H s I =>
  wpAny_mono (h H s I) (fun _ _ x => x.mono (Fz.le_refl _) hQ) fun _ _ x => x

/-- a run, in an environment, its values kept -/
theorem Inv.step {H s t Q} {Q' : PV → Mu → Prop} {H₀ : Fz} (I : Inv g env σ mu H s) (k : Fz.le H₀ H) (h : ∀ H', Fz.le H H' → RunV g A mu H' t Q) (hQ : ∀ p m, Q p m → Q' p m) :
    wpAny g.M A t (IPost g env σ H₀ Q') NoE s :=
  wpAny_mono (I.run h) (fun _ _ x => IPost.mono x k hQ) fun _ _ x => x

theorem EV.c_int {i k pos Q} (h : Q (.int i) mu) : EV g A env σ mu (.Constant (.int i) k pos) Q := fun H s I =>
  wpAny_Constant_int ⟨H, mu, .int i, Fz.le_refl _, I.tok _, ⟨_, rfl⟩, h⟩
theorem EV.c_bool {b k pos Q} (h : Q (.bool b) mu) : EV g A env σ mu (.Constant (.bool b) k pos) Q := fun H _ I =>
  wpAny_pure ⟨H, mu, .bool b, Fz.le_refl _, I, rfl, h⟩
theorem EV.c_none {k pos Q} (h : Q .none mu) : EV g A env σ mu (.Constant .none k pos) Q := fun H _ I =>
  wpAny_pure ⟨H, mu, .none, Fz.le_refl _, I, rfl, h⟩
theorem EV.c_str {x k pos Q} (h : Q (.str x) mu) : EV g A env σ mu (.Constant (.str x) k pos) Q := fun H s I =>
  Calls.Constant_str ⟨H, mu, .str x, Fz.le_refl _, I.tok _, ⟨_, rfl⟩, h⟩

theorem EV.name_local {x pos p Q} (hk : env.scope.kind = .function) (hl : env.kindOf x = some .local) (hd : (x == ("__debug__" : Str)) = false) (hσ : σ x = some p) (h : Q p mu) :
    EV g A env σ mu (.Name x pos) Q := fun H s I => by
  obtain ⟨m, hn, r⟩ := I.fr.ns
  obtain ⟨v, hv, hr⟩ := r x p hl hσ
  exact wpAny_Name (wpAny_loadName_local hk hl hn hv ⟨H, mu, p, Fz.le_refl _, I, hr, h⟩) hd
theorem EV.name_cell {x pos p c Q} (hk : env.scope.kind = .function) (hl : env.kindOf x = some .cell) (hd : (x == ("__debug__" : Str)) = false) (hc : env.cells.lookup x = some c) (hσ : σ x = some p) (h : Q p mu) :
    EV g A env σ mu (.Name x pos) Q := fun H s I => by
  obtain ⟨vo, hn, r⟩ := I.fr.cells x c hc
  obtain ⟨v, rfl, hr⟩ := r p (by rw [hl]; decide) hσ
  exact wpAny_Name (wpAny_loadName_cell hk hl hc hn ⟨H, mu, p, Fz.le_refl _, I, hr, h⟩) hd
theorem EV.name_free {x pos p c Q} (hk : env.scope.kind = .function) (hl : env.kindOf x = some .free) (hd : (x == ("__debug__" : Str)) = false) (hc : env.cells.lookup x = some c) (hcd : (x == ("__classdict__" : Str)) = false)
    (hσ : σ x = some p) (h : Q p mu) : EV g A env σ mu (.Name x pos) Q := fun H s I => by
  obtain ⟨vo, hn, r⟩ := I.fr.cells x c hc
  obtain ⟨v, rfl, hr⟩ := r p (by rw [hl]; decide) hσ
  exact wpAny_Name (wpAny_loadName_free hk hl hc hn ⟨H, mu, p, Fz.le_refl _, I, hr, h⟩ hcd) hd

theorem EV.binop {l op r pos Q} (h : EV g A env σ mu l (fun p m => EV g A env σ m r (fun q m' => BIN g A op m' p q Q))) : EV g A env σ mu (.BinOp l op r pos) Q := fun H s I => by
  refine wpAny_BinOp (wpAny_mono (h H s I) (fun a s₁ h₁ => ?_) fun _ _ x => x)
  obtain ⟨H1, m1, p, l1, I1, R1, h1⟩ := h₁
  refine wpAny_mono (h1 H1 s₁ I1) (fun b s₂ h₂ => ?_) fun _ _ x => x
  obtain ⟨H2, m2, q, l2, I2, R2, h2⟩ := h₂
  exact I2.step (Fz.le_trans l1 l2) (fun H' l3 => h2 H' a b (R1.mono (Fz.le_trans l2 l3)) (R2.mono l3)) fun _ _ x => x

theorem EV.cmp {l op r pos Q} (hm : behindInMarks op r = false) (h : EV g A env σ mu l (fun p m => EV g A env σ m r (fun q m' => CMP g A op m' p q Q))) : EV g A env σ mu (.Compare l [op] [r] pos) Q := fun H s I => by
  refine wpAny_Compare1 (hm := hm) (wpAny_mono (h H s I) (fun a s₁ h₁ => ?_) fun _ _ x => x)
  obtain ⟨H1, m1, p, l1, I1, R1, h1⟩ := h₁
  refine wpAny_mono (h1 H1 s₁ I1) (fun b s₂ h₂ => ?_) fun _ _ x => x
  obtain ⟨H2, m2, q, l2, I2, R2, h2⟩ := h₂
  exact I2.step (Fz.le_trans l1 l2) (fun H' l3 => h2 H' a b (R1.mono (Fz.le_trans l2 l3)) (R2.mono l3)) fun _ _ x => x

theorem truthB {H₀ : Fz} {Q : Bool → Mu → Prop} {c s} (x : IPost g env σ H₀ (fun p m => ∃ b, p = .bool b ∧ Q b m) c s) : wpAny g.M A (truthy c) (BPost g env σ H₀ Q) NoE s := by
  obtain ⟨H', m', p, l, I, R, b, rfl, hQ⟩ := x
  have : c = .bool b := R
  subst this
  exact wpAny_truthy_bool ⟨H', m', l, I, hQ⟩

theorem TR.cmp {l op r pos Q} (hm : behindInMarks op r = false) (h : EV g A env σ mu l (fun p m => EV g A env σ m r (fun q m' => CMP g A op m' p q (fun c m'' => ∃ b, c = .bool b ∧ Q b m'')))) :
    TR g A env σ mu (.Compare l [op] [r] pos) Q := fun H s I => by
  refine wpAny_isTrue_Compare1 (hm := hm) (wpAny_mono (h H s I) (fun a s₁ h₁ => ?_) fun _ _ x => x)
  obtain ⟨H1, m1, p, l1, I1, R1, h1⟩ := h₁
  refine wpAny_mono (h1 H1 s₁ I1) (fun b s₂ h₂ => ?_) fun _ _ x => x
  obtain ⟨H2, m2, q, l2, I2, R2, h2⟩ := h₂
  exact wpAny_mono (I2.step (Fz.le_trans l1 l2) (fun H' l3 => h2 H' a b (R1.mono (Fz.le_trans l2 l3)) (R2.mono l3)) fun _ _ x => x) (fun c s₃ h₃ => truthB h₃) fun _ _ x => x

theorem TR.of {e Q} (hw : ∀ whole, isTrue e env whole = (do let v ← whole; standAt e.pos; holding [v] (truthy v))) (h : EV g A env σ mu e (fun p m => ∃ b, p = .bool b ∧ Q b m)) : TR g A env σ mu e Q := fun H s I => by
  rw [hw]
  exact wpAny_bind (wpAny_mono (h H s I) (fun v s₁ h₁ => wpAny_bind (wpAny_standAt (wpAny_holding (truthB h₁)))) fun _ _ x => x)
theorem TR.not {x pos Q} (h : TR g A env σ mu x (fun b m => Q (!b) m)) : TR g A env σ mu (.UnaryOp .Not x pos) Q := fun H s I => by
  rw [arm_isTrue_UnaryOp]
  exact wpAny_bind (wpAny_mono (h H s I) (fun b s₁ h₁ => wpAny_pure h₁) fun _ _ x => x)
theorem TR.boolop {op es pos Q} (h : ALT g A env σ mu op es Q) : TR g A env σ mu (.BoolOp op es pos) Q := fun H s I => by
  rw [arm_isTrue_BoolOp]; exact h H s I
theorem ALT.nil {op Q} (h : Q (op == .And) mu) : ALT g A env σ mu op [] Q := fun H _ I => by
  rw [arm_allTrue_nil]; exact wpAny_pure ⟨H, mu, Fz.le_refl _, I, h⟩
theorem ALT.and {x rest Q} (h : TR g A env σ mu x (fun b m => if b then ALT g A env σ m .And rest Q else Q false m)) : ALT g A env σ mu .And (x :: rest) Q := fun H s I => by
  rw [arm_allTrue_cons]
  refine wpAny_bind (wpAny_mono (h H s I) (fun b s₁ h₁ => ?_) fun _ _ x => x)
  obtain ⟨H', m', l, I', hQ⟩ := h₁
  cases b with
  | false => exact wpAny_pure ⟨H', m', l, I', hQ⟩
  | true => exact wpAny_mono (hQ H' s₁ I') (fun _ _ y => BPost.mono y l fun _ _ z => z) fun _ _ x => x
theorem ALT.or {x rest Q} (h : TR g A env σ mu x (fun b m => if b then Q true m else ALT g A env σ m .Or rest Q)) : ALT g A env σ mu .Or (x :: rest) Q := fun H s I => by
  rw [arm_allTrue_cons]
  refine wpAny_bind (wpAny_mono (h H s I) (fun b s₁ h₁ => ?_) fun _ _ x => x)
  obtain ⟨H', m', l, I', hQ⟩ := h₁
  cases b with
  | true => exact wpAny_pure ⟨H', m', l, I', hQ⟩
  | false => exact wpAny_mono (hQ H' s₁ I') (fun _ _ y => BPost.mono y l fun _ _ z => z) fun _ _ x => x

/-- tests without an effect: joined, not forked -/
def PT (g : G) (A : Around) (env : Env) (σ : Sto) (mu : Mu) (e : Expr) (b : Bool) : Prop := TR g A env σ mu e (fun c m => c = b ∧ m = mu)
def PALT (g : G) (A : Around) (env : Env) (σ : Sto) (mu : Mu) (op : BoolOp) (es : List Expr) (b : Bool) : Prop := ALT g A env σ mu op es (fun c m => c = b ∧ m = mu)
theorem PT.use {e b Q} (h : PT g A env σ mu e b) (hQ : Q b mu) : TR g A env σ mu e Q := TR.mono h (by rintro _ _ ⟨rfl, rfl⟩; exact hQ)
theorem PT.not {x pos b} (h : PT g A env σ mu x b) : PT g A env σ mu (.UnaryOp .Not x pos) (!b) := TR.not (TR.mono h (by rintro _ _ ⟨rfl, rfl⟩; exact ⟨rfl, rfl⟩))
theorem PT.boolop {op es pos b} (h : PALT g A env σ mu op es b) : PT g A env σ mu (.BoolOp op es pos) b := TR.boolop h
theorem PALT.nil_and : PALT g A env σ mu .And [] true := ALT.nil ⟨rfl, rfl⟩
theorem PALT.nil_or : PALT g A env σ mu .Or [] false := ALT.nil ⟨rfl, rfl⟩
theorem PALT.and {x rest b c} (h : PT g A env σ mu x b) (k : PALT g A env σ mu .And rest c) : PALT g A env σ mu .And (x :: rest) (b && c) :=
  ALT.and (TR.mono h (by rintro b0 _ ⟨rfl, rfl⟩; cases b0; · exact ⟨rfl, rfl⟩
                         · exact k))
theorem PALT.or {x rest b c} (h : PT g A env σ mu x b) (k : PALT g A env σ mu .Or rest c) : PALT g A env σ mu .Or (x :: rest) (b || c) :=
  ALT.or (TR.mono h (by rintro b0 _ ⟨rfl, rfl⟩; cases b0; · exact k
                        · exact ⟨rfl, rfl⟩))

theorem EV.ifexp {test body orelse pos Q} (h : TR g A env σ mu test (fun b m => if b then EV g A env σ m body Q else EV g A env σ m orelse Q)) : EV g A env σ mu (.IfExp test body orelse pos) Q := fun H s I => by
  rw [arm_eval_IfExp]
  refine wpAny_bind (wpAny_mono (h H s I) (fun b s₁ h₁ => ?_) fun _ _ x => x)
  obtain ⟨H', m', l, I', hQ⟩ := h₁
  cases b with
  | true => exact wpAny_mono (hQ H' s₁ I') (fun _ _ y => IPost.mono y l fun _ _ z => z) fun _ _ x => x
  | false => exact wpAny_mono (hQ H' s₁ I') (fun _ _ y => IPost.mono y l fun _ _ z => z) fun _ _ x => x

theorem EVL.nil {pos Q} (h : Q [] mu) : EVL g A env σ mu pos [] Q := fun H _ I => Calls.spliced_nil ⟨H, mu, [], Fz.le_refl _, I, .nil, h⟩
theorem EVL.cons {pos e rest Q} (h : EV g A env σ mu e (fun p m => EVL g A env σ m pos rest (fun ps m' => Q (p :: ps) m')))
    (hs : starEach (e :: rest) env = (false, eval e env) :: starEach rest env := by rfl) : EVL g A env σ mu pos (e :: rest) Q := fun H s I => by
  rw [hs]
  refine Calls.spliced_cons (wpAny_mono (h H s I) (fun v s₁ h₁ => ?_) fun _ _ x => x)
  obtain ⟨H1, m1, p, l1, I1, R1, h1⟩ := h₁
  refine wpAny_mono (h1 H1 s₁ I1) (fun vs s₂ h₂ => ?_) fun _ _ x => x
  obtain ⟨H2, m2, ps, l2, I2, R2, h2⟩ := h₂
  exact ⟨H2, m2, p :: ps, Fz.le_trans l1 l2, I2, .cons (R1.mono l2) R2, h2⟩

/-- a new list, frozen; or a new one that is to change -/
theorem St.new {mu H s} (S : St g mu H s) {o : Obj} (hf : o.isFreed = false) (tk : Nat) : Fz.le H (H.add s.heap.objs.size o) ∧ St g mu (H.add s.heap.objs.size o) { s with heap := s.heap.push o, toks := tk } :=
  ⟨Fz.le_add (S.none_of_size (Nat.le_refl _)), S.push o hf tk⟩
def Mu.set (mu : Mu) (a : Addr) (v : MV) : Mu := fun b => if b = a then some v else mu b
theorem Mu.set_self {mu : Mu} {a v} : mu.set a v a = some v := by simp [Mu.set]
theorem Mu.set_ne {mu : Mu} {a b v} (h : b ≠ a) : mu.set a v b = mu b := by simp [Mu.set, h]
theorem Mu.set_set {mu : Mu} {a v w} : (mu.set a v).set a w = mu.set a w := by funext b; unfold Mu.set; split <;> rfl
theorem St.newMut {mu H s} (S : St g mu H s) {o : Obj} {v : MV} (hf : o.isFreed = false) (tk : Nat) (hR : MRep H (s.heap.push o) s.heap.objs.size v) : mu s.heap.objs.size = .none ∧ St g (mu.set s.heap.objs.size v) H { s with heap := s.heap.push o, toks := tk } := by
  have hm := S.mu_none_of_size (Nat.le_refl s.heap.objs.size)
  have hH := S.none_of_size (Nat.le_refl s.heap.objs.size)
  have S' := S.keeps (h' := s.heap.push o) (fun _ _ e => Heap.get?_push_of_some _ e) tk
  refine ⟨hm, S'.sub, S'.base, fun a w e => ?_, S'.os, S'.gens⟩
  by_cases ha : a = s.heap.objs.size
  · subst ha; rw [Mu.set_self] at e; cases e; exact ⟨hH, hR⟩
  · rw [Mu.set_ne ha] at e; exact S'.mus a w e

def listOb (vs : List Value) : Obj := { cls := .type "list", data := .seq vs.toArray }
def tupOb (vs : List Value) : Obj := { cls := .type "tuple", data := .seq vs.toArray }
theorem listOb_LstO (vs : List Value) : LstO (listOb vs) vs := ⟨_, rfl⟩
theorem tupOb_TupO (vs : List Value) : TupO (tupOb vs) vs := ⟨rfl, _, rfl⟩

theorem post_list {H s ps vs Q} (S : St g mu H s) (R : RepL H ps vs) (tk : Nat) (h : Q (.list ps) mu) : Post g H Q (.ref s.heap.objs.size) { s with heap := s.heap.push (listOb vs), toks := tk } :=
  ⟨_, mu, .list ps, (S.new rfl tk).1, (S.new rfl tk).2, by unfold Rep; exact ⟨_, _, vs, rfl, Fz.add_self _ _ _, listOb_LstO vs, R.mono (S.new (o := listOb vs) rfl tk).1⟩, h⟩
theorem post_listM {H s ps vs Q} (S : St g mu H s) (R : RepL H ps vs) (tk : Nat) (h : ∀ a, mu a = .none → Q (.ref a) (mu.set a (.list ps))) : Post g H Q (.ref s.heap.objs.size) { s with heap := s.heap.push (listOb vs), toks := tk } := by
  obtain ⟨h1, h2⟩ := S.newMut (o := listOb vs) (v := .list ps) rfl tk ⟨vs, ⟨_, Heap.get?_push_size _ rfl, rfl, _, rfl⟩, R⟩
  exact ⟨_, _, .ref s.heap.objs.size, Fz.le_refl _, h2, rfl, h _ h1⟩
theorem post_tup {H s ps vs Q} (S : St g mu H s) (R : RepL H ps vs) (tk : Nat) (h : Q (.tup ps) mu) : Post g H Q (.ref s.heap.objs.size) { s with heap := s.heap.push (tupOb vs), toks := tk } :=
  ⟨_, mu, .tup ps, (S.new rfl tk).1, (S.new rfl tk).2, by unfold Rep; exact ⟨_, _, vs, rfl, Fz.add_self _ _ _, tupOb_TupO vs, R.mono (S.new (o := tupOb vs) rfl tk).1⟩, h⟩

def SEQ (g : G) (A : Around) (f : List Value → Sem Value) (mu : Mu) (ps : List PV) (Q : PV → Mu → Prop) : Prop := ∀ H vs, RepL H ps vs → RunV g A mu H (f vs) Q
theorem SEQ.list {ps Q} (h : Q (.list ps) mu) (hz : ps.length ≤ sizeLine) : SEQ g A newList mu ps Q := fun H vs R s S =>
  wpAny_newObj_type (post_list S R _ h) (by show vs.toArray.size ≤ sizeLine; rw [List.size_toArray, R.length]; exact hz)
theorem SEQ.listM {ps Q} (h : ∀ a, mu a = .none → Q (.ref a) (mu.set a (.list ps))) (hz : ps.length ≤ sizeLine) : SEQ g A newList mu ps Q := fun H vs R s S =>
  wpAny_newObj_type (post_listM S R _ h) (by show vs.toArray.size ≤ sizeLine; rw [List.size_toArray, R.length]; exact hz)
theorem SEQ.tup {ps Q} (h : Q (.tup ps) mu) (hz : ps.length ≤ sizeLine) : SEQ g A newTuple mu ps Q := fun H vs R s S =>
  wpAny_newObj_type (post_tup S R _ h) (by show vs.toArray.size ≤ sizeLine; rw [List.size_toArray, R.length]; exact hz)
theorem EV.list {elts pos Q} (h : EVL g A env σ mu pos elts (fun ps m => SEQ g A newList m ps Q)) : EV g A env σ mu (.List elts pos) Q := fun H s I => by
  refine List_ (wpAny_mono (h H s I) (fun vs s₁ h₁ => ?_) fun _ _ x => x)
  obtain ⟨H1, m1, ps, l1, I1, R1, h1⟩ := h₁
  exact I1.step l1 (fun H' l2 => h1 H' vs (R1.mono l2)) fun _ _ x => x
theorem EV.tuple {elts k pos Q} (h : EVL g A env σ mu pos elts (fun ps m => SEQ g A newTuple m ps Q)) : EV g A env σ mu (.Tuple elts k pos) Q := fun H s I => by
  refine Tuple_ (wpAny_mono (h H s I) (fun vs s₁ h₁ => ?_) fun _ _ x => x)
  obtain ⟨H1, m1, ps, l1, I1, R1, h1⟩ := h₁
  exact I1.step l1 (fun H' l2 => h1 H' vs (R1.mono l2)) fun _ _ x => x

-- ints
theorem runV_pure {H t Q} {p : PV} (h : ∀ s, (∀ v tk, Rep H p v → Post g H Q v { s with toks := tk }) → wpAny g.M A t (Post g H Q) NoE s) (hQ : Q p mu) : RunV g A mu H t Q := fun s S =>
  h s fun _ tk R => ⟨H, mu, p, Fz.le_refl _, S.tok tk, R, hQ⟩


theorem BIN.add {i j Q} (h : Q (.int (i + j)) mu) : BIN g A .Add mu (.int i) (.int j) Q := fun H a b ⟨_, ha⟩ ⟨_, hb⟩ => by
  subst ha; subst hb; exact runV_pure (p := .int (i + j)) (fun s k => wpAny_add_int (k _ _ ⟨_, rfl⟩)) h
theorem INP.add {i j Q} (h : Q (.int (i + j)) mu) : INP g A .Add mu (.int i) (.int j) Q := fun H a b ⟨_, ha⟩ ⟨_, hb⟩ => by
  subst ha; subst hb; exact runV_pure (p := .int (i + j)) (fun s k => wpAny_iadd_int (k _ _ ⟨_, rfl⟩)) h
theorem BIN.sub {i j Q} (h : Q (.int (i - j)) mu) : BIN g A .Sub mu (.int i) (.int j) Q := fun H a b ⟨_, ha⟩ ⟨_, hb⟩ => by
  subst ha; subst hb; exact runV_pure (p := .int (i - j)) (fun s k => PyProof.Rows.sub_int (k _ _ ⟨_, rfl⟩)) h
theorem BIN.mul {i j Q} (hm : IntMulOk i j) (h : Q (.int (i * j)) mu) : BIN g A .Mult mu (.int i) (.int j) Q := fun H a b ⟨_, ha⟩ ⟨_, hb⟩ => by
  subst ha; subst hb; exact runV_pure (p := .int (i * j)) (fun s k => PyProof.Rows.mul_int (k _ _ ⟨_, rfl⟩) hm) h
theorem BIN.mod {i j Q} (hj : j ≠ 0) (h : Q (.int (i.fmod j)) mu) : BIN g A .Mod mu (.int i) (.int j) Q := fun H a b ⟨_, ha⟩ ⟨_, hb⟩ => by
  subst ha; subst hb; exact runV_pure (p := .int (i.fmod j)) (fun s k => PyProof.Rows.mod_int hj (k _ _ ⟨_, rfl⟩)) h
theorem BIN.div {i j Q} (hj : j ≠ 0) (hp : Builtin.divisionGoesByPylong i j = false) (h : Q (.int (i.fdiv j)) mu) : BIN g A .FloorDiv mu (.int i) (.int j) Q := fun H a b ⟨_, ha⟩ ⟨_, hb⟩ => by
  subst ha; subst hb; exact runV_pure (p := .int (i.fdiv j)) (fun s k => PyProof.Rows.floordiv_int hj (k _ _ ⟨_, rfl⟩) (.inl hp)) h
theorem BIN.pow {i j Q} (h0 : 0 ≤ j) (h1 : j ≤ 1000000) (h2 : i.natAbs < 2 ^ 64) (h : Q (.int (i ^ j.toNat)) mu) : BIN g A .Pow mu (.int i) (.int j) Q := fun H a b ⟨_, ha⟩ ⟨_, hb⟩ => by
  subst ha; subst hb; exact runV_pure (p := .int (i ^ j.toNat)) (fun s k => PyProof.Rows.pow_int_small h0 h1 h2 (k _ _ ⟨_, rfl⟩)) h

end
end Mine
namespace Mine
section
variable {g : G} {A : Around} {env : Env} {σ : Sto} {mu : Mu}

theorem CMP.pure {op p q Q} {b : Bool} (h : ∀ H x y s, Rep H p x → Rep H q y → St g mu H s → ∀ K, K (.bool b) s → wpAny g.M A (compareOp op x y) K NoE s) (hQ : Q (.bool b) mu) : CMP g A op mu p q Q :=
  fun H x y hx hy s S => h H x y s hx hy S _ ⟨H, mu, .bool b, Fz.le_refl _, S, rfl, hQ⟩
theorem CMP.eq_int {i j Q} (h : Q (.bool (i == j)) mu) : CMP g A .Eq mu (.int i) (.int j) Q :=
  CMP.pure (fun H x y s ⟨_, hx⟩ ⟨_, hy⟩ _ K k => by subst hx; subst hy; exact PyProof.Rows.eq_int k) h
theorem CMP.ne_int {i j Q} (h : Q (.bool (i != j)) mu) : CMP g A .NotEq mu (.int i) (.int j) Q :=
  CMP.pure (fun H x y s ⟨_, hx⟩ ⟨_, hy⟩ _ K k => by subst hx; subst hy; exact PyProof.Rows.ne_int k) h
theorem CMP.lt_int {i j Q} (h : Q (.bool (decide (i < j))) mu) : CMP g A .Lt mu (.int i) (.int j) Q :=
  CMP.pure (fun H x y s ⟨_, hx⟩ ⟨_, hy⟩ _ K k => by subst hx; subst hy; exact PyProof.Rows.lt_int k) h
theorem CMP.gt_int {i j Q} (h : Q (.bool (decide (j < i))) mu) : CMP g A .Gt mu (.int i) (.int j) Q :=
  CMP.pure (fun H x y s ⟨_, hx⟩ ⟨_, hy⟩ _ K k => by subst hx; subst hy; exact PyProof.Rows.gt_int k) h
theorem CMP.ge_int {i j Q} (h : Q (.bool (decide (j ≤ i))) mu) : CMP g A .GtE mu (.int i) (.int j) Q :=
  CMP.pure (fun H x y s ⟨_, hx⟩ ⟨_, hy⟩ _ K k => by subst hx; subst hy; exact PyProof.Rows.ge_int k) h
theorem CMP.eq_bool {i j Q} (h : Q (.bool (i == j)) mu) : CMP g A .Eq mu (.bool i) (.bool j) Q :=
  CMP.pure (fun H x y s hx hy _ K k => by
    have hx : x = .bool i := hx
    have hy : y = .bool j := hy
    subst hx; subst hy; exact PyProof.Rows.eq_bool k) h
theorem CMP.ne_bool {i j Q} (h : Q (.bool (i != j)) mu) : CMP g A .NotEq mu (.bool i) (.bool j) Q :=
  CMP.pure (fun H x y s hx hy _ K k => by
    have hx : x = .bool i := hx
    have hy : y = .bool j := hy
    subst hx; subst hy; exact PyProof.Rows.ne_bool k) h
theorem CMP.eq_str {i j Q} (h : Q (.bool (i == j)) mu) : CMP g A .Eq mu (.str i) (.str j) Q :=
  CMP.pure (fun H x y s ⟨_, hx⟩ ⟨_, hy⟩ _ K k => by subst hx; subst hy; exact PyProof.Rows.eq_str k) h

theorem Rep.isList {H xs v} (R : Rep H (.list xs) v) : ∃ a vs, v = .ref a ∧ RepL H xs vs ∧ ∀ s : Shared, (∀ a o, H a = some o → s.heap.get? a = some o) → s.heap.IsList a vs.toArray := by
  unfold Rep at R
  obtain ⟨a, o, vs, rfl, ho, ⟨n, rfl⟩, hr⟩ := R
  exact ⟨a, vs, rfl, hr, fun s k => ⟨_, k a _ ho, rfl, n, rfl⟩⟩
theorem Rep.isTup {H xs v} (R : Rep H (.tup xs) v) : ∃ a vs, v = .ref a ∧ RepL H xs vs ∧ ∀ s : Shared, (∀ a o, H a = some o → s.heap.get? a = some o) → s.heap.IsTuple a vs.toArray := by
  unfold Rep at R
  obtain ⟨a, o, vs, rfl, ho, ⟨hc, n, hd⟩, hr⟩ := R
  exact ⟨a, vs, rfl, hr, fun s k => ⟨o, k a o ho, hc, n, hd⟩⟩

/-- lines != [] -/
theorem CMP.ne_nil {xs Q} (hu : A.units < cLine) (h : Q (.bool (!xs.isEmpty)) mu) : CMP g A .NotEq mu (.list xs) (.list []) Q :=
  CMP.pure (fun H x y s hx hy S K k => by
    obtain ⟨a, vs, rfl, hr, hl⟩ := hx.isList
    obtain ⟨b, ws, rfl, hr2, hl2⟩ := hy.isList
    have hw : ws = [] := by unfold RepL at hr2; exact hr2
    subst hw
    have hlen := hr.length
    show wpAny g.M A (richCompare .NotEq _ _) K NoE s
    cases xs with
    | nil =>
      have : vs = [] := by simpa using hlen
      subst this
      exact SeqAt.RcNeAt.lists (e := fun _ => true) (hl s S.sub) (hl2 s S.sub) rfl hu (fun j h1 _ => absurd h1 (Nat.not_lt_zero _)) _ _ _ _ (by simpa using k)
    | cons p ps =>
      refine SeqAt.RcNeAt.lists_lengths (hl s S.sub) (hl2 s S.sub) ?_ hu _ _ _ _ (by simpa using k)
      simp [hlen]) h

/-- a text among written texts -/
theorem CMP.in_strs {x : Str} {ys : List Str} {Q} (h : Q (.bool (ys.any (· == x))) mu) : CMP g A .In mu (.str x) (.tup (ys.map .str)) Q :=
  CMP.pure (b := ys.any (· == x)) (fun H v y s hx hy S K k => by
    obtain ⟨t, rfl⟩ := hx
    obtain ⟨a, vs, rfl, hr, hl⟩ := hy.isTup
    have hm : ∀ (ys : List Str) (vs : List Value), RepL H (ys.map .str) vs → (∀ v ∈ vs, ∃ y u, v = .str y u) ∧ (vs.any fun v => match v with | .str y _ => y == x | _ => false) = ys.any (· == x) := by
      intro ys
      induction ys with
      | nil => intro vs h; have : vs = [] := by simpa [RepL] using h
               subst this; simp
      | cons y ys ih =>
        intro vs h
        simp only [List.map_cons] at h
        unfold RepL at h
        obtain ⟨v, vs', rfl, ⟨u, hv⟩, h2⟩ := h
        subst hv
        obtain ⟨i1, i2⟩ := ih vs' h2
        refine ⟨fun v hv => ?_, by simp [i2]⟩
        rcases List.mem_cons.mp hv with rfl | hv
        · exact ⟨y, u, rfl⟩
        · exact i1 v hv
    obtain ⟨m1, m2⟩ := hm ys vs hr
    refine SeqAt.in_tupleAt (fun v => match v with | .str y _ => y == x | _ => false) (hl s S.sub) (fun y hy => ?_) ?_
    · obtain ⟨y, u, rfl⟩ := m1 y (by simpa using hy)
      exact SeqAt.EqAt.str_str y u x t
    · have : (vs.toArray.any fun v => match v with | .str y _ => y == x | _ => false) = ys.any (· == x) := by rw [List.any_toArray]; exact m2
      rw [this]; exact k) h

-- lists
theorem BIN.cat {xs ys Q} (hz : xs.length + ys.length ≤ sizeLine) (h : Q (.list (xs ++ ys)) mu) : BIN g A .Add mu (.list xs) (.list ys) Q := fun H a b ha hb s S => by
  unfold Rep at ha hb
  obtain ⟨l, o, vs, rfl, ho, ⟨n, rfl⟩, hr⟩ := ha
  obtain ⟨l2, o2, ws, rfl, ho2, ⟨n2, rfl⟩, hr2⟩ := hb
  have e1 := S.sub _ _ ho
  have e2 := S.sub _ _ ho2
  have e : vs.toArray ++ ws.toArray = (vs ++ ws).toArray := by simp
  refine concat_meets ⟨_, e1, rfl⟩ ⟨_, e2, rfl⟩ noFill_list_add seq_list_add PySem.F.slot_list_add PySem.F.entry_list_add (PySem.F.args_list_add_2 _ _)
    (PyProof.Rows.list_addW l l2 vs.toArray ws.toArray n n2 none none #[] #[] (by simp [hr.length, hr2.length]; exact hz)) ⟨e1, e2, ?_⟩
  rw [e]
  exact post_list S (hr.append hr2) _ h

theorem replicate_foldl {α : Type} (xs : List α) : ∀ (n : Nat) (acc : Array α), (List.replicate n xs.toArray).foldl (fun a b => a ++ b) acc = (acc.toList ++ (List.replicate n xs).flatten).toArray
  | 0, acc => by simp
  | n + 1, acc => by
    rw [List.replicate_succ, List.foldl_cons, replicate_foldl xs n]
    simp [List.replicate_succ]
theorem RepL.one {H p vs} (h : RepL H [p] vs) : ∃ v, vs = [v] ∧ Rep H p v := by
  unfold RepL at h
  obtain ⟨v, vs', rfl, h1, h2⟩ := h
  unfold RepL at h2
  subst h2
  exact ⟨v, rfl, h1⟩
theorem RepL.replicate {H p v} (h : Rep H p v) : ∀ n : Nat, RepL H (List.replicate n p) (List.replicate n v)
  | 0 => .nil
  | n + 1 => by rw [List.replicate_succ, List.replicate_succ]; exact .cons h (RepL.replicate h n)

/-- [p] * n, the list of one a made one -/
theorem mulList {l : Addr} {v : Value} {n : Int} {k : Nat} {u : Tok} {s : Shared} (e : s.heap.get? l = some { cls := .type "list", dict := none, data := .seq #[v] k, slots := #[] }) (hlo : -(2 ^ 63 : Int) ≤ n) (hhi : n.toNat ≤ 2 ^ 24) {K : Value → Shared → Prop}
    (hK : K (.ref s.heap.objs.size) { s with heap := s.heap.push (listOb (List.replicate n.toNat v)) }) : wpAny g.M A (binaryOp .Mult (.ref l) (.int n u)) K NoE s := by
  have hl : s.heap.get? l = some { cls := .type "list", dict := .none, data := .seq #[v] k, slots := #[] } := e
  refine wpAny_binaryOp_repeat_ref (T := "list") (U := "int") (by decide) ⟨_, hl, rfl⟩ (fun s' => typeIs_int s' n u) noFill_list_mul F.fills_int_mul F.slot_int_rmul repeat_list F.slot_int_index.lookup
    (call_meets F.slot_int_rmul (typeIs_int s n u) F.entry_int_rmul (F.args_int_rmul_2 _ _) (int___rmul___int_list n u l #[v] k)
      ⟨hl, rfl, ⟨_, hl, rfl⟩, call_meets F.slot_list_mul ⟨_, hl, rfl⟩ F.entry_list_mul (F.args_list_mul_2 _ _)
        (AutoListH.list___mul___list_int_3 l #[v] k n u (by simp [Builtin.List.listFitsIndex]; omega) (by simp; omega) (by simp [Builtin.List.listTooLong, sizeLine]; omega))
        ⟨hl, ?_⟩⟩)
  show K _ _
  have e2 : (List.foldl (fun x1 x2 => x1 ++ x2) #[] (List.replicate (if (#[v] : Array Value).isEmpty = true then 0 else n.toNat) #[v])) = (List.replicate n.toNat v).toArray := by
    have := replicate_foldl [v] n.toNat #[]
    simp only [Array.isEmpty, List.size_toArray, List.length_cons, List.length_nil]
    simpa using this
  rw [e2]
  exact hK
end
end Mine
namespace Mine
section
variable {g : G} {A : Around} {env : Env} {σ : Sto} {mu : Mu}

theorem Rep.plain1 {H p v} (R : Rep H (.list [p]) v) : ∃ a u n, v = .ref a ∧ Rep H p u ∧ ∀ s : Shared, (∀ a o, H a = some o → s.heap.get? a = some o) → s.heap.get? a = some { cls := .type "list", dict := none, data := .seq #[u] n, slots := #[] } := by
  unfold Rep at R
  obtain ⟨a, o, vs, rfl, ho, ⟨n, rfl⟩, hr⟩ := R
  obtain ⟨u, rfl, hu⟩ := hr.one
  exact ⟨a, u, n, rfl, hu, fun s k => k a _ ho⟩
theorem BIN.rep {p n Q} (hlo : -(2 ^ 63 : Int) ≤ n) (hhi : n.toNat ≤ 2 ^ 24) (h : Q (.list (List.replicate n.toNat p)) mu) : BIN g A .Mult mu (.list [p]) (.int n) Q := fun H a b ha ⟨_, hb⟩ s S => by
  subst hb
  obtain ⟨l, u, k, rfl, hu, hl⟩ := ha.plain1
  exact mulList (hl s S.sub) hlo hhi (post_list S (RepL.replicate hu _) _ h)
theorem BIN.repM {p n Q} (hlo : -(2 ^ 63 : Int) ≤ n) (hhi : n.toNat ≤ 2 ^ 24) (h : ∀ a, mu a = .none → Q (.ref a) (mu.set a (.list (List.replicate n.toNat p)))) : BIN g A .Mult mu (.list [p]) (.int n) Q := fun H a b ha ⟨_, hb⟩ s S => by
  subst hb
  obtain ⟨l, u, k, rfl, hu, hl⟩ := ha.plain1
  exact mulList (hl s S.sub) hlo hhi (post_listM S (RepL.replicate hu _) _ h)

-- subscripts
def SUBS (g : G) (A : Around) (value slice : Expr) (mu : Mu) (p q : PV) (Q : PV → Mu → Prop) : Prop := ∀ H a b, Rep H p a → Rep H q b → RunV g A mu H (subscriptTail value slice a b) Q
theorem EV.sub {value slice pos Q} (h : EV g A env σ mu value (fun p m => EV g A env σ m slice (fun q m' => SUBS g A value slice m' p q Q))) : EV g A env σ mu (.Subscript value slice pos) Q := fun H s I => by
  refine Subscript_ (wpAny_mono (h H s I) (fun a s₁ h₁ => ?_) fun _ _ x => x)
  obtain ⟨H1, m1, p, l1, I1, R1, h1⟩ := h₁
  refine wpAny_mono (h1 H1 s₁ I1) (fun b s₂ h₂ => ?_) fun _ _ x => x
  obtain ⟨H2, m2, q, l2, I2, R2, h2⟩ := h₂
  exact I2.step (Fz.le_trans l1 l2) (fun H' l3 => h2 H' a b (R1.mono (Fz.le_trans l2 l3)) (R2.mono l3)) fun _ _ x => x
def PlainSub (slice : Expr) : Prop := ∀ o i, subscripted slice false o i = operate [o, i] (getItem o i)
theorem SUBS.list {value slice xs i r Q} (hs : PlainSub slice) (h0 : 0 ≤ i) (hf : i < 2 ^ 63) (hx : xs[i.toNat]? = some r) (h : Q r mu) : SUBS g A value slice mu (.list xs) (.int i) Q := fun H a b ha ⟨_, hb⟩ s S => by
  subst hb
  obtain ⟨l, vs, rfl, hr, hl⟩ := ha.isList
  obtain ⟨v, hv, hR⟩ := hr.get hx
  exact tail_any (hl s S.sub).typeIs slot_list_getitem.lookup (wpAny_getItem_list (hl s S.sub) h0 hf (by simpa using hv) ⟨H, mu, r, Fz.le_refl _, S, hR, h⟩) (hs _ _)
theorem SUBS.listneg {value slice xs i r Q} (hs : PlainSub slice) (h0 : i < 0) (h1 : -(xs.length : Int) ≤ i) (hf : -(2 ^ 63) ≤ i) (hx : xs[(i + xs.length).toNat]? = some r) (h : Q r mu) : SUBS g A value slice mu (.list xs) (.int i) Q := fun H a b ha ⟨_, hb⟩ s S => by
  subst hb
  obtain ⟨l, vs, rfl, hr, hl⟩ := ha.isList
  obtain ⟨v, hv, hR⟩ := hr.get hx
  have e := hr.length
  exact tail_any (hl s S.sub).typeIs slot_list_getitem.lookup (wpAny_getItem_list_neg (hl s S.sub) h0 (by simpa [e] using h1) hf (by simpa [e] using hv) ⟨H, mu, r, Fz.le_refl _, S, hR, h⟩) (hs _ _)
theorem SUBS.mut {value slice a xs i r Q} (hs : PlainSub slice) (hm : mu a = some (.list xs)) (h0 : 0 ≤ i) (hf : i < 2 ^ 63) (hx : xs[i.toNat]? = some r) (h : Q r mu) : SUBS g A value slice mu (.ref a) (.int i) Q := fun H x b ha ⟨_, hb⟩ s S => by
  have ha : x = .ref a := ha
  subst ha; subst hb
  obtain ⟨vs, hl, hr⟩ := (S.mus a _ hm).2
  obtain ⟨v, hv, hR⟩ := hr.get hx
  exact tail_any hl.typeIs slot_list_getitem.lookup (wpAny_getItem_list hl h0 hf (by simpa using hv) ⟨H, mu, r, Fz.le_refl _, S, hR, h⟩) (hs _ _)

-- slices
def OptEV (g : G) (A : Around) (env : Env) (σ : Sto) (mu : Mu) (e : Option Expr) (Q : Option Nat → Mu → Prop) : Prop := match e with
  | none => Q none mu
  | some e => EV g A env σ mu e (fun p m => ∃ n : Nat, p = .int n ∧ Q (some n) m)
theorem OptEV.run {e Q H s} (h : OptEV g A env σ mu e Q) (I : Inv g env σ mu H s) :
    wpAny g.M A (evalPart e env) (fun v s' => ∃ H' mu' k, Fz.le H H' ∧ Inv g env σ mu' H' s' ∧ (match k with | none => v = .none | some (n : Nat) => ∃ t, v = .int n t) ∧ Q k mu') NoE s := by
  cases e with
  | none => rw [evalPart_none]; exact wpAny_pure ⟨H, mu, none, Fz.le_refl _, I, rfl, h⟩
  | some e =>
    rw [evalPart_some]
    refine wpAny_mono (h H s I) (fun v s₁ h₁ => ?_) fun _ _ x => x
    obtain ⟨H1, m1, p, l1, I1, R1, n, rfl, h1⟩ := h₁
    exact ⟨H1, m1, some n, l1, I1, R1, h1⟩
def cutL {α : Type} (xs : List α) : Option Nat → Option Nat → List α
  | none, none => xs
  | some a, none => xs.drop a
  | none, some b => xs.take b
  | some a, some b => (xs.drop a).take (b - a)
theorem IsPart.of {k : Option Nat} {v : Value} (h : match k with | none => v = .none | some (n : Nat) => ∃ t, v = .int n t) : IsPart v (k.map fun n => (n : Int)) := by
  cases k with
  | none => subst h; exact .none
  | some n => obtain ⟨t, rfl⟩ := h; exact .int _ _

/-- a list's slice from the left, or to the right -/
theorem EV.slice {value lo hi p pos Q} (ht : ∀ o r, letTemporaryGo value o r = pure ()) (h : EV g A env σ mu value (fun x m => OptEV g A env σ m lo (fun a m1 => OptEV g A env σ m1 hi (fun b m2 =>
      ∃ xs, x = .list xs ∧ xs.length ≤ sizeLine ∧ (a = none ∨ b = none) ∧ Q (.list (cutL xs a b)) m2)))) : EV g A env σ mu (.Subscript value (.Slice lo hi none p) pos) Q := fun H s I => by
  refine wpAny_Subscript_list_slice (wpAny_mono (h H s I) (fun v s₁ h₁ => ?_) fun _ _ x => x) ht
  obtain ⟨H1, m1, x, l1, I1, R1, h1⟩ := h₁
  refine wpAny_mono (OptEV.run h1 I1) (fun va s₂ h₂ => ?_) fun _ _ x => x
  obtain ⟨H2, m2, a, l2, I2, R2, h2⟩ := h₂
  refine wpAny_mono (OptEV.run h2 I2) (fun vb s₃ h₃ => ?_) fun _ _ x => x
  obtain ⟨H3, m3, b, l3, I3, R3, xs, rfl, hz, hab, hQ⟩ := h₃
  have R := (R1.mono (Fz.le_trans l2 l3))
  obtain ⟨l, vs, rfl, hr, hl⟩ := R.isList
  refine ⟨l, vs.toArray, _, _, rfl, hl s₃ I3.st.sub, by simp [hr.length, hz], IsPart.of R2, IsPart.of R3, ?_⟩
  have S1 := (I3.st.top).new (o := { cls := .type "slice", data := .fields #[va, vb, .none] }) rfl s₃.toks
  have hp : slicePick vs.toArray (a.map fun n => (n : Int)) (b.map fun n => (n : Int)) none = (cutL vs a b).toArray := by
    cases a with
    | none =>
      cases b with
      | none => simpa [cutL] using slicePick_all vs.toArray
      | some b => simpa [cutL] using slicePick_upto' vs.toArray b
    | some a =>
      cases b with
      | none => simpa [cutL] using slicePick_from' vs.toArray a
      | some b => rcases hab with h | h <;> cases h
  have hRL : ∀ H, RepL H xs vs → RepL H (cutL xs a b) (cutL vs a b) := fun H h => by
    cases a with
    | none =>
      cases b with
      | none => exact h
      | some b => exact h.take b
    | some a =>
      cases b with
      | none => exact h.drop a
      | some b => exact (h.drop a).take _
  rw [hp]
  have P := post_list (Q := Q) S1.2 (hRL _ (hr.mono (Fz.le_trans I3.st.le_top S1.1))) s₃.toks hQ
  obtain ⟨H', mu', p, q1, q2, q3, q4⟩ := P
  obtain ⟨H'', w1, w2, w3⟩ := I3.back (Fz.le_trans S1.1 q1) q2
  have hsz : (({ s₃ with heap := s₃.heap.push { cls := .type "slice", data := .fields #[va, vb, .none] } } : Shared).heap.objs.size) = s₃.heap.objs.size + 1 := Heap.size_push ..
  have q3' := w3 _ _ q3
  rw [hsz] at q3'
  exact ⟨H'', mu', p, Fz.le_trans (Fz.le_trans l1 (Fz.le_trans l2 l3)) w1, w2, q3', q4⟩

end
end Mine
namespace Mine
section
variable {g : G} {A : Around} {env : Env} {σ : Sto} {mu : Mu}

/-- text[a:b] -/
def cutS (x : Str) (a b : Nat) : Str := ⟨((x.cps.toList.drop a).take (b - a)).toArray⟩
theorem EV.slice_str {value lo hi p pos Q} (ht : ∀ o r, letTemporaryGo value o r = pure ()) (h : EV g A env σ mu value (fun x m => EV g A env σ m lo (fun a m1 => EV g A env σ m1 hi (fun b m2 =>
      ∃ (t : Str) (i j : Nat), x = .str t ∧ a = .int i ∧ b = .int j ∧ i ≤ j ∧ j ≤ t.length ∧ t.length ≤ sizeLine ∧ Q (.str (cutS t i j)) m2)))) : EV g A env σ mu (.Subscript value (.Slice (some lo) (some hi) none p) pos) Q := fun H s I => by
  refine wpAny_Subscript_str_slice (wpAny_mono (h H s I) (fun v s₁ h₁ => ?_) fun _ _ x => x) ht
  obtain ⟨H1, m1, x, l1, I1, R1, h1⟩ := h₁
  rw [evalPart_some]
  refine wpAny_mono (h1 H1 s₁ I1) (fun va s₂ h₂ => ?_) fun _ _ x => x
  obtain ⟨H2, m2, a, l2, I2, R2, h2⟩ := h₂
  rw [evalPart_some]
  refine wpAny_mono (h2 H2 s₂ I2) (fun vb s₃ h₃ => ?_) fun _ _ x => x
  obtain ⟨H3, m3, b, l3, I3, R3, t, i, j, rfl, rfl, rfl, hij, hj, hz, hQ⟩ := h₃
  obtain ⟨ti, rfl⟩ := R2
  obtain ⟨tj, rfl⟩ := R3
  obtain ⟨tx, rfl⟩ := R1
  refine ⟨t, tx, some (i, ti), some (j, tj), rfl, rfl, rfl, ?_⟩
  have hp : slicePicked t (some ((i : Int), ti)) (some ((j : Int), tj)) none = (List.range (j - i)).map (i + ·) := by
    unfold slicePicked
    exact StrLaws.strSliceIndices_plain hij hj
  have hpick : ((slicePicked t (some ((i : Int), ti)) (some ((j : Int), tj)) none).filterMap (t.cps[·]?)) = (t.cps.toList.drop i).take (j - i) := by
    rw [hp]; exact pick_run t.cps i (j - i)
  have S1 := (I3.st.top).new (o := { cls := .type "slice", data := .fields #[.int i ti, .int j tj, .none] }) rfl s₃.toks
  unfold sliceMade
  split
  · rename_i hc
    have hl : (slicePicked t (some ((i : Int), ti)) (some ((j : Int), tj)) none).length = t.length := by
      have := (Bool.and_eq_true_iff.mp hc).2
      exact beq_iff_eq.mp this
    rw [hp] at hl
    simp at hl
    have e : cutS t i j = t := by
      have hi0 : i = 0 ∧ j = t.length ∨ t.length = 0 := by omega
      unfold cutS
      rcases hi0 with ⟨rfl, rfl⟩ | h0
      · simp only [List.drop_zero, Nat.sub_zero]
        have : t.cps.toList.take t.length = t.cps.toList := List.take_of_length_le (by simp [Str.length])
        rw [this]
      · have : t.cps = #[] := Array.eq_empty_of_size_eq_zero h0
        cases t with
        | mk c => simp only at this; subst this; simp
    rw [e] at hQ
    obtain ⟨H'', w1, w2, w3⟩ := I3.back S1.1 S1.2
    exact ⟨H'', m3, .str t, Fz.le_trans (Fz.le_trans l1 (Fz.le_trans l2 l3)) w1, w2, ⟨_, rfl⟩, hQ⟩
  · rw [hpick]
    have hlen : (cutS t i j).length ≤ sizeLine := by
      refine Nat.le_trans ?_ hz
      simp [cutS, Str.length]
      omega
    refine ⟨?_, ?_⟩
    · exact hlen
    · obtain ⟨H'', w1, w2, w3⟩ := I3.back S1.1 (S1.2.tok (s₃.toks + 1))
      exact ⟨H'', m3, .str (cutS t i j), Fz.le_trans (Fz.le_trans l1 (Fz.le_trans l2 l3)) w1, w2, ⟨_, rfl⟩, hQ⟩

/-- change a mutable thing -/
theorem St.setMu {H s a v v' h'} (S : St g mu H s) (ha : mu a = some v) (hs : Heap.SameBut a s.heap h') (hR : MRep H h' a v') (tk : Nat) : St g (mu.set a v') H { s with heap := h', toks := tk } where
  sub := fun b o e => (hs.2 b (by rintro rfl; rw [(S.mus _ _ ha).1] at e; cases e)).trans (S.sub b o e)
  base := S.base
  mus := fun b w e => by
    by_cases hb : b = a
    · subst hb; rw [Mu.set_self] at e; cases e; exact ⟨(S.mus _ _ ha).1, hR⟩
    · rw [Mu.set_ne hb] at e
      obtain ⟨h1, h2⟩ := S.mus b w e
      exact ⟨h1, h2.mono (Fz.le_refl _) fun o eo => (hs.2 b hb).trans eo⟩
  os := S.os
  gens := S.gens

-- calls
def CALL (g : G) (A : Around) (f : Value) (mu : Mu) (ps : List PV) (Q : PV → Mu → Prop) : Prop := ∀ H vs, RepL H ps vs → RunV g A mu H (call f vs) Q
theorem RepL.two {H p q vs} (h : RepL H [p, q] vs) : ∃ v w, vs = [v, w] ∧ Rep H p v ∧ Rep H q w := by
  unfold RepL at h
  obtain ⟨v, vs', rfl, h1, h2⟩ := h
  obtain ⟨w, rfl, h3⟩ := h2.one
  exact ⟨v, w, rfl, h1, h3⟩
theorem CALL.len {xs Q} (hz : xs.length ≤ sizeLine) (h : Q (.int xs.length) mu) : CALL g A (.builtin "len") mu [.list xs] Q := fun H vs R s S => by
  obtain ⟨v, rfl, hv⟩ := R.one
  obtain ⟨l, us, rfl, hr, hl⟩ := hv.isList
  refine PyProof.Rows.len_list (hl s S.sub) (by rw [sizeLine_eq] at hz; simp [hr.length]; omega) ?_
  refine ⟨H, mu, .int xs.length, Fz.le_refl _, S.tok _, ⟨s.toks + 1, ?_⟩, h⟩
  simp [hr.length]
theorem post_range {H s Q} {a b : Int} {t u w : Tok} (S : St g mu H s) (tk : Nat) (h : Q (.range a b) mu) :
    Post g H Q (.ref s.heap.objs.size) { s with heap := s.heap.push { cls := .type "range", data := .fields #[.int a t, .int b u, .int 1 w] }, toks := tk } :=
  ⟨_, mu, .range a b, (S.new rfl tk).1, (S.new rfl tk).2, by unfold Rep; exact ⟨_, _, rfl, Fz.add_self _ _ _, t, u, w, rfl⟩, h⟩
theorem CALL.range1 {n Q} (h : Q (.range 0 n) mu) : CALL g A (.type "range") mu [.int n] Q := fun H vs R s S => by
  obtain ⟨v, rfl, t, rfl⟩ := R.one
  exact call_range_1 (post_range S _ h)
theorem CALL.range2 {a b Q} (h : Q (.range a b) mu) : CALL g A (.type "range") mu [.int a, .int b] Q := fun H vs R s S => by
  obtain ⟨v, w, rfl, ⟨t, rfl⟩, u, rfl⟩ := R.two
  exact call_range_2 (post_range S _ h)
theorem CALL.abs {i Q} (h : Q (.int (if i < 0 then -i else i)) mu) : CALL g A (.builtin "abs") mu [.int i] Q := fun H vs R s S => by
  obtain ⟨v, rfl, t, rfl⟩ := R.one
  exact call_abs_int fun u tk => ⟨H, mu, .int (if i < 0 then -i else i), Fz.le_refl _, S.tok _, ⟨_, rfl⟩, h⟩
theorem CALL.max2 {i j Q} (hh : A.handled = none) (h : Q (.int (if j > i then j else i)) mu) : CALL g A (.builtin "max") mu [.int i, .int j] Q := fun H vs R s S => by
  obtain ⟨v, w, rfl, ⟨t, rfl⟩, u, rfl⟩ := R.two
  refine max_two_ints hh fun h' tk k => ⟨H, mu, .int (if j > i then j else i), Fz.le_refl _, S.keeps k tk, ?_, h⟩
  split
  · exact ⟨_, rfl⟩
  · exact ⟨_, rfl⟩

theorem Rep.isRange {H a b v} (R : Rep H (.range a b) v) : ∃ r t u w, v = .ref r ∧ ∀ s : Shared, (∀ a o, H a = some o → s.heap.get? a = some o) → IsRange s.heap r a b 1 t u w := by
  unfold Rep at R
  obtain ⟨r, o, rfl, ho, t, u, w, rfl⟩ := R
  exact ⟨r, t, u, w, rfl, fun s k => k r _ ho⟩
def rlen (a b : Int) : Int := if a < b then b - a else 0
theorem rangeSize_rlen (a b : Int) : Builtin.Range.rangeSize a b 1 = rlen a b := rangeSize_one a b
theorem iter_range {H s a b v Q} (S : St g mu H s) (R : Rep H (.range a b) v) (ha : -(2 ^ 62) ≤ a ∧ a < 2 ^ 62) (hb : -(2 ^ 62) ≤ b ∧ b < 2 ^ 62)
    (hQ : Q (.ref s.heap.objs.size) { s with heap := s.heap.push { cls := .type "range_iterator", data := .fields #[rawInt a, rawInt (rlen a b), rawInt 1] } }) : wpAny g.M A (pyIter v) Q NoE s := by
  obtain ⟨r, t, u, w, rfl, hr⟩ := R.isRange
  refine wpAny_pyIter_range (hr s S.sub) (small_one ha.1 ha.2 hb.1 hb.2) ?_
  rw [rangeSize_rlen]
  exact hQ
theorem CALL.iter {a b Q} (ha : -(2 ^ 62) ≤ a ∧ a < 2 ^ 62) (hb : -(2 ^ 62) ≤ b ∧ b < 2 ^ 62) (h : ∀ I, mu I = none → Q (.ref I) (mu.set I (.rit a (rlen a b)))) : CALL g A (.builtin "iter") mu [.range a b] Q := fun H vs R s S => by
  obtain ⟨v, rfl, hv⟩ := R.one
  obtain ⟨r, t, u, w, rfl, hr⟩ := id hv.isRange
  refine Calls.call_function_entry (by decide +kernel) (by decide +kernel) kdk_entry_iter (kdk_args_iter _) ?_
  unfold Builtin.«iter»
  refine wpAny_bind (m := someArgs "iter" 1 2 _) (wpAny_of_eq (a := [Value.ref r]) (by first | rfl | kernel_rfl!) ?_)
  show wpAny _ _ (pyIter (.ref r) >>= _) _ _ _
  refine wpAny_bind (iter_range S hv ha hb ?_)
  refine wpAny_pure ⟨_, rfl, ?_⟩
  obtain ⟨h1, h2⟩ := S.newMut (o := { cls := .type "range_iterator", data := .fields #[rawInt a, rawInt (rlen a b), rawInt 1] }) (v := .rit a (rlen a b)) rfl s.toks (Heap.get?_push_size _ rfl)
  exact ⟨H, _, .ref s.heap.objs.size, Fz.le_refl _, h2, rfl, h _ h1⟩
end
end Mine
namespace Mine
section
variable {g : G} {A : Around} {env : Env} {σ : Sto} {mu : Mu}

/-- an iterator that is at its end stays as it is -/
theorem next_end_keeps {it : Addr} {x left step : Int} {s : Shared} {Q : Option Value → Shared → Prop} (hh : A.handled = none) (hit : IsRangeIter s.heap it x left step) (hleft : left ≤ 0)
    (hQ : ∀ h', Kp s.heap h' → Q none { s with heap := h' }) : wpAny g.M A (pyNext (.ref it)) Q NoE s := by
  have hT : s.TypeIs (.ref it) "range_iterator" := ⟨_, hit, rfl⟩
  unfold pyNext
  refine wpAny_bind (wpAny_attempt (wpAny_callSpecial?_slot (name := Str.ofString "__next__") hT F.slot_range_iterator_next
    (wpAny_call_entry F.slot_range_iterator_next hT F.entry_range_iterator_next ?_ (F.args_range_iterator_next_1 _))))
  show wpAny _ _ (field (.ref it) 0 >>= _) _ _ s
  refine wpAny_bind (wpAny_field hit rfl (x := rawInt x) rfl ?_)
  show wpAny _ _ (field (.ref it) 1 >>= _) _ _ s
  refine wpAny_bind (wpAny_field hit rfl (x := rawInt left) rfl ?_)
  show wpAny _ _ (field (.ref it) 2 >>= _) _ _ s
  refine wpAny_bind (wpAny_field hit rfl (x := rawInt step) rfl ?_)
  show wpAny _ _ (if left ≤ 0 then _ else _) _ _ s
  rw [if_pos hleft]
  refine wpAny_bind (wpAny_rule (wpAny_bind ?_))
  show wpAny _ _ (newExc (.type "StopIteration") [] >>= _) _ _ _
  refine wpAny_bind ?_
  simp only [newExc, newTuple]
  refine wpAny_bind (wpAny_newObj_type ?_ (by size_fits))
  refine wpAny_bind (m := firstArgMember _ _) (wpAny_of_eq (a := Value.none) (by first | rfl | (simp only [firstArgMember]; rfl)) ?_)
  refine wpAny_newObj_type ?_ (by size_fits)
  simp only [raiseNew]
  refine wpAny_bind (wpAny_handled ?_)
  first | rw [show A.in1.handled = none from hh] | rw [hh]
  refine wpAny_bind (wpAny_pure (wpAny_throw ?_))
  refine wpAny_bind (wpAny_isInstance (T := "StopIteration") (b := true) ⟨_, Heap.get?_push_size _ rfl, rfl⟩ isSubtype_stop ?_)
  exact wpAny_pure (hQ _ fun b o e => Heap.get?_push_of_some _ (Heap.get?_push_of_some _ e))

theorem next_item {H s I x left Q} (S : St g mu H s) (hm : mu I = some (.rit x left)) (hl : 0 < left)
    (hQ : ∀ s', St g (mu.set I (.rit (x + 1) (left - 1))) H s' → Heap.SameBut I s.heap s'.heap → ∀ t, Q (some (.int x t)) s') : wpAny g.M A (pyNext (.ref I)) Q NoE s :=
  wpAny_pyNext_range_item (S.mus _ _ hm).2 hl fun h' hit hs => hQ _ (S.setMu (v' := .rit (x + 1) (left - 1)) hm hs hit _) hs _
theorem next_end {H s I x left Q} (hh : A.handled = none) (S : St g mu H s) (hm : mu I = some (.rit x left)) (hl : left ≤ 0)
    (hQ : ∀ s', St g mu H s' → Kp s.heap s'.heap → Q none s') : wpAny g.M A (pyNext (.ref I)) Q NoE s :=
  next_end_keeps hh (S.mus _ _ hm).2 hl fun h' k => hQ _ (S.keeps k _) k

/-- next(it, None) -/
theorem CALL.next2 {I x left Q} (hh : A.handled = none) (hm : mu I = some (.rit x left)) (h1 : 0 < left → Q (.int x) (mu.set I (.rit (x + 1) (left - 1)))) (h2 : left ≤ 0 → Q .none mu) : CALL g A (.builtin "next") mu [.ref I, .none] Q := fun H vs R s S => by
  obtain ⟨v, w, rfl, hv, hw⟩ := R.two
  have hv : v = .ref I := hv
  have hw : w = .none := hw
  subst hv; subst hw
  have hit : IsRangeIter s.heap I x left 1 := (S.mus _ _ hm).2
  have hT : s.TypeIs (.ref I) "range_iterator" := ⟨_, hit, rfl⟩
  refine Calls.call_function_entry (by decide +kernel) (by decide +kernel) kdk_entry_next (kdk_args_next2 _ _) ?_
  unfold Builtin.«next»
  refine wpAny_bind (m := someArgs "next" 1 2 _) (wpAny_of_eq (a := [Value.ref I, .none]) (by first | rfl | kernel_rfl!) ?_)
  dsimp only
  refine wpAny_bind (wpAny_specialOf (name := Str.ofString "__next__") hT F.slot_range_iterator_next.lookup ?_)
  refine wpAny_ite_split (fun hab => absurd hab (by decide)) (fun _ => ?_)
  by_cases hl : 0 < left
  · refine wpAny_bind (next_item S hm hl fun s' S' _ t => ?_)
    exact wpAny_pure ⟨_, rfl, H, _, .int x, Fz.le_refl _, S', ⟨t, rfl⟩, h1 hl⟩
  · refine wpAny_bind (next_end (A := A.in1) hh S hm (by omega) fun s' S' _ => ?_)
    exact wpAny_pure ⟨_, rfl, H, _, .none, Fz.le_refl _, S', rfl, h2 (by omega)⟩

-- names that the top bears
theorem ld_glob {x pos s v K} (hsub : Kp g.B s.heap) (hk : env.scope.kind = .function) (hx : env.kindOf x = some .globalImplicit) (hg : env.globals = mainGlobals) (hd : (x == ("__debug__" : Str)) = false) (hv : g.mg x = some v) (h : K v s) :
    wpAny g.M A (eval (.Name x pos) env) K NoE s :=
  Calls.Name_function_global hk hx (Calls.loadGlobal_global (env := env) (by rw [hg]; exact g.T.g.keeps hsub) hv h) hd
theorem ld_bi {x pos s v K} (hsub : Kp g.B s.heap) (hk : env.scope.kind = .function) (hx : env.kindOf x = some .globalImplicit) (hg : env.globals = mainGlobals) (hb : env.builtins = builtinsNs) (hd : (x == ("__debug__" : Str)) = false)
    (hm : g.mg x = none) (hn : x ≠ "__name__") (hv : bootBuiltins x = some v) (h : K v s) : wpAny g.M A (eval (.Name x pos) env) K NoE s :=
  Calls.Name_function_global hk hx (Calls.loadGlobal_builtin (env := env) (by rw [hg]; exact g.T.g.keeps hsub) hm (by rw [hb]; exact g.T.b.keeps hsub) ((g.T.builtins x hn).trans hv) h) hd
theorem Inv.base {H s} (I : Inv g env σ mu H s) : Kp g.B s.heap := fun b o e => I.st.sub b o (I.st.base b o e)

/-- the callee's name leads to v -/
def NAME (g : G) (env : Env) (e : Expr) (v : Value) : Prop := ∀ (A : Around) s K, Kp g.B s.heap → K v s → wpAny g.M A (eval e env) K NoE s

theorem star_plain {args : List Expr} {pos : Pos} (h : (starEach args env).any (·.1) = false) : (backTo pos (starEach args env)).any (·.1) = false := by
  unfold backTo; rw [List.any_map]; exact h
theorem EV.call_bi {f : Expr} {id : String} {a : Expr} {args pos Q} (hN : NAME g env f (.builtin id)) (hs : (starEach (a :: args) env).any (·.1) = false)
    (hev : eval (.Call f (a :: args) [] pos) env = (do callWith pos (← eval f env) [] (backTo pos (starEach (a :: args) env)) (backToKw pos (keywordEach [] env))) := by rfl)
    (hst : ∃ t r, backTo pos (starEach (a :: args) env) = (false, t) :: r := by exact ⟨_, _, rfl⟩)
    (h : EVL g A env σ mu pos (a :: args) (fun ps m => CALL g A (.builtin id) m ps Q)) : EV g A env σ mu (.Call f (a :: args) [] pos) Q := fun H s I => by
  rw [hev]
  refine wpAny_bind (hN A s _ I.base ?_)
  refine Calls.callWith_builtin (star_plain hs) ?_
  obtain ⟨t, r, e⟩ := hst
  have h := h H s I
  rw [e] at h ⊢
  refine Calls.evalArgs_plain (wpAny_mono h (fun vs s₁ h₁ => ?_) fun _ _ x => x)
  obtain ⟨H1, m1, ps, l1, I1, R1, h1⟩ := h₁
  exact I1.step l1 (fun H' l2 => h1 H' vs (R1.mono l2)) fun _ _ x => x
theorem EV.call_ty {f : Expr} {T : String} {a : Expr} {args pos Q} (hN : NAME g env f (.type T)) (hs : (starEach (a :: args) env).any (·.1) = false)
    (hev : eval (.Call f (a :: args) [] pos) env = (do callWith pos (← eval f env) [] (backTo pos (starEach (a :: args) env)) (backToKw pos (keywordEach [] env))) := by rfl)
    (hst : ∃ t r, backTo pos (starEach (a :: args) env) = (false, t) :: r := by exact ⟨_, _, rfl⟩)
    (h : EVL g A env σ mu pos (a :: args) (fun ps m => CALL g A (.type T) m ps Q)) : EV g A env σ mu (.Call f (a :: args) [] pos) Q := fun H s I => by
  rw [hev]
  refine wpAny_bind (hN A s _ I.base ?_)
  refine PySem.callWith_type (star_plain hs) ?_
  obtain ⟨t, r, e⟩ := hst
  have h := h H s I
  rw [e] at h ⊢
  refine Calls.evalArgs_plain (wpAny_mono h (fun vs s₁ h₁ => ?_) fun _ _ x => x)
  obtain ⟨H1, m1, ps, l1, I1, R1, h1⟩ := h₁
  exact I1.step l1 (fun H' l2 => h1 H' vs (R1.mono l2)) fun _ _ x => x
theorem EV.call_fn {f : Expr} {b : Addr} {o : Obj} {fd : FuncData} {a : Expr} {args pos Q} (hN : NAME g env f (.ref b)) (ho : g.B.get? b = some o) (hfd : o.data = .func fd)
    (hev : eval (.Call f (a :: args) [] pos) env = (do callWith pos (← eval f env) [] (backTo pos (starEach (a :: args) env)) (backToKw pos (keywordEach [] env))) := by rfl)
    (hst : ∃ t r, backTo pos (starEach (a :: args) env) = (false, t) :: r := by exact ⟨_, _, rfl⟩)
    (h : EVL g A env σ mu pos (a :: args) (fun ps m => CALL g A (.ref b) m ps Q)) : EV g A env σ mu (.Call f (a :: args) [] pos) Q := fun H s I => by
  rw [hev]
  refine wpAny_bind (hN A s _ I.base ?_)
  refine Calls.callWith_function (o := o) (fd := fd) ?_
  obtain ⟨t, r, e⟩ := hst
  have h := h H s I
  rw [e] at h ⊢
  refine Calls.evalArgs_plain (wpAny_mono h (fun vs s₁ h₁ => ?_) fun _ _ x => x)
  obtain ⟨H1, m1, ps, l1, I1, R1, h1⟩ := h₁
  refine ⟨⟨I1.base _ _ ho, hfd⟩, ?_⟩
  exact I1.step l1 (fun H' l2 => h1 H' vs (R1.mono l2)) fun _ _ x => x
end
end Mine
namespace Mine

/-- how a statement ends -/
inductive Fl where
  | next | brk | cont
  | ret (p : PV)
def RepF (H : Fz) : Fl → Flow → Prop
  | .next, f => f = .next
  | .brk, f => f = .brk
  | .cont, f => f = .cont
  | .ret p, f => ∃ v, f = .ret v ∧ Rep H p v
def SPost (g : G) (env : Env) (H : Fz) (Q : Fl → Sto → Mu → Prop) (f : Flow) (s' : Shared) : Prop := ∃ H' σ' mu' fl, Fz.le H H' ∧ Inv g env σ' mu' H' s' ∧ RepF H' fl f ∧ Q fl σ' mu'
def ES (g : G) (A : Around) (env : Env) (σ : Sto) (mu : Mu) (st : Stmt) (Q : Fl → Sto → Mu → Prop) : Prop :=
  ∀ H s, Inv g env σ mu H s → wpAny g.M A (exec st env) (SPost g env H Q) NoE s
def EX (g : G) (A : Around) (env : Env) (σ : Sto) (mu : Mu) (st : List Stmt) (Q : Fl → Sto → Mu → Prop) : Prop :=
  ∀ H s, Inv g env σ mu H s → wpAny g.M A (execs st env) (SPost g env H Q) NoE s

section
variable {g : G} {A : Around} {env : Env} {σ : Sto} {mu : Mu}
theorem SPost.mono {H H' : Fz} {Q Q' : Fl → Sto → Mu → Prop} {v s} (h : SPost g env H' Q v s) (k : Fz.le H H') (hQ : ∀ p σ m, Q p σ m → Q' p σ m) : SPost g env H Q' v s :=
  let ⟨H'', σ', mu', p, h1, h2, h3, h4⟩ := h; ⟨H'', σ', mu', p, Fz.le_trans k h1, h2, h3, hQ _ _ _ h4⟩
theorem EX.mono {st Q Q'} (h : EX g A env σ mu st Q) (hQ : ∀ p σ m, Q p σ m → Q' p σ m) : EX g A env σ mu st Q' := fun H s I =>
  wpAny_mono (h H s I) (fun _ _ x => x.mono (Fz.le_refl _) hQ) fun _ _ x => x
theorem ES.mono {st Q Q'} (h : ES g A env σ mu st Q) (hQ : ∀ p σ m, Q p σ m → Q' p σ m) : ES g A env σ mu st Q' := fun H s I =>
  wpAny_mono (h H s I) (fun _ _ x => x.mono (Fz.le_refl _) hQ) fun _ _ x => x

theorem EX.nil {Q} (h : Q .next σ mu) : EX g A env σ mu [] Q := fun H s I => wpAny_execs_nil ⟨H, σ, mu, .next, Fz.le_refl _, I, rfl, h⟩
/-- what comes behind a statement -/
def Seq (g : G) (A : Around) (env : Env) (rest : List Stmt) (Q : Fl → Sto → Mu → Prop) (fl : Fl) (σ' : Sto) (mu' : Mu) : Prop := match fl with
  | .next => EX g A env σ' mu' rest Q
  | f => Q f σ' mu'
theorem EX.cons {st rest Q} (h : ES g A env σ mu st (Seq g A env rest Q)) : EX g A env σ mu (st :: rest) Q := fun H s I => by
  refine wpAny_execs_cons (wpAny_mono (h H s I) (fun f s₁ h₁ => ?_) fun _ _ x => x)
  obtain ⟨H1, σ1, m1, fl, l1, I1, R1, h1⟩ := h₁
  cases fl with
  | next => have R1 : f = .next := R1
            subst R1
            exact wpAny_mono (h1 H1 s₁ I1) (fun _ _ y => y.mono l1 fun _ _ _ z => z) fun _ _ x => x
  | brk => have R1 : f = .brk := R1
           subst R1; exact ⟨H1, σ1, m1, .brk, l1, I1, rfl, h1⟩
  | cont => have R1 : f = .cont := R1
            subst R1; exact ⟨H1, σ1, m1, .cont, l1, I1, rfl, h1⟩
  | ret p => obtain ⟨v, rfl, hv⟩ := R1
             exact ⟨H1, σ1, m1, .ret p, l1, I1, ⟨v, rfl, hv⟩, h1⟩

theorem Inv.store {H s x p v h'} (I : Inv g env σ mu H s) (hl : env.kindOf x = some .local) (R : Rep H p v) {m : Str → Option Value} (hm : ∀ y q, env.kindOf y = some .local → σ y = some q → ∃ u, m y = some u ∧ Rep H q u)
    (hn : h'.Ns env.locals (fun y => if y = x then some v else m y)) (hs : Heap.SameBut env.locals s.heap h') (tk : Nat) : Inv g env (σ.set x p) mu H { s with heap := h', toks := tk } := by
  have k : ∀ b o, b ≠ env.locals → s.heap.get? b = some o → h'.get? b = some o := fun b o hb e => (hs.2 b hb).trans e
  refine ⟨⟨fun a o e => k a o (by rintro rfl; rw [I.fr.offL] at e; cases e) (I.st.sub a o e), I.st.base, fun a w e => ?_, I.st.os, I.st.gens⟩, ⟨⟨_, hn, fun y q hy hq => ?_⟩, fun y c hc => ?_, I.fr.offL, I.fr.offC, I.fr.apart⟩⟩
  · have ha : a ≠ env.locals := by rintro rfl; rw [I.muL] at e; cases e
    obtain ⟨h1, h2⟩ := I.st.mus a w e
    exact ⟨h1, h2.mono (Fz.le_refl _) fun o eo => k a o ha eo⟩
  · unfold Sto.set at hq
    by_cases hyx : y = x
    · rw [if_pos hyx] at hq; cases hq; exact ⟨v, by rw [if_pos hyx], R⟩
    · rw [if_neg hyx] at hq; rw [if_neg hyx]; exact hm y q hy hq
  · obtain ⟨vo, ⟨o, ho, hd⟩, r⟩ := I.fr.cells y c hc
    refine ⟨vo, ⟨o, k c o (I.fr.offC y c hc).2 ho, hd⟩, fun q hy hq => ?_⟩
    unfold Sto.set at hq
    have hyx : y ≠ x := by rintro rfl; exact hy hl
    rw [if_neg hyx] at hq
    exact r q hy hq
theorem Inv.storeC {H s x p v c h'} (I : Inv g env σ mu H s) (hl : env.kindOf x = some .cell) (hc : env.cells.lookup x = some c) (R : Rep H p v)
    (hn : h'.IsCell c (some v)) (hs : Heap.SameBut c s.heap h') (tk : Nat) : Inv g env (σ.set x p) mu H { s with heap := h', toks := tk } := by
  have k : ∀ b o, b ≠ c → s.heap.get? b = some o → h'.get? b = some o := fun b o hb e => (hs.2 b hb).trans e
  refine ⟨⟨fun a o e => k a o (by rintro rfl; rw [(I.fr.offC x a hc).1] at e; cases e) (I.st.sub a o e), I.st.base, fun a w e => ?_, I.st.os, I.st.gens⟩, ⟨?_, fun y d hd => ?_, I.fr.offL, I.fr.offC, I.fr.apart⟩⟩
  · have ha : a ≠ c := by rintro rfl; rw [I.muC hc] at e; cases e
    obtain ⟨h1, h2⟩ := I.st.mus a w e
    exact ⟨h1, h2.mono (Fz.le_refl _) fun o eo => k a o ha eo⟩
  · obtain ⟨m, hn', r⟩ := I.fr.ns
    refine ⟨m, hn'.sameBut hs (Ne.symm (I.fr.offC x c hc).2), fun y q hy hq => ?_⟩
    unfold Sto.set at hq
    have hyx : y ≠ x := by rintro rfl; rw [hl] at hy; cases hy
    rw [if_neg hyx] at hq
    exact r y q hy hq
  · by_cases hyx : y = x
    · subst hyx
      rw [hc] at hd; cases hd
      refine ⟨some v, hn, fun q hy hq => ⟨v, rfl, ?_⟩⟩
      unfold Sto.set at hq
      rw [if_pos rfl] at hq; cases hq; exact R
    · have hdc : d ≠ c := by rintro rfl; exact hyx (I.fr.apart y x d hd hc)
      obtain ⟨vo, ⟨o, ho, hdd⟩, r⟩ := I.fr.cells y d hd
      refine ⟨vo, ⟨o, k d o hdc ho, hdd⟩, fun q hy hq => ?_⟩
      unfold Sto.set at hq
      rw [if_neg hyx] at hq
      exact r q hy hq

/-- a name of the frame's, a local or a cell -/
def Own (env : Env) (x : Str) : Prop := env.scope.kind = .function ∧ (env.kindOf x = some .local ∨ (env.kindOf x = some .cell ∧ (env.cells.lookup x).isSome = true))
theorem store_own {H s x p v} {K : Unit → Shared → Prop} (I : Inv g env σ mu H s) (ho : Own env x) (R : Rep H p v) (h : ∀ s', Inv g env (σ.set x p) mu H s' → K () s') : wpAny g.M A (storeName env x v) K NoE s := by
  obtain ⟨hk, hl | ⟨hl, hc⟩⟩ := ho
  · obtain ⟨m, hn, r⟩ := I.fr.ns
    exact wpAny_storeName_local hl hn (fun h' hn' hs' => h _ (I.store hl R r hn' hs' _)) (by rw [hk]; rfl)
  · obtain ⟨c, hc⟩ := Option.isSome_iff_exists.mp hc
    obtain ⟨vo, hn, r⟩ := I.fr.cells x c hc
    exact wpAny_storeName_cell hk hl hc hn fun h' hn' hs' => h _ (I.storeC hl hc R hn' hs' _)
theorem load_own {H s x p} {K : Value → Shared → Prop} (I : Inv g env σ mu H s) (ho : Own env x) (hσ : σ x = some p) (h : ∀ v, Rep H p v → K v s) : wpAny g.M A (loadName env x) K NoE s := by
  obtain ⟨hk, hl | ⟨hl, hc⟩⟩ := ho
  · obtain ⟨m, hn, r⟩ := I.fr.ns
    obtain ⟨v, hv, hr⟩ := r x p hl hσ
    exact wpAny_loadName_local hk hl hn hv (h v hr)
  · obtain ⟨c, hc⟩ := Option.isSome_iff_exists.mp hc
    obtain ⟨vo, hn, r⟩ := I.fr.cells x c hc
    obtain ⟨v, rfl, hr⟩ := r p (by rw [hl]; decide) hσ
    exact wpAny_loadName_cell hk hl hc hn (h v hr)
theorem EV.name {x pos p Q} (ho : Own env x) (hd : (x == ("__debug__" : Str)) = false) (hσ : σ x = some p) (h : Q p mu) : EV g A env σ mu (.Name x pos) Q := fun H s I =>
  wpAny_Name (load_own I ho hσ fun v R => ⟨H, mu, p, Fz.le_refl _, I, R, h⟩) hd

theorem ES.assign {x px value pos Q} (ho : Own env x) (h : EV g A env σ mu value (fun p m => Q .next (σ.set x p) m))
    (hs : swapsWith value (some (.Name x px)) pos.line env = pure false := by rfl) : ES g A env σ mu (.Assign [.Name x px] value pos) Q := fun H s I => by
  refine wpAny_Assign_Name (hs := hs) (wpAny_mono (h H s I) (fun v s₁ h₁ => ?_) fun _ _ x => x)
  obtain ⟨H1, m1, p, l1, I1, R1, h1⟩ := h₁
  exact store_own I1 ho R1 fun s' I' => ⟨H1, _, m1, .next, l1, I', rfl, h1⟩
theorem ES.aug {x px op value pos p Q} (ho : Own env x) (hσ : σ x = some p) (h : EV g A env σ mu value (fun q m => INP g A op m p q (fun r m' => Q .next (σ.set x r) m'))) :
    ES g A env σ mu (.AugAssign (.Name x px) op value pos) Q := fun H s I => by
  refine wpAny_AugAssign_Name (load_own I ho hσ fun old Ro => wpAny_mono (h H s I) (fun v s₁ h₁ => ?_) fun _ _ x => x)
  obtain ⟨H1, m1, q, l1, I1, R1, h1⟩ := h₁
  refine wpAny_mono (I1.step (Fz.le_refl _) (fun H' l2 => h1 H' old v (Ro.mono (Fz.le_trans l1 l2)) (R1.mono l2)) fun _ _ x => x) (fun r s₂ h₂ => ?_) fun _ _ x => x
  obtain ⟨H2, m2, r', l2, I2, R2, h2⟩ := h₂
  exact store_own I2 ho R2 fun s' I' => ⟨H2, _, m2, .next, Fz.le_trans l1 l2, I', rfl, h2⟩
theorem ES.if {test body orelse pos Q} (h : TR g A env σ mu test (fun b m => if b then EX g A env σ m body Q else EX g A env σ m orelse Q)) : ES g A env σ mu (.If test body orelse pos) Q := fun H s I => by
  refine wpAny_If (wpAny_mono (h H s I) (fun b s₁ h₁ => ?_) fun _ _ x => x)
  obtain ⟨H1, m1, l1, I1, h1⟩ := h₁
  cases b with
  | true => exact wpAny_mono (h1 H1 s₁ I1) (fun _ _ y => y.mono l1 fun _ _ _ z => z) fun _ _ x => x
  | false => exact wpAny_mono (h1 H1 s₁ I1) (fun _ _ y => y.mono l1 fun _ _ _ z => z) fun _ _ x => x
theorem ES.ret {e pos Q} (h : EV g A env σ mu e (fun p m => Q (.ret p) σ m)) : ES g A env σ mu (.Return (some e) pos) Q := fun H s I => by
  refine wpAny_Return_some (wpAny_mono (h H s I) (fun v s₁ h₁ => ?_) fun _ _ x => x)
  obtain ⟨H1, m1, p, l1, I1, R1, h1⟩ := h₁
  exact ⟨H1, σ, m1, .ret p, l1, I1, ⟨v, rfl, R1⟩, h1⟩
theorem ES.continue {pos Q} (h : Q .cont σ mu) : ES g A env σ mu (.Continue pos) Q := fun H s I => by
  rw [arm_exec_Continue]
  exact wpAny_bind (wpAny_standAt (wpAny_pure ⟨H, σ, mu, .cont, Fz.le_refl _, I, rfl, h⟩))
def plainPV : PV → Bool
  | .int _ => true
  | .none => true
  | .bool _ => true
  | _ => false
theorem ES.expr {e pos Q} (h : EV g A env σ mu e (fun p m => plainPV p = true ∧ Q .next σ m)) (hi : interactive env = false) (hs : swapsWith e none pos.line env = pure false := by rfl) : ES g A env σ mu (.Expr e pos) Q := fun H s I => by
  refine wpAny_Expr (hi := hi) (hs := hs) (wpAny_mono (h H s I) (fun v s₁ h₁ => ?_) fun _ _ x => x)
  obtain ⟨H1, m1, p, l1, I1, R1, hp, h1⟩ := h₁
  have k : SPost g env H Q .next s₁ := ⟨H1, σ, m1, .next, l1, I1, rfl, h1⟩
  cases p with
  | int i => obtain ⟨t, rfl⟩ := R1; exact k
  | none => have R1 : v = .none := R1
            subst R1; exact k
  | bool b => have R1 : v = .bool b := R1
              subst R1; exact k
  | _ => cases hp
end
end Mine
namespace Mine
section
variable {g : G} {A : Around} {env : Env} {σ : Sto} {mu : Mu}

/-- a heap that parts at one address that nobody here knows -/
theorem Inv.sameBut {H s a h'} (I : Inv g env σ mu H s) (hH : H a = none) (hm : mu a = none) (hL : a ≠ env.locals) (hC : ∀ x c, env.cells.lookup x = some c → c ≠ a)
    (hk : ∀ b o, b ≠ a → s.heap.get? b = some o → h'.get? b = some o) (tk : Nat) : Inv g env σ mu H { s with heap := h', toks := tk } := by
  refine ⟨⟨fun b o e => hk b o (by rintro rfl; rw [hH] at e; cases e) (I.st.sub b o e), I.st.base, fun b w e => ?_, I.st.os, I.st.gens⟩, ⟨?_, fun y c hc => ?_, I.fr.offL, I.fr.offC, I.fr.apart⟩⟩
  · have ha : b ≠ a := by rintro rfl; rw [hm] at e; cases e
    obtain ⟨h1, h2⟩ := I.st.mus b w e
    exact ⟨h1, h2.mono (Fz.le_refl _) fun o eo => hk b o ha eo⟩
  · obtain ⟨m, hn, r⟩ := I.fr.ns
    exact ⟨m, hn.at' fun o e => hk _ o (Ne.symm hL) e, r⟩
  · obtain ⟨vo, ⟨o, ho, hd⟩, r⟩ := I.fr.cells y c hc
    exact ⟨vo, ⟨o, hk c o (hC y c hc) ho, hd⟩, r⟩
def Fz.del (H : Fz) (a : Addr) : Fz := fun b => if b = a then none else H b
theorem Inv.freeze {H s a o} (I : Inv g env σ mu H s) (e : s.heap.get? a = some o) (hH : H a = none) (hm : mu a = none) (hL : a ≠ env.locals) (hC : ∀ x c, env.cells.lookup x = some c → c ≠ a) : Inv g env σ mu (H.add a o) s :=
  ⟨I.st.add e hH hm, I.fr.add hH hL hC⟩
theorem Rep.del {H a o p v} (R : Rep H p v) (ha : H a = some o) (hv : isVal o = false) : Rep (H.del a) p v := R.monoV fun b o' e h => by
  unfold Fz.del
  by_cases hb : b = a
  · subst hb; rw [ha] at e; cases e; rw [hv] at h; cases h
  · rw [if_neg hb]; exact e
theorem RepL.del {H a o p v} (R : RepL H p v) (ha : H a = some o) (hv : isVal o = false) : RepL (H.del a) p v := R.monoV fun b o' e h => by
  unfold Fz.del
  by_cases hb : b = a
  · subst hb; rw [ha] at e; cases e; rw [hv] at h; cases h
  · rw [if_neg hb]; exact e
theorem Inv.thaw {H s a o} (I : Inv g env σ mu H s) (ha : H a = some o) (hv : isVal o = false) (hB : g.B.get? a = none) : Inv g env σ mu (H.del a) s := by
  have sub : ∀ b o', H.del a b = some o' → H b = some o' := fun b o' e => by
    unfold Fz.del at e
    split at e
    · cases e
    · exact e
  have none' : ∀ b, H b = none → H.del a b = none := fun b e => by unfold Fz.del; split <;> first | rfl | exact e
  refine ⟨⟨fun b o' e => I.st.sub b o' (sub b o' e), fun b o' e => ?_, fun b w e => ?_, I.st.os, I.st.gens⟩, ⟨?_, fun y c hc => ?_, none' _ I.fr.offL, fun x c hc => ⟨none' _ (I.fr.offC x c hc).1, (I.fr.offC x c hc).2⟩, I.fr.apart⟩⟩
  · have hb : b ≠ a := by rintro rfl; rw [hB] at e; cases e
    unfold Fz.del; rw [if_neg hb]; exact I.st.base b o' e
  · obtain ⟨h1, h2⟩ := I.st.mus b w e
    refine ⟨none' _ h1, ?_⟩
    cases w with
    | list xs => obtain ⟨vs, h3, h4⟩ := h2; exact ⟨vs, h3, h4.del ha hv⟩
    | rit y l => exact h2
    | obj o => exact h2
  · obtain ⟨m, hn, r⟩ := I.fr.ns
    exact ⟨m, hn, fun x p h1 h2 => let ⟨v, h3, h4⟩ := r x p h1 h2; ⟨v, h3, h4.del ha hv⟩⟩
  · obtain ⟨vo, hn, r⟩ := I.fr.cells y c hc
    exact ⟨vo, hn, fun p h1 h2 => let ⟨v, h3, h4⟩ := r p h1 h2; ⟨v, h3, h4.del ha hv⟩⟩

/-- what a loop's turn leaves -/
def Turn (J : Sto → Mu → Prop) (Q : Fl → Sto → Mu → Prop) (fl : Fl) (σ : Sto) (mu : Mu) : Prop := match fl with
  | .next => J σ mu
  | .cont => J σ mu
  | .brk => Q .next σ mu
  | .ret p => Q (.ret p) σ mu

def ritOb (x l : Int) : Obj := { cls := .type "range_iterator", dict := none, data := .fields #[rawInt x, rawInt l, rawInt 1], slots := #[] }
theorem Inv.get_none {H s} (I : Inv g env σ mu H s) : g.B.get? s.heap.objs.size = none := by
  cases e : g.B.get? s.heap.objs.size with
  | none => rfl
  | some o => exact absurd (Heap.lt_size (I.base _ _ e)) (Nat.lt_irrefl _)
theorem Inv.L_lt {H s} (I : Inv g env σ mu H s) : env.locals < s.heap.objs.size := let ⟨_, hn, _⟩ := I.fr.ns; hn.lt
theorem Inv.C_lt {H s} (I : Inv g env σ mu H s) {x c} (hc : env.cells.lookup x = some c) : c < s.heap.objs.size := let ⟨_, hn, _⟩ := I.fr.cells x c hc; hn.lt

theorem ES.for_range {x px iter body pos Q} (J : Nat → Sto → Mu → Prop) (hh : A.handled = none) (hx : env.kindOf x = some .local) (hk : env.scope.kind = .function)
    (hs : ∀ x, foldedSetIterable iter env x = pure x)
    (h : EV g A env σ mu iter (fun p m => ∃ a b, p = .range a b ∧ (-(2 ^ 62) ≤ a ∧ a < 2 ^ 62) ∧ (-(2 ^ 62) ≤ b ∧ b < 2 ^ 62) ∧ J 0 σ m ∧
      (∀ (i : Nat) σ' m', (i : Int) < rlen a b → J i σ' m' → EX g A env (σ'.set x (.int (a + i))) m' body (Turn (J (i + 1)) Q)) ∧
      ∀ σ' m', J (rlen a b).toNat σ' m' → Q .next σ' m')) : ES g A env σ mu (.For (.Name x px) iter body [] pos) Q := fun H s I => by
  refine wpAny_For (hs := hs) (wpAny_mono (h H s I) (fun v s₁ h₁ => ?_) fun _ _ x => x)
  obtain ⟨H1, m1, p, l1, I1, R1, a, b, rfl, ba, bb, hJ0, turn, done⟩ := h₁
  have hn0 : 0 ≤ rlen a b := by unfold rlen; split <;> omega
  generalize hN : (rlen a b).toNat = N at done
  have hNN : rlen a b = (N : Int) := by omega
  refine iter_range I1.st R1 ba bb ?_
  generalize hI0 : s₁.heap.objs.size = I0
  have hL := I1.L_lt
  have hLne : I0 ≠ env.locals := Nat.ne_of_gt (hI0 ▸ hL)
  have hCne : ∀ x c, env.cells.lookup x = some c → c ≠ I0 := fun x c hc => Nat.ne_of_lt (hI0 ▸ I1.C_lt hc)
  have hB : g.B.get? I0 = none := hI0 ▸ I1.get_none
  have hH1 : H1 I0 = none := I1.st.none_of_size (Nat.le_of_eq hI0)
  have hm1 : m1 I0 = none := I1.st.mu_none_of_size (Nat.le_of_eq hI0)
  refine codeAny_mono (R := fun r s' => match r with | .ok f => SPost g env H1 Q f s' | .error e => False) ?_ (fun r s' hr => ?_)
  rotate_left
  · cases r with
    | ok f => exact SPost.mono hr l1 fun _ _ _ z => z
    | error e => exact hr.elim
  refine codeAny_forLoop (prog := g.prog) (w := g.w)
    (fun n s' => ∃ i H' σ' m', n = N + 1 - i ∧ i ≤ N ∧ Fz.le H1 H' ∧ Inv g env σ' m' H' s' ∧ H' I0 = none ∧ m' I0 = none ∧ s'.heap.get? I0 = some (ritOb (a + (i : Nat)) ((N : Int) - (i : Nat))) ∧ J i σ' m') ?_ (N + 1)
    ⟨0, H1, σ, m1, rfl, Nat.zero_le _, Fz.le_refl _, I1.keeps (fun _ _ e => Heap.get?_push_of_some _ e) _, hH1, hm1, by
      rw [← hI0, hNN]; simpa [ritOb] using (Heap.get?_push_size s₁.heap (o := ritOb a N) rfl), hJ0⟩
  rintro n s' ⟨i, H', σ', m', rfl, hi, le', I', hH', hm', hit, hJ⟩
  have nb : ∀ {α : Type} {t : Sem α} {K : α → Shared → Prop} {s : Shared} {E' : Value → Shared → Prop}, wpAny g.M A t K NoE s → wpAny g.M A t K E' s := fun h => wpAny_mono h (fun _ _ x => x) fun _ _ f => f.elim
  by_cases hlt : i < N
  · refine nb (wpAny_pyNext_range_item hit (by omega) fun h₁ hit₁ hs₁ => ?_)
    have I2 := I'.sameBut hH' hm' hLne hCne (fun b o hb e => (hs₁.2 b hb).trans e) (s'.toks + 1)
    have e1 : a + ((i + 1 : Nat) : Int) = a + (i : Int) + 1 := by push_cast; omega
    have e2 : (N : Int) - ((i + 1 : Nat) : Int) = (N : Int) - (i : Int) - 1 := by push_cast; omega
    have hit₂ : h₁.get? I0 = some (ritOb (a + ((i + 1 : Nat) : Int)) ((N : Int) - ((i + 1 : Nat) : Int))) := by rw [e1, e2]; exact hit₁
    have I3 := I2.freeze (o := ritOb (a + ((i + 1 : Nat) : Int)) ((N : Int) - ((i + 1 : Nat) : Int))) hit₂ hH' hm' hLne hCne
    refine nb (wpAny_assign_Name (store_own (p := .int (a + i)) I3 ⟨hk, .inl hx⟩ ⟨_, rfl⟩ fun s'' I4 => ?_))
    refine nb (wpAny_mono (turn i σ' m' (by omega) hJ _ s'' I4) (fun f s₃ h₃ => ?_) fun _ _ x => x)
    obtain ⟨H3, σ3, m3, fl, l3, I5, R3, hQ⟩ := h₃
    have hI3 : H3 I0 = some (ritOb (a + ((i + 1 : Nat) : Int)) ((N : Int) - ((i + 1 : Nat) : Int))) := l3 _ _ (Fz.add_self _ _ _)
    have hm3 : m3 I0 = none := by
      cases e : m3 I0 with
      | none => rfl
      | some w => rw [(I5.st.mus _ _ e).1] at hI3; cases hI3
    have I6 := I5.thaw hI3 rfl hB
    have le6 : Fz.le H1 (H3.del I0) := fun b o e => by
      have hb : b ≠ I0 := by rintro rfl; rw [hH1] at e; cases e
      unfold Fz.del; rw [if_neg hb]
      exact l3 _ _ (Fz.le_add hH' _ _ (le' _ _ e))
    have go : J (i + 1) σ3 m3 → ∃ m, m < N + 1 - i ∧ ∃ i H' σ' m', m = N + 1 - i ∧ i ≤ N ∧ Fz.le H1 H' ∧ Inv g env σ' m' H' s₃ ∧ H' I0 = none ∧ m' I0 = none ∧ s₃.heap.get? I0 = some (ritOb (a + (i : Nat)) ((N : Int) - (i : Nat))) ∧ J i σ' m' := fun hJ' =>
      ⟨N + 1 - (i + 1), by omega, i + 1, H3.del I0, σ3, m3, rfl, hlt, le6, I6, by unfold Fz.del; simp, hm3, I5.st.sub _ _ hI3, hJ'⟩
    cases fl with
    | next => have R3 : f = .next := R3
              subst R3; exact go hQ
    | cont => have R3 : f = .cont := R3
              subst R3; exact go hQ
    | brk => have R3 : f = .brk := R3
             subst R3; exact ⟨_, σ3, m3, .next, le6, I6, rfl, hQ⟩
    | ret p => obtain ⟨v, rfl, hv⟩ := R3
               exact ⟨_, σ3, m3, .ret p, le6, I6, ⟨v, rfl, hv.del hI3 rfl⟩, hQ⟩
  · have hin : i = N := by omega
    subst hin
    refine nb (next_end_keeps hh hit (by omega) fun h₁ k => nb (wpAny_execs_nil ?_))
    exact ⟨H', σ', m', .next, le', I'.keeps k _, rfl, done _ _ hJ⟩

/-- a loop over an iterator that the body may push on -/
theorem ES.for_it {x px iter body pos Q} (J : Int → Int → Sto → Mu → Prop) (hh : A.handled = none) (hx : env.kindOf x = some .local) (hk : env.scope.kind = .function)
    (hs : ∀ x, foldedSetIterable iter env x = pure x)
    (h : EV g A env σ mu iter (fun p m => ∃ I y l, p = .ref I ∧ m I = some (.rit y l) ∧ J y l σ m ∧
      (∀ y l σ' m', 0 < l → m' I = some (.rit y l) → J y l σ' m' → EX g A env (σ'.set x (.int y)) (m'.set I (.rit (y + 1) (l - 1))) body (Turn (fun σ'' m'' => ∃ y' l', m'' I = some (.rit y' l') ∧ l' < l ∧ J y' l' σ'' m'') Q)) ∧
      ∀ y l σ' m', l ≤ 0 → m' I = some (.rit y l) → J y l σ' m' → Q .next σ' m')) : ES g A env σ mu (.For (.Name x px) iter body [] pos) Q := fun H s I => by
  refine wpAny_For (hs := hs) (wpAny_mono (h H s I) (fun v s₁ h₁ => ?_) fun _ _ x => x)
  obtain ⟨H1, m1, p, l1, I1, R1, I0, y, l, rfl, hm, hJ0, turn, done⟩ := h₁
  have R1 : v = .ref I0 := R1
  subst R1
  refine wpAny_pyIter_rangeiter (I1.st.mus _ _ hm).2 ?_
  have nb : ∀ {α : Type} {t : Sem α} {K : α → Shared → Prop} {s : Shared} {E' : Value → Shared → Prop}, wpAny g.M A t K NoE s → wpAny g.M A t K E' s := fun h => wpAny_mono h (fun _ _ x => x) fun _ _ f => f.elim
  refine codeAny_mono (R := fun r s' => match r with | .ok f => SPost g env H1 Q f s' | .error e => False) ?_ (fun r s' hr => ?_)
  rotate_left
  · cases r with
    | ok f => exact SPost.mono hr l1 fun _ _ _ z => z
    | error e => exact hr.elim
  refine codeAny_forLoop (prog := g.prog) (w := g.w)
    (fun n s' => ∃ y l H' σ' m', n = l.toNat ∧ Fz.le H1 H' ∧ Inv g env σ' m' H' s' ∧ m' I0 = some (.rit y l) ∧ J y l σ' m') ?_ l.toNat
    ⟨y, l, H1, σ, m1, rfl, Fz.le_refl _, I1, hm, hJ0⟩
  rintro n s' ⟨y, l, H', σ', m', rfl, le', I', hm', hJ⟩
  by_cases hl : 0 < l
  · refine nb (wpAny_pyNext_range_item (I'.st.mus _ _ hm').2 hl fun h₁ hit₁ hs₁ => ?_)
    have hL : I0 ≠ env.locals := by rintro rfl; rw [I'.muL] at hm'; cases hm'
    have hC : ∀ x c, env.cells.lookup x = some c → c ≠ I0 := fun x c hc => by rintro rfl; rw [I'.muC hc] at hm'; cases hm'
    have S2 := I'.st.setMu (v' := .rit (y + 1) (l - 1)) hm' hs₁ hit₁ (s'.toks + 1)
    have kk : ∀ b o, b ≠ I0 → s'.heap.get? b = some o → h₁.get? b = some o := fun b o hb e => (hs₁.2 b hb).trans e
    have F2 : Fra env σ' H' h₁ := by
      refine ⟨?_, fun z c hc => ?_, I'.fr.offL, I'.fr.offC, I'.fr.apart⟩
      · obtain ⟨m, hn, r⟩ := I'.fr.ns
        exact ⟨m, hn.at' fun o e => kk _ o (Ne.symm hL) e, r⟩
      · obtain ⟨vo, ⟨o, ho, hd⟩, r⟩ := I'.fr.cells z c hc
        exact ⟨vo, ⟨o, kk c o (hC z c hc) ho, hd⟩, r⟩
    refine nb (wpAny_assign_Name (store_own (p := .int y) (⟨S2, F2⟩ : Inv g env σ' _ H' _) ⟨hk, .inl hx⟩ ⟨_, rfl⟩ fun s'' I4 => ?_))
    refine nb (wpAny_mono (turn y l σ' m' hl hm' hJ _ s'' I4) (fun f s₃ h₃ => ?_) fun _ _ x => x)
    obtain ⟨H3, σ3, m3, fl, l3, I5, R3, hQ⟩ := h₃
    have go : (∃ y' l', m3 I0 = some (.rit y' l') ∧ l' < l ∧ J y' l' σ3 m3) → ∃ m, m < l.toNat ∧ ∃ y l H' σ' m', m = l.toNat ∧ Fz.le H1 H' ∧ Inv g env σ' m' H' s₃ ∧ m' I0 = some (.rit y l) ∧ J y l σ' m' := by
      rintro ⟨y', l', h1, h2, h3⟩
      exact ⟨l'.toNat, by omega, y', l', H3, σ3, m3, rfl, Fz.le_trans le' l3, I5, h1, h3⟩
    cases fl with
    | next => have R3 : f = .next := R3
              subst R3; exact go hQ
    | cont => have R3 : f = .cont := R3
              subst R3; exact go hQ
    | brk => have R3 : f = .brk := R3
             subst R3; exact ⟨_, σ3, m3, .next, Fz.le_trans le' l3, I5, rfl, hQ⟩
    | ret p => obtain ⟨v, rfl, hv⟩ := R3
               exact ⟨_, σ3, m3, .ret p, Fz.le_trans le' l3, I5, ⟨v, rfl, hv⟩, hQ⟩
  · refine nb (next_end_keeps hh (I'.st.mus _ _ hm').2 (by omega) fun h₁ k => nb (wpAny_execs_nil ?_))
    exact ⟨H', σ', m', .next, le', I'.keeps k _, rfl, done y l _ _ (by omega) hm' hJ⟩
end
end Mine
namespace Mine
section
variable {g : G} {A : Around} {env : Env} {σ : Sto} {mu : Mu}

/-- store into a list that may change -/
theorem Inv.setMu {H s a v v' h'} (I : Inv g env σ mu H s) (ha : mu a = some v) (hs : Heap.SameBut a s.heap h') (hR : MRep H h' a v') (tk : Nat) : Inv g env σ (mu.set a v') H { s with heap := h', toks := tk } := by
  have hL : a ≠ env.locals := by rintro rfl; rw [I.muL] at ha; cases ha
  have kk : ∀ b o, b ≠ a → s.heap.get? b = some o → h'.get? b = some o := fun b o hb e => (hs.2 b hb).trans e
  refine ⟨I.st.setMu ha hs hR tk, ⟨?_, fun z c hc => ?_, I.fr.offL, I.fr.offC, I.fr.apart⟩⟩
  · obtain ⟨m, hn, r⟩ := I.fr.ns
    exact ⟨m, hn.at' fun o e => kk _ o (Ne.symm hL) e, r⟩
  · obtain ⟨vo, ⟨o, ho, hd⟩, r⟩ := I.fr.cells z c hc
    exact ⟨vo, ⟨o, kk c o (by rintro rfl; rw [I.muC hc] at ha; cases ha) ho, hd⟩, r⟩
theorem Inv.setItem {H : Fz} {s : Shared} {a : Addr} {xs : List PV} {k : Int} {t : Tok} {p : PV} {v : Value} {K : Unit → Shared → Prop} (I : Inv g env σ mu H s) (ha : mu a = some (.list xs)) (h0 : 0 ≤ k) (h1 : k < xs.length) (h2 : k < 2 ^ 63) (R : Rep H p v)
    (h : ∀ s', Inv g env σ (mu.set a (.list (xs.set k.toNat p))) H s' → K () s') : wpAny g.M A (setItem (.ref a) (.int k t) v) K NoE s := by
  obtain ⟨vs, hl, hr⟩ := (I.st.mus _ _ ha).2
  refine wpAny_setItem_list hl h0 h2 (by simp [hr.length]; omega) fun h' hl' hs' => h _ ?_
  refine I.setMu (v' := .list (xs.set k.toNat p)) ha hs' ⟨vs.set k.toNat v, ?_, hr.set _ R⟩ _
  simpa using hl'

theorem ES.assign_sub {o i spos value pos Q} (h : EV g A env σ mu value (fun p m => EV g A env σ m o (fun q m1 => EV g A env σ m1 i (fun r m2 =>
      ∃ (a : Addr) (xs : List PV) (k : Int), q = .ref a ∧ r = .int k ∧ m2 a = some (.list xs) ∧ 0 ≤ k ∧ k < xs.length ∧ k < 2 ^ 63 ∧ Q .next σ (m2.set a (.list (xs.set k.toNat p)))))))
    (hs : swapsWith value (some (.Subscript o i spos)) pos.line env = pure false := by rfl) : ES g A env σ mu (.Assign [.Subscript o i spos] value pos) Q := fun H s I => by
  refine wpAny_Assign_Subscript (hs := hs) (wpAny_mono (h H s I) (fun v s₁ h₁ => ?_) fun _ _ x => x)
  obtain ⟨H1, m1, p, l1, I1, R1, h1⟩ := h₁
  refine wpAny_mono (h1 H1 s₁ I1) (fun ov s₂ h₂ => ?_) fun _ _ x => x
  obtain ⟨H2, m2, q, l2, I2, R2, h2⟩ := h₂
  refine wpAny_mono (h2 H2 s₂ I2) (fun iv s₃ h₃ => ?_) fun _ _ x => x
  obtain ⟨H3, m3, r, l3, I3, R3, a, xs, k, rfl, rfl, hm, k0, k1, k2, hQ⟩ := h₃
  have R2 : ov = .ref a := R2
  subst R2
  obtain ⟨t, rfl⟩ := R3
  exact I3.setItem hm k0 k1 k2 (R1.mono (Fz.le_trans l2 l3)) fun s' I' => ⟨H3, σ, _, .next, Fz.le_trans l1 (Fz.le_trans l2 l3), I', rfl, hQ⟩

theorem ES.aug_sub {o x px op spos value pos Q} (h : EV g A env σ mu o (fun p m => EV g A env σ m (.Name x px) (fun q m1 =>
      ∃ (a : Addr) (xs : List PV) (k : Int) (e : PV), p = .ref a ∧ q = .int k ∧ m1 a = some (.list xs) ∧ 0 ≤ k ∧ k < 2 ^ 63 ∧ xs[k.toNat]? = some e ∧
        EV g A env σ m1 value (fun r m2 => INP g A op m2 e r (fun z m3 => m3 a = some (.list xs) ∧ Q .next σ (m3.set a (.list (xs.set k.toNat z)))))))) :
    ES g A env σ mu (.AugAssign (.Subscript o (.Name x px) spos) op value pos) Q := fun H s I => by
  refine wpAny_AugAssign_Subscript (wpAny_mono (h H s I) (fun ov s₁ h₁ => ?_) fun _ _ x => x)
  obtain ⟨H1, m1, p, l1, I1, R1, h1⟩ := h₁
  refine wpAny_mono (h1 H1 s₁ I1) (fun iv s₂ h₂ => ?_) fun _ _ x => x
  obtain ⟨H2, m2, q, l2, I2, R2, a, xs, k, e, rfl, rfl, hm, k0, k2, he, h2⟩ := h₂
  have R1 : ov = .ref a := R1
  subst R1
  obtain ⟨t, rfl⟩ := R2
  obtain ⟨vs, hl, hr⟩ := (I2.st.mus _ _ hm).2
  obtain ⟨old, hold, Ro⟩ := hr.get he
  refine wpAny_getItem_list hl k0 k2 (by simpa using hold) ?_
  refine wpAny_mono (h2 H2 s₂ I2) (fun v s₃ h₃ => ?_) fun _ _ x => x
  obtain ⟨H3, m3, r, l3, I3, R3, h3⟩ := h₃
  refine wpAny_mono (I3.step (Fz.le_refl _) (fun H' l4 => h3 H' old v (Ro.mono (Fz.le_trans l3 l4)) (R3.mono l4)) fun _ _ x => x) (fun new s₄ h₄ => ?_) fun _ _ x => x
  obtain ⟨H4, m4, z, l4, I4, R4, hm4, hQ⟩ := h₄
  have hlt : k < xs.length := by
    have := (List.getElem?_eq_some_iff.mp he).1
    omega
  exact I4.setItem hm4 k0 hlt k2 R4 fun s' I' => ⟨H4, σ, _, .next, Fz.le_trans l1 (Fz.le_trans l2 (Fz.le_trans l3 l4)), I', rfl, hQ⟩

/-- x, y = e -/
theorem kp_of_ext {h h' : Heap} (e : Heap.ExtBut h.objs.size h h') : Kp h h' := fun b o eb => e b o (Nat.ne_of_lt (Heap.lt_size eb)) eb
theorem RepL.two' {H p q vs} (h : RepL H [p, q] vs) : ∃ v w, vs = [v, w] ∧ Rep H p v ∧ Rep H q w := h.two
theorem bind_own {H s x p v} {K : Unit → Shared → Prop} (I : Inv g env σ mu H s) (ho : Own env x) (R : Rep H p v) (h : ∀ s', Inv g env (σ.set x p) mu H s' → K () s') : wpAny g.M A (bindName env x v) K NoE s :=
  wpAny_bindName (store_own I ho R h)
theorem ES.assign2 {x y px py kk tp value pos Q} (hh : A.handled = none) (hox : Own env x) (hoy : Own env y) (h : EV g A env σ mu value (fun p m => ∃ a b, p = .tup [a, b] ∧ Q .next ((σ.set x a).set y b) m))
    (hs : swapsWith value (some (.Tuple [.Name x px, .Name y py] kk tp)) pos.line env = pure false := by rfl) (hw : swappedStores [.Tuple [.Name x px, .Name y py] kk tp] value env = pure none) :
    ES g A env σ mu (.Assign [.Tuple [.Name x px, .Name y py] kk tp] value pos) Q := fun H s I => by
  rw [arm_exec_Assign]
  refine wpAny_bind (wpAny_standAt (wpAny_bind (wpAny_of_eq (a := false) hs ?_)))
  rw [if_neg Bool.false_ne_true]
  refine wpAny_bind (wpAny_mono (h H s I) (fun v s₁ h₁ => ?_) fun _ _ x => x)
  obtain ⟨H1, m1, p, l1, I1, R1, a, b, rfl, h1⟩ := h₁
  refine wpAny_bind (wpAny_of_eq (a := none) hw ?_)
  obtain ⟨t, vs, rfl, hr, ht⟩ := R1.isTup
  obtain ⟨va, vb, rfl, Ra, Rb⟩ := hr.two
  show wpAny g.M A (do PySem.assign (.Tuple [.Name x px, .Name y py] kk tp) env (.ref t); pure Flow.next) _ _ _
  refine wpAny_bind (wpAny_assign_Tuple hh (ht s₁ I1.st.sub) rfl rfl fun h' e => ?_)
  have I2 := I1.keeps (kp_of_ext e) s₁.toks
  show wpAny g.M A (assignInOrder [PySem.assign (.Name x px) env, PySem.assign (.Name y py) env] [va, vb]) _ _ _
  refine wpAny_bind (m := holding _ _) (wpAny_holding (wpAny_assign_Name (store_own I2 hox Ra fun s2 I3 => ?_)))
  refine wpAny_bind (m := holding _ _) (wpAny_holding (wpAny_assign_Name (store_own I3 hoy Rb fun s3 I4 => ?_)))
  exact wpAny_pure (wpAny_pure ⟨H1, _, m1, .next, l1, I4, rfl, h1⟩)
theorem ES.assign2s {x y px py kk tp value pos Q} (hh : A.handled = none) (hox : Own env x) (hoy : Own env y) (hxy : y ≠ x) (h : EV g A env σ mu value (fun p m => ∃ a b, p = .tup [a, b] ∧ Q .next ((σ.set x a).set y b) m))
    (hs : swapsWith value (some (.Tuple [.Name x px, .Name y py] kk tp)) pos.line env = pure false := by rfl) (hw : swappedStores [.Tuple [.Name x px, .Name y py] kk tp] value env = pure (some [x, y])) :
    ES g A env σ mu (.Assign [.Tuple [.Name x px, .Name y py] kk tp] value pos) Q := fun H s I => by
  rw [arm_exec_Assign]
  refine wpAny_bind (wpAny_standAt (wpAny_bind (wpAny_of_eq (a := false) hs ?_)))
  rw [if_neg Bool.false_ne_true]
  refine wpAny_bind (wpAny_mono (h H s I) (fun v s₁ h₁ => ?_) fun _ _ x => x)
  obtain ⟨H1, m1, p, l1, I1, R1, a, b, rfl, h1⟩ := h₁
  refine wpAny_bind (wpAny_of_eq (a := some [x, y]) hw ?_)
  obtain ⟨t, vs, rfl, hr, ht⟩ := R1.isTup
  obtain ⟨va, vb, rfl, Ra, Rb⟩ := hr.two
  show wpAny g.M A (do rule "assign.swapped-stores"; let items ← unpackItems (.ref t) 2 none; assignInOrder [fun v => bindName env y v, fun v => bindName env x v] items.reverse; pure Flow.next) _ _ _
  refine wpAny_bind (wpAny_rule (wpAny_bind ?_))
  refine wpAny_unpackItems_tuple (items := #[va, vb]) hh (ht s₁ I1.st.sub) fun h' e => ?_
  have I2 := I1.keeps (kp_of_ext e) s₁.toks
  show wpAny g.M A (do assignInOrder [fun v => bindName env y v, fun v => bindName env x v] [vb, va]; pure Flow.next) _ _ _
  refine wpAny_bind ?_
  refine wpAny_bind (m := holding _ _) (wpAny_holding (bind_own I2 hoy Rb fun s2 I3 => ?_))
  refine wpAny_bind (m := holding _ _) (wpAny_holding (bind_own I3 hox Ra fun s3 I4 => ?_))
  have e2 : ((σ.set y b).set x a) = ((σ.set x a).set y b) := by
    funext z
    unfold Sto.set
    by_cases g1 : z = x
    · subst g1; rw [if_pos rfl, if_neg (Ne.symm hxy), if_pos rfl]
    · by_cases g2 : z = y
      · subst g2; rw [if_neg g1, if_pos rfl, if_pos rfl]
      · rw [if_neg g1, if_neg g2, if_neg g2, if_neg g1]
  exact wpAny_pure (wpAny_pure ⟨H1, _, m1, .next, l1, e2 ▸ I4, rfl, h1⟩)
end
end Mine
namespace Mine

def bindS : List Str → List PV → Sto → Sto
  | n :: ns, p :: ps, σ => bindS ns ps (σ.set n p)
  | _, _, σ => σ

theorem bind_ok {kindOf : Str → Option NameKind} {H : Fz} : ∀ (names : List Str) (ps : List PV) (vs : List Value) (σ : Sto) (m : Str → Option Value), (∀ n ∈ names, kindOf n = some .local) → RepL H ps vs →
    (∀ x p, kindOf x = some .local → σ x = some p → ∃ v, m x = some v ∧ Rep H p v) →
    ∀ x p, kindOf x = some .local → bindS names ps σ x = some p → ∃ v, bindL kindOf (names.zip vs) m x = some v ∧ Rep H p v
  | [], ps, vs, σ, m, _, _, h, x, p, hx, hp => by
    have : bindS [] ps σ = σ := by cases ps <;> rfl
    rw [this] at hp
    exact h x p hx hp
  | n :: names, [], vs, σ, m, hn, hr, h, x, p, hx, hp => by
    have : vs = [] := by unfold RepL at hr; exact hr
    subst this
    exact h x p hx hp
  | n :: names, q :: ps, vs, σ, m, hn, hr, h, x, p, hx, hp => by
    unfold RepL at hr
    obtain ⟨v, vs', rfl, h1, h2⟩ := hr
    have hl : kindOf n = some .local := hn n List.mem_cons_self
    have := bind_ok names ps vs' (σ.set n q) (fun y => if y = n then some v else m y) (fun k hk => hn k (List.mem_cons_of_mem _ hk)) h2 (fun y r hy hr => by
      unfold Sto.set at hr
      by_cases e : y = n
      · rw [if_pos e] at hr; cases hr; exact ⟨v, by rw [if_pos e], h1⟩
      · rw [if_neg e] at hr; rw [if_neg e]; exact h y r hy hr) x p hx hp
    show ∃ u, bindL kindOf ((n, v) :: names.zip vs') m x = some u ∧ Rep H p u
    unfold bindL
    rw [if_pos hl]
    exact this
theorem bindC_none {kindOf : Str → Option NameKind} : ∀ (names : List Str) (vs : List Value) (m : Str → Option Value), (∀ n ∈ names, kindOf n = some .local) → bindC kindOf (names.zip vs) m = m
  | [], _, _, _ => rfl
  | n :: names, [], _, _ => rfl
  | n :: names, v :: vs, m, h => by
    show bindC kindOf ((n, v) :: names.zip vs) m = m
    unfold bindC
    rw [if_pos (h n List.mem_cons_self)]
    exact bindC_none names vs m fun k hk => h k (List.mem_cons_of_mem _ hk)
theorem bindS_kind : ∀ (names : List Str) (ps : List PV) (σ : Sto) {x : Str} {p : PV}, bindS names ps σ x = some p → x ∈ names ∨ σ x = some p
  | [], ps, σ, x, p, h => by
    have : bindS [] ps σ = σ := by cases ps <;> rfl
    rw [this] at h; exact .inr h
  | n :: names, [], σ, x, p, h => .inr h
  | n :: names, q :: ps, σ, x, p, h => by
    rcases bindS_kind names ps (σ.set n q) h with h1 | h1
    · exact .inl (List.mem_cons_of_mem _ h1)
    · unfold Sto.set at h1
      by_cases e : x = n
      · subst e; exact .inl List.mem_cons_self
      · rw [if_neg e] at h1; exact .inr h1

/-- how a def hands on -/
def Ret (Q : PV → Mu → Prop) (fl : Fl) (σ : Sto) (mu : Mu) : Prop := match fl with
  | .ret p => Q p mu
  | _ => Q .none mu

section
variable {g : G} {A : Around} {mu : Mu}
theorem CALL.fn {b : Addr} {o : Obj} {fd : FuncData} {body : List Stmt} {ps : List PV} {Q : PV → Mu → Prop} (names : List Str) (hroom : A.depth < recursionLimit) (ho : g.B.get? b = some o) (hfd : o.data = .func fd)
    (hcode : g.B.CodeRec fd.code fd.qualname) (hbody : fd.body = .stmts body) (hclo : fd.closure = []) (hbind : ∀ vs : List Value, vs.length = ps.length → bindArgs fd ⟨vs, []⟩ = pure (names.zip vs))
    (hloc : ∀ n ∈ names, fd.scope.names.lookup n = some .local) (hco : fd.scope.isCoroutine = false) (hgen : fd.scope.isGenerator = false) (hk : fd.scope.kind = .function)
    (h : ∀ L, EX g (A.deeper (callEnvC fd L b)) (callEnvC fd L b) (bindS names ps fun _ => none) mu body (Ret Q)) : CALL g A (.ref b) mu ps Q := fun H vs R s S => by
  have kB : Kp g.B s.heap := fun a o e => S.sub a o (S.base a o e)
  refine wpAny_call (codeAny_call_cells hroom (kB _ _ ho) hfd (g.T.nolimit.keeps kB) (hcode.keeps kB) hbody (hbind vs R.length) hclo (fun x hx => .inl ?_) (fun s₁ X => ?_) hco hgen hk)
  · have : x.1 ∈ names := by
      obtain ⟨n, v⟩ := x
      exact (List.of_mem_zip hx).1
    exact hloc _ this
  have hloc' : ∀ n ∈ names, (callEnvC fd s.heap.objs.size b).kindOf n = some .local := hloc
  obtain ⟨⟨⟨h₁, tk, rfl⟩, hns, hkeep, hfresh⟩, hcell, hap, habove⟩ := X
  have hsz : ∀ a, s.heap.objs.size ≤ a → H a = none := fun a ha => S.none_of_size ha
  have I : Inv g (callEnvC fd s.heap.objs.size b) (bindS names ps fun _ => none) mu H { s with heap := h₁, toks := tk } := by
    refine ⟨S.keeps hkeep tk, ⟨⟨_, hns, bind_ok names ps vs _ _ hloc' R (fun _ _ _ e => nomatch e)⟩, fun x c hc => ?_, hsz _ (Nat.le_refl _), fun x c hc => ?_, fun x y c hx hy => name_of_addr hap (mem_of_lookup hx) (mem_of_lookup hy)⟩⟩
    · refine ⟨none, ?_, fun p hx hp => ?_⟩
      · have := hcell x c hc
        rw [bindC_none names vs _ hloc'] at this
        exact this
      · rcases bindS_kind names ps _ hp with h1 | h1
        · exact absurd (hloc' x h1) hx
        · cases h1
    · have hlt := habove x c (mem_of_lookup hc)
      exact ⟨hsz c (Nat.le_of_lt hlt), Nat.ne_of_gt hlt⟩
  refine wpAny_mono (h s.heap.objs.size H _ I) (fun f s' hs => ?_) fun _ _ x => x.elim
  obtain ⟨H', σ', mu', fl, le, I', RF, hQ⟩ := hs
  cases fl with
  | ret p => obtain ⟨v, rfl, hv⟩ := RF
             exact ⟨H', mu', p, le, I'.st, hv, hQ⟩
  | next => have RF : f = .next := RF
            subst RF; exact ⟨H', mu', .none, le, I'.st, rfl, hQ⟩
  | brk => have RF : f = .brk := RF
           subst RF; exact ⟨H', mu', .none, le, I'.st, rfl, hQ⟩
  | cont => have RF : f = .cont := RF
            subst RF; exact ⟨H', mu', .none, le, I'.st, rfl, hQ⟩
end
end Mine
namespace Mine

def MuLe (m m' : Mu) : Prop := ∀ a v, m a = some v → m' a = some v
theorem MuLe.refl (m : Mu) : MuLe m m := fun _ _ e => e
theorem MuLe.trans {m m' m'' : Mu} (x : MuLe m m') (y : MuLe m' m'') : MuLe m m'' := fun a v e => y a v (x a v e)
theorem MuLe.set {m : Mu} {a v} (h : m a = none) : MuLe m (m.set a v) := fun b w e => by
  rw [Mu.set_ne (by rintro rfl; rw [h] at e; cases e)]; exact e

section
variable {g : G} {A : Around} {env : Env} {σ : Sto} {mu : Mu}
theorem Inv.muLe {H s mu'} (I : Inv g env σ mu' H s) (k : MuLe mu mu') : Inv g env σ mu H s :=
  ⟨⟨I.st.sub, I.st.base, fun a v e => I.st.mus a v (k a v e), I.st.os, I.st.gens⟩, I.fr⟩
theorem Inv.sto {H s σ'} (I : Inv g env σ' mu H s) (k : ∀ x p, σ x = some p → σ' x = some p) : Inv g env σ mu H s :=
  ⟨I.st, ⟨let ⟨m, hn, r⟩ := I.fr.ns; ⟨m, hn, fun x p h1 h2 => r x p h1 (k x p h2)⟩, fun x c hc => let ⟨vo, hn, r⟩ := I.fr.cells x c hc; ⟨vo, hn, fun p h1 h2 => r p h1 (k x p h2)⟩, I.fr.offL, I.fr.offC, I.fr.apart⟩⟩
theorem Inv.addMu {H s a o} (I : Inv g env σ mu H s) (ha : s.heap.get? a = some o) (hd : isDat o = true) (hH : H a = none) : Inv g env σ (mu.set a (.obj o)) H s :=
  ⟨⟨I.st.sub, I.st.base, fun b v e => by
    by_cases hb : b = a
    · subst hb; rw [Mu.set_self] at e; cases e; exact ⟨hH, ha, hd⟩
    · rw [Mu.set_ne hb] at e; exact I.st.mus b v e, I.st.os, I.st.gens⟩, I.fr⟩

/-- a walk over items -/
structure Src (g : G) (A : Around) (H : Fz) (items : List PV) (I0 : Addr) (S : Nat → Heap → Prop) : Prop where
  W : ∃ fp P, Walks g.prog g.w A I0 fp [I0] items.length P S ∧ (∀ b ∈ fp, b = I0 ∨ (H b).isSome = true) ∧ (∀ i v, P i v → ∃ p, items[i]? = some p ∧ Rep H p v)
  obj : ∀ i h, S i h → ∃ o, h.get? I0 = some o ∧ isDat o = true
theorem Src.mono {H H' : Fz} {items I0 S} (x : Src g A H items I0 S) (k : Fz.le H H') : Src g A H' items I0 S :=
  ⟨let ⟨fp, P, h1, h2, h3⟩ := x.W; ⟨fp, P, h1, fun b hb => (h2 b hb).imp id fun e => by obtain ⟨o, e⟩ := Option.isSome_iff_exists.mp e; rw [k b o e]; rfl, fun i v hp => let ⟨p, h4, h5⟩ := h3 i v hp; ⟨p, h4, h5.mono k⟩⟩, x.obj⟩
theorem Src.item {H : Fz} {items I0 S i s} {Q : Option Value → Shared → Prop} (x : Src g A H items I0 S) (hi : i < items.length) (hs : S i s.heap)
    (h : ∀ v p h' tk, items[i]? = some p → Rep H p v → S (i + 1) h' → (∀ b o, b ≠ I0 → s.heap.get? b = some o → h'.get? b = some o) → Q (some v) { s with heap := h', toks := tk }) : wpAny g.M A (pyNext (.ref I0)) Q NoE s := by
  obtain ⟨fp, P, h1, h2, h3⟩ := x.W
  refine h1.item i s Q _ hi hs fun v h' tk hp hst hk => ?_
  obtain ⟨p, h4, h5⟩ := h3 i v hp
  exact h v p h' tk h4 h5 hst fun b o hb e => hk b o (by simpa using hb) e
theorem Src.done {H : Fz} {items I0 S s} {Q : Option Value → Shared → Prop} (x : Src g A H items I0 S) (hs : S items.length s.heap)
    (h : ∀ h' tk, (∀ b o, b ≠ I0 → s.heap.get? b = some o → h'.get? b = some o) → Q none { s with heap := h', toks := tk }) : wpAny g.M A (pyNext (.ref I0)) Q NoE s := by
  obtain ⟨fp, P, h1, h2, h3⟩ := x.W
  exact h1.done s Q _ hs fun h' tk hk => h h' tk fun b o hb e => hk b o (by simpa using hb) e
theorem Src.frame {H : Fz} {items I0 S i h h'} (x : Src g A H items I0 S) (hs : S i h) (hH : ∀ a o, H a = some o → h.get? a = some o) (hH' : ∀ a o, H a = some o → h'.get? a = some o)
    (k : ∀ o, h.get? I0 = some o → h'.get? I0 = some o) : S i h' := by
  obtain ⟨fp, P, h1, h2, h3⟩ := x.W
  refine h1.frame i h h' hs fun b hb o e => ?_
  rcases h2 b hb with rfl | e2
  · exact k o e
  · obtain ⟨o', e2⟩ := Option.isSome_iff_exists.mp e2
    have := hH b o' e2
    rw [e] at this; cases this
    exact hH' b o e2

def ITER (g : G) (A : Around) (p : PV) (items : List PV) : Prop := ∀ (H : Fz) mu s v (K : Value → Shared → Prop), St g mu H s → Rep H p v →
  (∀ o S, Src g A H items s.heap.objs.size S → o.isFreed = false → isDat o = true → S 0 (s.heap.push o) → K (.ref s.heap.objs.size) { s with heap := s.heap.push o }) → wpAny g.M A (pyIter v) K NoE s

theorem ITER.list {xs} (hh : A.handled = none) : ITER g A (.list xs) xs := fun H mu s v K S R h => by
  have R0 := R
  unfold Rep at R
  obtain ⟨a, o, vs, rfl, ho, ⟨n, rfl⟩, hr⟩ := R
  have ho' := S.sub _ _ ho
  have hl : s.heap.IsList a vs.toArray := ⟨_, ho', rfl, n, rfl⟩
  have hne : a ≠ s.heap.objs.size := Nat.ne_of_lt (Heap.lt_size ho')
  have src : Src g A H xs s.heap.objs.size (fun i h => h.IsListIter s.heap.objs.size a i ∧ h.IsList a vs.toArray) := by
   refine ⟨⟨[s.heap.objs.size, a], fun i v => vs.toArray[i]? = some v, ?_, ?_, ?_⟩, ?_⟩
   · have := Walks.list (prog := g.prog) (w := g.w) hh s.heap.objs.size a hne vs.toArray
     rw [show vs.toArray.size = xs.length by simp [hr.length]] at this
     exact this
   · intro b hb
     rcases List.mem_cons.mp hb with rfl | hb
     · exact .inl rfl
     · rcases List.mem_cons.mp hb with rfl | hb
       · exact .inr (by rw [ho]; rfl)
       · cases hb
   · intro i v hv
     have hv : vs[i]? = some v := by simpa using hv
     have hlt : i < xs.length := by
       have := (List.getElem?_eq_some_iff.mp hv).1
       rw [hr.length] at this; exact this
     obtain ⟨u, hu, hR⟩ := hr.get (List.getElem?_eq_getElem hlt)
     rw [hv] at hu; cases hu
     exact ⟨_, List.getElem?_eq_getElem hlt, hR⟩
   · rintro i h ⟨⟨o, ho, hc, hd⟩, _⟩
     exact ⟨o, ho, by unfold isDat; rw [hd]⟩
  exact wpAny_pyIter_list hl (h _ _ src rfl rfl ⟨⟨_, Heap.get?_push_size _ rfl, rfl, rfl⟩, hl.push _⟩)

def rangeItems (a b : Int) : List PV := (List.range (rlen a b).toNat).map fun i => .int (a + (i : Nat))
theorem ITER.range {a b} (hh : A.handled = none) (ha : -(2 ^ 62) ≤ a ∧ a < 2 ^ 62) (hb : -(2 ^ 62) ≤ b ∧ b < 2 ^ 62) : ITER g A (.range a b) (rangeItems a b) := fun H mu s v K S R h => by
  have hn0 : 0 ≤ rlen a b := by unfold rlen; split <;> omega
  have hlen : (rangeItems a b).length = (rlen a b).toNat := by simp [rangeItems]
  have W := Walks.range (prog := g.prog) (w := g.w) hh s.heap.objs.size a 1 (rlen a b).toNat
  have src : Src g A H (rangeItems a b) s.heap.objs.size (fun i h => IsRangeIter h s.heap.objs.size (a + (i : Nat) * 1) (((rlen a b).toNat : Int) - (i : Nat)) 1) := by
    refine ⟨⟨[s.heap.objs.size], fun i v => i < (rlen a b).toNat ∧ ∃ t, v = .int (a + (i : Nat) * 1) t, ?_, fun b hb => .inl (by simpa using hb), ?_⟩, fun i h hh => ⟨_, hh, rfl⟩⟩
    · rw [hlen]
      exact ⟨W.sub, W.frame, fun i s Q E hi hs hQ => W.item i s Q E hi hs fun v h' tk hp => hQ v h' tk ⟨hi, hp⟩, W.done, W.self⟩
    · rintro i v ⟨hi, t, rfl⟩
      exact ⟨.int (a + (i : Nat)), by simp [rangeItems, hi], t, by simp⟩
  refine iter_range S R ha hb (h _ _ src rfl rfl ?_)
  show (s.heap.push _).get? _ = _
  rw [Heap.get?_push_size _ rfl]
  simp [Int.toNat_of_nonneg hn0]

def strItems (x : Str) : List PV := x.cps.toList.map fun c => .str ⟨#[c]⟩
theorem ITER.str {x} (hh : A.handled = none) : ITER g A (.str x) (strItems x) := fun H mu s v K S R h => by
  obtain ⟨t, rfl⟩ := R
  have hlen : (strItems x).length = x.cps.size := by simp [strItems]
  have hitem : ∀ i v, SignAt x i v → ∃ p, (strItems x)[i]? = some p ∧ Rep H p v := by
    rintro i v ⟨c, u, hc, rfl⟩
    refine ⟨.str ⟨#[c]⟩, ?_, u, rfl⟩
    have : x.cps.toList[i]? = some c := by simpa using hc
    simp [strItems, this]
  cases ha : x.cps.all (· < 128)
  · have src : Src g A H (strItems x) s.heap.objs.size (fun i h => h.IsStrIter s.heap.objs.size "str_iterator" x t i) :=
      ⟨⟨[s.heap.objs.size], SignAt x, hlen ▸ Walks.strWide hh _ x t, fun b hb => .inl (by simpa using hb), hitem⟩, fun i h ⟨o, ho, hc, hd⟩ => ⟨o, ho, by unfold isDat; rw [hd]⟩⟩
    exact wpAny_pyIter_wide ha (h _ _ src rfl rfl ⟨_, Heap.get?_push_size _ rfl, rfl, rfl⟩)
  · have src : Src g A H (strItems x) s.heap.objs.size (fun i h => h.IsStrIter s.heap.objs.size "str_ascii_iterator" x t i) :=
      ⟨⟨[s.heap.objs.size], SignAt x, hlen ▸ Walks.strAscii hh _ x t, fun b hb => .inl (by simpa using hb), hitem⟩, fun i h ⟨o, ho, hc, hd⟩ => ⟨o, ho, by unfold isDat; rw [hd]⟩⟩
    exact wpAny_pyIter_ascii ha (h _ _ src rfl rfl ⟨_, Heap.get?_push_size _ rfl, rfl, rfl⟩)
end
end Mine
namespace Mine

/-- a comprehension's own environment -/
def cEnv (scope : Scope) (cl : List (Str × Addr)) (env : Env) (C : Addr) : Env :=
  { scope := relabel scope env, locals := C, globals := env.globals, cells := cellsFrom (C + 1) scope.names cl, qual := env.qual, func := none, code := env.code, frame := env.frame, builtins := env.builtins }

theorem newCompEnv {M : Model} {A : Around} {E : Value → Shared → Prop} {s : Shared} {scope : Scope} {cl : List (Str × Addr)} {env : Env} {K : Env → Shared → Prop}
    (h : K { scope := scope, locals := s.heap.objs.size, globals := env.globals, cells := cellsFrom (s.heap.objs.size + 1) scope.names cl, qual := env.qual, func := none, code := env.code, frame := env.frame, builtins := env.builtins }
      { s with heap := pushCells (s.heap.push { cls := .type "dict", data := .dict #[] }) scope.names }) :
    wpAny M A (newFunctionEnv scope env.globals cl [] env.qual none .none (some env)) K E s := by
  simp only [newFunctionEnv, Option.isSome_some, if_true]
  refine wpAny_bind (wpAny_alloc ?_)
  refine wpAny_bind (wpAny_layCells _ (fun name kind cells => by cases hkc : kind == NameKind.cell <;> simp [hkc]) _ _ _ _ ?_)
  rw [show ({ s with heap := s.heap.push { cls := .type "dict", data := .dict #[] } } : Shared).heap.objs.size = s.heap.objs.size + 1 from Heap.size_push ..]
  simp only [List.forIn_nil]
  exact wpAny_bind (wpAny_pure (wpAny_pure h))

theorem pushCells_get : ∀ (names : List (Str × NameKind)) (h : Heap), h.objs.size ≤ (pushCells h names).objs.size
  | [], h => Nat.le_refl _
  | (_, kind) :: r, h => by
    unfold pushCells
    split
    · exact Nat.le_trans (by rw [Heap.size_push]; exact Nat.le_succ _) (pushCells_get r _)
    · exact pushCells_get r h
theorem cellsFrom_find : ∀ (names : List (Str × NameKind)) (h : Heap) (acc : List (Str × Addr)) {x : Str} {c : Addr}, (cellsFrom h.objs.size names acc).lookup x = some c →
    (h.objs.size ≤ c ∧ (pushCells h names).IsCell c none ∧ (x, NameKind.cell) ∈ names) ∨ acc.lookup x = some c
  | [], h, acc, x, c, e => .inr e
  | (n, k) :: r, h, acc, x, c, e => by
    unfold cellsFrom at e
    unfold pushCells
    by_cases hk : (k == NameKind.cell) = true
    · rw [if_pos hk] at e ⊢
      have e' : (cellsFrom (h.push { cls := .type "cell", data := .cell none }).objs.size r ((n, h.objs.size) :: acc)).lookup x = some c := by rw [Heap.size_push]; exact e
      rcases cellsFrom_find r _ _ e' with ⟨h1, h2, h3⟩ | h1
      · exact .inl ⟨by rw [Heap.size_push] at h1; exact Nat.le_of_succ_le h1, h2, List.mem_cons_of_mem _ h3⟩
      · rw [List.lookup_cons] at h1
        cases hx : x == n with
        | true =>
          rw [hx] at h1; cases h1
          have hxn : x = n := by simpa using hx
          have hkc : k = NameKind.cell := by simpa using hk
          subst hxn; subst hkc
          refine .inl ⟨Nat.le_refl _, ⟨{ cls := .type "cell", data := .cell none }, pushCells_keeps r _ _ _ (Heap.get?_push_size _ rfl), rfl⟩, List.mem_cons_self⟩
        | false => rw [hx] at h1; exact .inr h1
    · rw [if_neg hk] at e ⊢
      rcases cellsFrom_find r h acc e with ⟨h1, h2, h3⟩ | h1
      · exact .inl ⟨h1, h2, List.mem_cons_of_mem _ h3⟩
      · exact .inr h1
theorem cellsFrom_apart : ∀ (names : List (Str × NameKind)) (n : Nat) (acc : List (Str × Addr)), (∀ x c, acc.lookup x = some c → c < n) → (∀ x y c, acc.lookup x = some c → acc.lookup y = some c → x = y) →
    ∀ x y c, (cellsFrom n names acc).lookup x = some c → (cellsFrom n names acc).lookup y = some c → x = y
  | [], n, acc, _, h2 => h2
  | (m, k) :: r, n, acc, h1, h2 => by
    unfold cellsFrom
    by_cases hk : (k == NameKind.cell) = true
    · rw [if_pos hk]
      have look : ∀ x c, ((m, n) :: acc).lookup x = some c → (x = m ∧ c = n) ∨ acc.lookup x = some c := fun x c e => by
        rw [List.lookup_cons] at e
        cases hx : x == m with
        | true => rw [hx] at e; cases e; exact .inl ⟨by simpa using hx, rfl⟩
        | false => rw [hx] at e; exact .inr e
      refine cellsFrom_apart r (n + 1) ((m, n) :: acc) (fun x c e => ?_) (fun x y c e1 e2 => ?_)
      · rcases look x c e with ⟨_, rfl⟩ | e
        · exact Nat.lt_succ_self _
        · exact Nat.lt_succ_of_lt (h1 x c e)
      · rcases look x c e1 with ⟨p1, p2⟩ | f1 <;> rcases look y c e2 with ⟨q1, q2⟩ | f2
        · exact p1.trans q1.symm
        · exact absurd (p2 ▸ h1 y c f2) (Nat.lt_irrefl _)
        · exact absurd (q2 ▸ h1 x c f1) (Nat.lt_irrefl _)
        · exact h2 x y c f1 f2
    · rw [if_neg hk]; exact cellsFrom_apart r n acc h1 h2
theorem cellsFrom_keep : ∀ (names : List (Str × NameKind)) (n : Nat) (acc : List (Str × Addr)) {x : Str} {c : Addr}, acc.lookup x = some c → (x, NameKind.cell) ∉ names → (cellsFrom n names acc).lookup x = some c
  | [], n, acc, x, c, e, _ => e
  | (m, k) :: r, n, acc, x, c, e, hn => by
    unfold cellsFrom
    have hr : (x, NameKind.cell) ∉ r := fun h => hn (List.mem_cons_of_mem _ h)
    by_cases hk : (k == NameKind.cell) = true
    · rw [if_pos hk]
      refine cellsFrom_keep r _ _ ?_ hr
      rw [List.lookup_cons]
      cases hx : x == m with
      | true =>
        exfalso
        have hxn : x = m := by simpa using hx
        have hkc : k = NameKind.cell := by simpa using hk
        subst hxn; subst hkc
        exact hn List.mem_cons_self
      | false => exact e
    · rw [if_neg hk]; exact cellsFrom_keep r n acc e hr

def capS (cl : List (Str × Addr)) (σ : Sto) : Sto := fun y => if (cl.lookup y).isSome then σ y else none

/-- what a comprehension takes along -/
structure Cap (env : Env) (scope : Scope) (cl : List (Str × Addr)) : Prop where
  sub : ∀ x c, cl.lookup x = some c → env.cells.lookup x = some c
  notl : ∀ x c, cl.lookup x = some c → (relabel scope env).names.lookup x ≠ some .local
  notc : ∀ x c, cl.lookup x = some c → (x, NameKind.cell) ∉ scope.names
  envc : ∀ x c, cl.lookup x = some c → env.kindOf x ≠ some .local

open Classical in
noncomputable def capF (cl : List (Str × Addr)) (mu : Mu) (h : Heap) : Fz := fun a => if ∃ x, cl.lookup x = some a then none else topF mu h a

section
variable {g : G} {A : Around} {env : Env} {σ : Sto} {mu : Mu} {scope : Scope} {cl : List (Str × Addr)}

theorem cap_val {H s a o} (I : Inv g env σ mu H s) (K : Cap env scope cl) (e : s.heap.get? a = some o) (hv : isVal o = true) : ¬ ∃ x, cl.lookup x = some a := by
  rintro ⟨x, hx⟩
  obtain ⟨vo, hn, _⟩ := I.fr.cells x a (K.sub x a hx)
  have := isVal.dat hv
  rw [cell_notVal hn e] at this; cases this
theorem cap_le {H s} (I : Inv g env σ mu H s) (K : Cap env scope cl) : Fz.le H (capF cl mu s.heap) := fun a o e => by
  unfold capF
  rw [if_neg]
  · exact I.st.le_top a o e
  · rintro ⟨x, hx⟩
    rw [(I.fr.offC x a (K.sub x a hx)).1] at e; cases e
theorem cap_st {H s} (I : Inv g env σ mu H s) (K : Cap env scope cl) : St g mu (capF cl mu s.heap) s where
  sub := fun a o e => by
    unfold capF at e
    split at e
    · cases e
    · exact I.st.top.sub a o e
  base := fun a o e => cap_le I K a o (I.st.base a o e)
  mus := fun a v e => ⟨by unfold capF; split <;> first | rfl | exact (I.st.top.mus a v e).1, (I.st.mus a v e).2.mono (cap_le I K) fun _ x => x⟩
  os := I.st.os
  gens := I.st.gens
theorem cap_get {H s a o} (I : Inv g env σ mu H s) (hm : mu a = none) (hc : ¬ ∃ x, cl.lookup x = some a) (e : s.heap.get? a = some o) : capF cl mu s.heap a = some o := by
  unfold capF; rw [if_neg hc]; unfold topF; rw [hm]; simpa using e

/-- into the comprehension: the state s' keeps all that s has; its frame is new -/
theorem cap_enter {H s s₃} (I : Inv g env σ mu H s) (K : Cap env scope cl) (S₃ : St g mu (capF cl mu s.heap) s₃) (k : Kp s.heap s₃.heap) :
    Inv g (cEnv scope cl env s₃.heap.objs.size) (capS cl σ) mu (capF cl mu s.heap) { s₃ with heap := pushCells (s₃.heap.push { cls := .type "dict", data := .dict #[] }) scope.names } := by
  have kk : Kp s₃.heap (pushCells (s₃.heap.push { cls := .type "dict", data := .dict #[] }) scope.names) := fun b o e => pushCells_keeps _ _ b o (Heap.get?_push_of_some _ e)
  have hsz : (s₃.heap.push { cls := .type "dict", data := .dict #[] }).objs.size = s₃.heap.objs.size + 1 := Heap.size_push ..
  refine ⟨S₃.keeps kk _, ⟨⟨fun _ => none, (Heap.Ns.new s₃.heap (.type "dict")).keeps (pushCells_keeps _ _), fun x p h1 h2 => ?_⟩, fun x c hc => ?_, S₃.none_of_size (Nat.le_refl _), fun x c hc => ?_, ?_⟩⟩
  · exfalso
    unfold capS at h2
    split at h2
    · rename_i hs
      obtain ⟨c, hc⟩ := Option.isSome_iff_exists.mp hs
      exact K.notl x c hc h1
    · cases h2
  · have hc' : (cellsFrom (s₃.heap.push { cls := .type "dict", data := .dict #[] }).objs.size scope.names cl).lookup x = some c := by rw [hsz]; exact hc
    rcases cellsFrom_find _ _ _ hc' with ⟨h1, h2, h3⟩ | h1
    · refine ⟨none, h2, fun p _ hp => ?_⟩
      exfalso
      unfold capS at hp
      split at hp
      · rename_i hs
        obtain ⟨c', hc'⟩ := Option.isSome_iff_exists.mp hs
        exact K.notc x c' hc' h3
      · cases hp
    · obtain ⟨vo, hn, r⟩ := I.fr.cells x c (K.sub x c h1)
      refine ⟨vo, (hn.keeps k).keeps kk, fun p _ hp => ?_⟩
      unfold capS at hp
      rw [if_pos (by rw [h1]; rfl)] at hp
      obtain ⟨v, h3, h4⟩ := r p (K.envc x c h1) hp
      exact ⟨v, h3, h4.mono (cap_le I K)⟩
  · have hc' : (cellsFrom (s₃.heap.push { cls := .type "dict", data := .dict #[] }).objs.size scope.names cl).lookup x = some c := by rw [hsz]; exact hc
    rcases cellsFrom_find _ _ _ hc' with ⟨h1, h2, h3⟩ | h1
    · rw [hsz] at h1
      exact ⟨S₃.none_of_size (Nat.le_of_succ_le h1), Nat.ne_of_gt h1⟩
    · have hlt := I.C_lt (K.sub x c h1)
      have h3 : c < s₃.heap.objs.size := by
        obtain ⟨vo, hn, _⟩ := I.fr.cells x c (K.sub x c h1)
        exact (hn.keeps k).lt
      exact ⟨by unfold capF; rw [if_pos ⟨x, h1⟩], Nat.ne_of_lt h3⟩
  · refine cellsFrom_apart scope.names _ cl (fun x c e => ?_) (fun x y c e1 e2 => I.fr.apart x y c (K.sub x c e1) (K.sub y c e2))
    obtain ⟨vo, hn, _⟩ := I.fr.cells x c (K.sub x c e)
    exact Nat.lt_succ_of_lt (hn.keeps k).lt

/-- and out of it again -/
theorem cap_leave {H s C H' s' mu'} (I : Inv g env σ mu H s) (K : Cap env scope cl) (le : Fz.le (capF cl mu s.heap) H') (I' : Inv g (cEnv scope cl env C) (capS cl σ) mu' H' s') :
    ∃ H'', Fz.le H H'' ∧ Inv g env σ mu' H'' s' ∧ (∀ a, H' a = none → H'' a = none) ∧ (∀ p v, Rep H' p v → Rep H'' p v) := by
  classical
  have kL : ∀ o, s.heap.get? env.locals = some o → s'.heap.get? env.locals = some o := fun o e => I'.st.sub _ _ (le _ _ (cap_get I I.muL (by
    rintro ⟨x, hx⟩
    exact (I.fr.offC x _ (K.sub x _ hx)).2 rfl) e))
  have kC : ∀ x c, env.cells.lookup x = some c → (¬ ∃ y, cl.lookup y = some c) → ∀ o, s.heap.get? c = some o → s'.heap.get? c = some o := fun x c hc hn o e => I'.st.sub _ _ (le _ _ (cap_get I (I.muC hc) hn e))
  have inC : ∀ x c, cl.lookup x = some c → (cEnv scope cl env C).cells.lookup x = some c := fun x c e => cellsFrom_keep _ _ _ e (K.notc x c e)
  have kH : Fz.le H H' := Fz.le_trans (cap_le I K) le
  have hval : ∀ a o, H' a = some o → isVal o = true → offFc env H' a = some o := fun a o e hv => by
    unfold offFc
    have : ¬ (a = env.locals ∨ ∃ x, env.cells.lookup x = some a) := by
      have hv := isVal.dat hv
      have e' := I'.st.sub _ _ e
      rintro (rfl | ⟨x, hx⟩)
      · obtain ⟨m, hn, _⟩ := I.fr.ns
        obtain ⟨oL, _, _, hL, _⟩ := id hn
        rw [kL _ hL] at e'; cases e'
        rw [ns_notVal hn hL] at hv; cases hv
      · by_cases hc : ∃ y, cl.lookup y = some a
        · obtain ⟨y, hy⟩ := hc
          obtain ⟨vo, hn, _⟩ := I'.fr.cells y a (inC y a hy)
          rw [cell_notVal hn e'] at hv; cases hv
        · obtain ⟨vo, hn, _⟩ := I.fr.cells x a hx
          obtain ⟨oL, hL, _⟩ := id hn
          rw [kC x a hx hc _ hL] at e'; cases e'
          rw [cell_notVal hn hL] at hv; cases hv
    rw [if_neg this]; exact e
  have hle : Fz.le H (offFc env H') := fun a o e => by
    unfold offFc
    have : ¬ (a = env.locals ∨ ∃ x, env.cells.lookup x = some a) := by
      rintro (rfl | ⟨x, hx⟩)
      · rw [I.fr.offL] at e; cases e
      · rw [(I.fr.offC x a hx).1] at e; cases e
    rw [if_neg this]; exact kH a o e
  have hno : ∀ a, H' a = none → offFc env H' a = none := fun a e => by unfold offFc; split <;> first | rfl | exact e
  refine ⟨offFc env H', hle, ⟨⟨fun a o e => ?_, fun a o e => hle a o (I.st.base a o e), fun a v e => ?_, I'.st.os, I'.st.gens⟩, ⟨?_, ?_, ?_, ?_, I.fr.apart⟩⟩, hno, fun p v h => h.monoV hval⟩
  · unfold offFc at e
    split at e
    · cases e
    · exact I'.st.sub a o e
  · obtain ⟨h1, h2⟩ := I'.st.mus a v e
    refine ⟨hno a h1, ?_⟩
    cases v with
    | list xs => obtain ⟨vs, h3, h4⟩ := h2; exact ⟨vs, h3, h4.monoV hval⟩
    | rit y l => exact h2
    | obj o => exact h2
  · obtain ⟨m, hn, r⟩ := I.fr.ns
    exact ⟨m, hn.at' fun o e => kL o e, fun x p h1 h2 => let ⟨v, h3, h4⟩ := r x p h1 h2; ⟨v, h3, h4.mono hle⟩⟩
  · intro x c hc
    by_cases hcap : ∃ y, cl.lookup y = some c
    · obtain ⟨y, hy⟩ := hcap
      have hyx : y = x := I.fr.apart y x c (K.sub y c hy) hc
      subst hyx
      obtain ⟨vo, hn, r⟩ := I'.fr.cells y c (inC y c hy)
      refine ⟨vo, hn, fun p h1 h2 => ?_⟩
      obtain ⟨v, h3, h4⟩ := r p (K.notl y c hy) (by unfold capS; rw [if_pos (by rw [hy]; rfl)]; exact h2)
      exact ⟨v, h3, h4.monoV hval⟩
    · obtain ⟨vo, ⟨o, ho, hd⟩, r⟩ := I.fr.cells x c hc
      exact ⟨vo, ⟨o, kC x c hc hcap o ho, hd⟩, fun p h1 h2 => let ⟨v, h3, h4⟩ := r p h1 h2; ⟨v, h3, h4.mono hle⟩⟩
  · unfold offFc; simp
  · intro x c hc
    refine ⟨?_, (I.fr.offC x c hc).2⟩
    unfold offFc; rw [if_pos (Or.inr ⟨x, hc⟩)]
end
end Mine
namespace Mine

/-- the tests of a clause: none, or one -/
def TST (g : G) (A : Around) (env : Env) (σ : Sto) (mu : Mu) (ifs : List Expr) (b : Bool) : Prop := match ifs with
  | [] => b = true
  | [c] => PT g A env σ mu c b
  | _ => False

section
variable {g : G} {A : Around} {env : Env} {σ : Sto} {mu : Mu} {scope : Scope} {cl : List (Str × Addr)}

theorem TST.run {ifs b H s} {K : Bool → Shared → Prop} (h : TST g A env σ mu ifs b) (I : Inv g env σ mu H s) (k : ∀ H' s', Fz.le H H' → Inv g env σ mu H' s' → K b s') :
    wpAny g.M A (forIn ifs true fun c r => if r = true then do let ok ← isTrue c env (eval c env); pure (ForInStep.yield ok) else pure (ForInStep.yield r)) K NoE s := by
  match ifs, h with
  | [], h => have h : b = true := h
             subst h
             exact wpAny_tests_nil (k H s (Fz.le_refl _) I)
  | [c], h =>
    refine wpAny_tests_one (wpAny_mono (h H s I) (fun c s' hc => ?_) fun _ _ x => x)
    obtain ⟨H', m', l, I', rfl, rfl⟩ := hc
    exact k H' s' l I'
  | _ :: _ :: _, h => exact h.elim

theorem take_succ_fm {α β : Type} (xs : List α) (i : Nat) (x : α) (t : α → Bool) (f : α → β) (h : xs[i]? = some x) : ((xs.take (i + 1)).filter t).map f = ((xs.take i).filter t).map f ++ (if t x then [f x] else []) := by
  rw [List.take_add_one, h]
  simp only [Option.toList_some, List.filter_append, List.map_append]
  cases hx : t x <;> simp [hx]

theorem comp_core {elt iter : Expr} {x : Str} {px : Pos} {ifs : List Expr} {pos : Pos} {H s₁ p xv} {items : List PV} (t : PV → Bool) (f : PV → PV) {RR : Value → Addr → Result → Shared → Prop}
    (K : Cap env scope cl) (I : Inv g env σ mu H s₁) (Rx : Rep H p xv) (hit : ITER g A p items) (hown : ∀ C, Own (cEnv scope cl env C) x) (hcx : cl.lookup x = none) (hz : items.length ≤ sizeLine)
    (turn : ∀ (C : Addr) (i : Nat) (q : PV) (m' : Mu), items[i]? = some q → MuLe mu m' → TST g A (cEnv scope cl env C) ((capS cl σ).set x q) m' ifs (t q) ∧ (t q = true → EV g A (cEnv scope cl env C) ((capS cl σ).set x q) m' elt (fun r m'' => r = f q ∧ m'' = m')))
    (hR : ∀ (D C : Addr) (H' : Fz) (s' : Shared) (vs : List Value) (n : Nat) (m : Str → Option Value), s₁.heap.objs.size ≤ D → s₁.heap.objs.size ≤ C → D ≠ C → Fz.le H H' → Inv g env σ mu H' s' → H' D = none → H' C = none → mu D = none → mu C = none → s'.heap.get? D = some { cls := .type "list", data := .seq (List.toArray vs) n } →
      RepL H' ((items.filter t).map f) vs → s'.heap.Ns C m → RR (.ref D) C (.ok .next) s') :
    wpAny g.M A (pyIter xv) (fun it s₂ => wpAny g.M A (newList []) (fun acc s₃ => wpAny g.M A (newFunctionEnv scope env.globals cl [] env.qual none .none (some env)) (fun cenv s₄ =>
      codeAny g.M A (.compStart (.ListComp elt [⟨.Name x px, iter, ifs, 0⟩] scope pos) 0 it acc { cenv with scope := relabel scope env }) (RR acc cenv.locals) s₄) NoE s₃) NoE s₂) NoE s₁ := by
  refine hit _ mu s₁ xv _ (cap_st I K) (Rx.mono (cap_le I K)) fun oI S src hfr hod hS0 => ?_
  generalize hI0 : s₁.heap.objs.size = I0 at src
  refine wpAny_newObj_type ?_
  refine newCompEnv ?_
  dsimp only
  generalize hD : (({ s₁ with heap := s₁.heap.push oI } : Shared).heap.objs.size) = D
  have hDI : D = I0 + 1 := by rw [← hD, ← hI0]; exact Heap.size_push ..
  generalize hs3 : ({ s₁ with heap := (s₁.heap.push oI).push { cls := .type "list", dict := none, data := .seq ([] : List Value).toArray } } : Shared) = s3
  have hC : s3.heap.objs.size = D + 1 := by rw [← hs3, ← hD]; exact Heap.size_push ..
  have k3 : Kp s₁.heap s3.heap := by rw [← hs3]; exact fun b o e => Heap.get?_push_of_some _ (Heap.get?_push_of_some _ e)
  have S3 : St g mu (capF cl mu s₁.heap) s3 := by
    have := (cap_st I K).keeps k3 s₁.toks
    rw [← hs3] at this ⊢; exact this
  have I4 := cap_enter I K S3 k3
  have gD3 : s3.heap.get? D = some { cls := .type "list", dict := none, data := .seq ([] : List Value).toArray } := by rw [← hs3, ← hD]; exact Heap.get?_push_size _ rfl
  have gI3 : s3.heap.get? I0 = some oI := by rw [← hs3, ← hI0]; exact Heap.get?_push_of_some _ (Heap.get?_push_size _ hfr)
  have hne : I0 ≠ D := by rw [hDI]; exact Nat.ne_of_lt (Nat.lt_succ_self _)
  have hIC : I0 ≠ s3.heap.objs.size := by rw [hC, hDI]; exact Nat.ne_of_lt (Nat.lt_succ_of_lt (Nat.lt_succ_self _))
  have hDC : D ≠ s3.heap.objs.size := by rw [hC]; exact Nat.ne_of_lt (Nat.lt_succ_self _)
  have hcI : capF cl mu s₁.heap I0 = none := (cap_st I K).none_of_size (Nat.le_of_eq hI0)
  have hcD : capF cl mu s₁.heap D = none := (cap_st I K).none_of_size (by rw [hI0, hDI]; exact Nat.le_succ _)
  have hmI : mu I0 = none := I.st.mu_none_of_size (Nat.le_of_eq hI0)
  have hmD : mu D = none := I.st.mu_none_of_size (by rw [hI0, hDI]; exact Nat.le_succ _)
  have kc : Kp s3.heap (pushCells (s3.heap.push { cls := .type "dict", data := .dict #[] }) scope.names) := fun b o e => pushCells_keeps _ _ b o (Heap.get?_push_of_some _ e)
  -- cells of the comprehension's are neither I0 nor D
  have cellNe : ∀ y c, (cEnv scope cl env s3.heap.objs.size).cells.lookup y = some c → c ≠ I0 ∧ c ≠ D := fun y c hc => by
    obtain ⟨vo, ⟨o, ho, hd⟩, _⟩ := I4.fr.cells y c hc
    constructor
    · rintro rfl
      have := kc _ _ gI3
      rw [ho] at this; cases this
      unfold isDat at hod; rw [hd] at hod; cases hod
    · rintro rfl
      have := kc _ _ gD3
      rw [ho] at this; cases this
      cases hd
  have loop : codeAny g.M A (.compLoop (.ListComp elt [⟨.Name x px, iter, ifs, 0⟩] scope pos) 0 (.ref I0) (.ref D) (cEnv scope cl env s3.heap.objs.size)) (RR (.ref D) s3.heap.objs.size)
      { s3 with heap := pushCells (s3.heap.push { cls := .type "dict", data := .dict #[] }) scope.names } := by
    have nb : ∀ {α : Type} {t : Sem α} {K : α → Shared → Prop} {s : Shared} {E' : Value → Shared → Prop}, wpAny g.M A t K NoE s → wpAny g.M A t K E' s := fun h => wpAny_mono h (fun _ _ x => x) fun _ _ f => f.elim
    refine codeAny_compLoop_tests (prog := g.prog) (w := g.w)
      (fun n s' => ∃ i H' vs e, n = items.length + 1 - i ∧ i ≤ items.length ∧ Fz.le (capF cl mu s₁.heap) H' ∧ Inv g (cEnv scope cl env s3.heap.objs.size) (capS cl σ) mu H' s' ∧ H' I0 = none ∧ H' D = none ∧ S i s'.heap ∧
        s'.heap.get? D = some { cls := .type "list", data := .seq (List.toArray vs) e } ∧ RepL H' (((items.take i).filter t).map f) vs) ?_ (items.length + 1)
      ⟨0, _, [], 0, rfl, Nat.zero_le _, Fz.le_refl _, I4, hcI, hcD, src.frame (H := capF cl mu s₁.heap) hS0 (fun a o e => Heap.get?_push_of_some _ ((cap_st I K).sub a o e)) (fun a o e => kc _ _ (S3.sub a o e)) (fun o e => kc _ _ (by
        rw [← hI0, Heap.get?_push_size _ hfr] at e; cases e; exact gI3)), kc _ _ gD3, by simpa using RepL.nil⟩
    rintro n s' ⟨i, H', vs, e, rfl, hi, le', I', hHI, hHD, hS, gD, hrep⟩
    by_cases hlt : i < items.length
    · refine nb ((src.mono le').item hlt hS fun v q h₁ tk hq hRq hS₁ hk₁ => ?_)
      have I1 := I'.sameBut hHI hmI hIC (fun y c hc => (cellNe y c hc).1) hk₁ tk
      have gD1 : h₁.get? D = some { cls := .type "list", data := .seq (List.toArray vs) e } := hk₁ _ _ (Ne.symm hne) gD
      obtain ⟨oI1, gI1, hoI1⟩ := src.obj _ _ hS₁
      have I2 := (I1.addMu (o := oI1) gI1 hoI1 hHI).addMu (o := { cls := .type "list", data := .seq (List.toArray vs) e }) gD1 rfl hHD
      have mle : MuLe mu ((mu.set I0 (.obj oI1)).set D (.obj { cls := .type "list", data := .seq (List.toArray vs) e })) := (MuLe.set hmI).trans (MuLe.set (by rw [Mu.set_ne (Ne.symm hne)]; exact hmD))
      refine nb (wpAny_assign_Name (store_own I2 (hown _) hRq fun s2 I3 => ?_))
      obtain ⟨ht, he⟩ := turn s3.heap.objs.size i q _ hq mle
      -- what stands when the turn goes on
      have post : ∀ H5 s5, Fz.le H' H5 → Inv g (cEnv scope cl env s3.heap.objs.size) ((capS cl σ).set x q) ((mu.set I0 (.obj oI1)).set D (.obj { cls := .type "list", data := .seq (List.toArray vs) e })) H5 s5 →
          Inv g (cEnv scope cl env s3.heap.objs.size) (capS cl σ) mu H5 s5 ∧ H5 I0 = none ∧ H5 D = none ∧ S (i + 1) s5.heap ∧ s5.heap.get? D = some { cls := .type "list", data := .seq (List.toArray vs) e } := fun H5 s5 l5 I5 => by
        have mI := I5.st.mus I0 (.obj oI1) (by rw [Mu.set_ne hne, Mu.set_self])
        have mD := I5.st.mus D _ Mu.set_self
        refine ⟨(I5.muLe mle).sto fun y p hy => ?_, mI.1, mD.1, (src.mono le').frame hS₁ (fun a o e => I1.st.sub a o e) (fun a o e => I5.st.sub a o (l5 a o e)) (fun o e => by rw [gI1] at e; cases e; exact mI.2.1), mD.2.1⟩
        have hyx : y ≠ x := by
          rintro rfl
          unfold capS at hy
          rw [hcx] at hy; cases hy
        rw [Sto.set_ne hyx]; exact hy
      refine nb (ht.run I3 fun H4 s4 l4 I4' => ?_)
      obtain ⟨J4, a4, b4, c4, d4⟩ := post H4 s4 l4 I4'
      have tk := take_succ_fm items i q t f hq
      cases htq : t q with
      | false =>
        rw [if_neg Bool.false_ne_true]
        refine ⟨items.length + 1 - (i + 1), by omega, i + 1, H4, vs, e, rfl, hlt, Fz.le_trans le' l4, J4, a4, b4, c4, d4, ?_⟩
        rw [tk, htq]
        simpa using hrep.mono l4
      | true =>
        rw [if_pos rfl]
        refine nb (wpAny_mono (he htq H4 s4 I4') (fun r s5 h5 => ?_) fun _ _ x => x)
        obtain ⟨H5, m5, r', l5, I5, R5, rfl, rfl⟩ := h5
        obtain ⟨J5, a5, b5, c5, d5⟩ := post H5 s5 (Fz.le_trans l4 l5) I5
        have hvs : vs.length ≤ sizeLine := by
          rw [hrep.length]
          refine Nat.le_trans ?_ hz
          simp only [List.length_map]
          exact Nat.le_trans (List.length_filter_le _ _) (by simp [List.length_take]; omega)
        refine nb (wpAny_list_append_plain (items := List.toArray vs) ⟨e, d5⟩ (fun h6 hp6 hs6 => ?_) (by simpa using hvs))
        obtain ⟨e6, g6⟩ := hp6
        have J6 := J5.sameBut b5 hmD hDC (fun y c hc => (cellNe y c hc).2) (fun b o hb eb => (hs6.2 b hb).trans eb) s5.toks
        refine ⟨items.length + 1 - (i + 1), by omega, i + 1, H5, vs ++ [r], e6, rfl, hlt, Fz.le_trans le' (Fz.le_trans l4 l5), J6, a5, b5, ?_, by rw [g6]; simp, ?_⟩
        · exact (src.mono (Fz.le_trans le' (Fz.le_trans l4 l5))).frame c5 J5.st.sub J6.st.sub fun o eo => (hs6.2 _ hne).trans eo
        · rw [tk, htq]
          exact (hrep.mono (Fz.le_trans l4 l5)).snoc R5
    · have hin : i = items.length := by omega
      subst hin
      refine nb ((src.mono le').done hS fun h₁ tk hk₁ => ?_)
      have I1 := I'.sameBut hHI hmI hIC (fun y c hc => (cellNe y c hc).1) hk₁ tk
      obtain ⟨H'', w1, w2, w3, w4⟩ := cap_leave I K le' I1
      rw [List.take_length] at hrep
      obtain ⟨m, hm, _⟩ := I1.fr.ns
      refine hR D s3.heap.objs.size H'' _ vs e m (by rw [hI0, hDI]; exact Nat.le_succ _) (by rw [hC, hDI, hI0]; exact Nat.le_succ_of_le (Nat.le_succ _)) hDC w1 w2 (w3 _ hHD) (w3 _ I1.fr.offL) hmD I1.muL (hk₁ _ _ (Ne.symm hne) gD) ?_ hm
      have : Rep H' (.list ((items.filter t).map f)) (.ref D) → Rep H'' (.list ((items.filter t).map f)) (.ref D) := w4 _ _
      -- items one by one
      have go : ∀ (ps : List PV) (us : List Value), RepL H' ps us → RepL H'' ps us := by
        intro ps
        induction ps with
        | nil => intro us h; unfold RepL at h ⊢; exact h
        | cons p ps ih =>
          intro us h
          unfold RepL at h ⊢
          obtain ⟨v, us', rfl, h1, h2⟩ := h
          exact ⟨v, us', rfl, w4 _ _ h1, ih us' h2⟩
      exact go _ _ hrep
  obtain ⟨fp, P, W, _⟩ := src.W
  have hSs : S 0 (pushCells (s3.heap.push { cls := .type "dict", data := .dict #[] }) scope.names) := src.frame (H := capF cl mu s₁.heap) hS0 (fun a o e => Heap.get?_push_of_some _ ((cap_st I K).sub a o e)) (fun a o e => kc _ _ (S3.sub a o e)) (fun o e => kc _ _ (by
        rw [← hI0, Heap.get?_push_size _ hfr] at e; cases e; exact gI3))
  subst hs3
  exact codeAny_compStart_list loop (W.self 0 _ _ _ hSs loop)
end
end Mine
namespace Mine
section
variable {g : G} {A : Around} {env : Env} {σ : Sto} {mu : Mu} {scope : Scope} {cl : List (Str × Addr)}

/-- all that the scope of a comprehension asks -/
structure CompOk (env : Env) (scope : Scope) (cl : List (Str × Addr)) (x : Str) (iter : Expr) : Prop where
  clos : closureFor scope env = pure cl
  kind : scope.kind = .function
  names : ∀ y ∈ scope.names, y.2 = .local → scope.names.lookup y.1 = some .local
  fold : ∀ v, foldedSetIterable iter env v = pure v
  cap : Cap env scope cl
  own : ∀ C, Own (cEnv scope cl env C) x
  notx : cl.lookup x = none

/-- a new list, put among the frozen ones -/
theorem Inv.addList {H s D vs n ps} (I : Inv g env σ mu H s) (e : s.heap.get? D = some { cls := .type "list", data := .seq (List.toArray vs) n }) (hH : H D = none) (hm : mu D = none) (hL : env.locals < D)
    (hC : ∀ x c, env.cells.lookup x = some c → c < D) (R : RepL H ps vs) : Fz.le H (H.add D { cls := .type "list", data := .seq (List.toArray vs) n }) ∧ Inv g env σ mu (H.add D { cls := .type "list", data := .seq (List.toArray vs) n }) s ∧
      Rep (H.add D { cls := .type "list", data := .seq (List.toArray vs) n }) (.list ps) (.ref D) := by
  have hle : Fz.le H (H.add D { cls := .type "list", data := .seq (List.toArray vs) n }) := Fz.le_add hH
  refine ⟨hle, I.freeze e hH hm (Nat.ne_of_gt hL) (fun x c hc => Nat.ne_of_lt (hC x c hc)), ?_⟩
  unfold Rep
  exact ⟨D, _, vs, rfl, Fz.add_self _ _ _, ⟨n, rfl⟩, R.mono hle⟩

theorem EV.comp {elt iter : Expr} {x : Str} {px : Pos} {ifs : List Expr} {pos : Pos} {Q} (t : PV → Bool) (f : PV → PV) (ok : CompOk env scope cl x iter)
    (h : EV g A env σ mu iter (fun p m => ∃ items, ITER g A p items ∧ items.length ≤ sizeLine ∧
      (∀ (C : Addr) (i : Nat) (q : PV) (m' : Mu), items[i]? = some q → MuLe m m' → TST g A (cEnv scope cl env C) ((capS cl σ).set x q) m' ifs (t q) ∧ (t q = true → EV g A (cEnv scope cl env C) ((capS cl σ).set x q) m' elt (fun r m'' => r = f q ∧ m'' = m'))) ∧
      Q (.list ((items.filter t).map f)) m)) : EV g A env σ mu (.ListComp elt [⟨.Name x px, iter, ifs, 0⟩] scope pos) Q := fun H s I => by
  rw [eval_ListComp]
  refine wpAny_comprehension_free (use := none) rfl ok.fold ok.clos ok.kind ok.names (wpAny_mono (h H s I) (fun xv s₁ h₁ => ?_) fun _ _ e => e)
  obtain ⟨H1, m1, p, l1, I1, R1, items, hit, hz, turn, hQ⟩ := h₁
  refine comp_core (RR := fun acc C r s' => compPost g.M A NoE none (IPost g env σ H Q) acc C r s') t f ok.cap I1 R1 hit ok.own ok.notx hz turn ?_
  intro D C H' s' vs n m hD hC hDC le I' hHD hHC hmD hmC gD hrep hn
  refine ⟨m, hn, fun h' hs' => ?_⟩
  have hL : env.locals < D := Nat.lt_of_lt_of_le I1.L_lt hD
  have hLC : env.locals < C := Nat.lt_of_lt_of_le I1.L_lt hC
  obtain ⟨a1, a2, a3⟩ := I'.addList gD hHD hmD hL (fun x c hc => Nat.lt_of_lt_of_le (I1.C_lt hc) hD) hrep
  have a4 := a2.sameBut (a := C) (h' := h') (by unfold Fz.add; rw [if_neg (Ne.symm hDC)]; exact hHC) hmC (Nat.ne_of_gt hLC) (fun x c hc => Nat.ne_of_lt (Nat.lt_of_lt_of_le (I1.C_lt hc) hC)) (fun b o hb e => (hs'.2 b hb).trans e) s'.toks
  exact ⟨_, m1, .list ((items.filter t).map f), Fz.le_trans l1 (Fz.le_trans le a1), a4, a3, hQ⟩

theorem ES.assign_comp {elt iter : Expr} {x y : Str} {px py : Pos} {ifs : List Expr} {pos spos : Pos} {Q} (t : PV → Bool) (f : PV → PV) (hy : Own env y)
    (hsw : swapsWith (.ListComp elt [⟨.Name x px, iter, ifs, 0⟩] scope pos) (some (.Name y py)) spos.line env = pure true) (ok : CompOk env scope cl x iter)
    (h : EV g A env σ mu iter (fun p m => ∃ items, ITER g A p items ∧ items.length ≤ sizeLine ∧
      (∀ (C : Addr) (i : Nat) (q : PV) (m' : Mu), items[i]? = some q → MuLe m m' → TST g A (cEnv scope cl env C) ((capS cl σ).set x q) m' ifs (t q) ∧ (t q = true → EV g A (cEnv scope cl env C) ((capS cl σ).set x q) m' elt (fun r m'' => r = f q ∧ m'' = m'))) ∧
      Q .next (σ.set y (.list ((items.filter t).map f))) m)) : ES g A env σ mu (.Assign [.Name y py] (.ListComp elt [⟨.Name x px, iter, ifs, 0⟩] scope pos) spos) Q := fun H s I => by
  rw [exec_Assign_Name_used _ _ _ _ hsw]
  refine wpAny_bind (wpAny_standAt (wpAny_bind ?_))
  show wpAny _ A (do let _ ← comprehension (.ListComp elt [⟨.Name x px, iter, ifs, 0⟩] scope pos) scope env _ (newList []) false (eval iter env) (some (PySem.assign (.Name y py) env))) _ _ s
  refine wpAny_bind (wpAny_mono (wpAny_comprehension_free (use := some (PySem.assign (.Name y py) env)) (Q := fun _ s' => SPost g env H Q .next s') rfl ok.fold ok.clos ok.kind ok.names
    (wpAny_mono (h H s I) (fun xv s₁ h₁ => ?_) fun _ _ e => e)) (fun _ s' hq => wpAny_pure (wpAny_pure hq)) fun _ _ e => e)
  obtain ⟨H1, m1, p, l1, I1, R1, items, hit, hz, turn, hQ⟩ := h₁
  refine comp_core (RR := fun acc C r s' => compPost g.M A NoE (some (PySem.assign (.Name y py) env)) (fun _ s' => SPost g env H Q .next s') acc C r s') t f ok.cap I1 R1 hit ok.own ok.notx hz turn ?_
  intro D C H' s' vs n m hD hC hDC le I' hHD hHC hmD hmC gD hrep hn
  have hL : env.locals < D := Nat.lt_of_lt_of_le I1.L_lt hD
  have hLC : env.locals < C := Nat.lt_of_lt_of_le I1.L_lt hC
  obtain ⟨a1, a2, a3⟩ := I'.addList gD hHD hmD hL (fun x c hc => Nat.lt_of_lt_of_le (I1.C_lt hc) hD) hrep
  have hHC' : (H'.add D { cls := .type "list", data := .seq (List.toArray vs) n }) C = none := by unfold Fz.add; rw [if_neg (Ne.symm hDC)]; exact hHC
  obtain ⟨oC, _, _, hgC, _⟩ := id hn
  have hdC := ns_notVal hn hgC
  have hvC : isVal oC = false := by
    cases e : isVal oC with
    | false => rfl
    | true => have := isVal.dat e; rw [hdC] at this; cases this
  have hB : g.B.get? C = none := by
    cases e : g.B.get? C with
    | none => rfl
    | some o => exact absurd (Heap.lt_size (I1.base _ _ e)) (Nat.not_lt.mpr hC)
  have a5 := a2.freeze (a := C) hgC hHC' hmC (Nat.ne_of_gt hLC) (fun x c hc => Nat.ne_of_lt (Nat.lt_of_lt_of_le (I1.C_lt hc) hC))
  show wpAny _ A (PySem.assign (.Name y py) env (.ref D)) _ _ _
  refine wpAny_assign_Name (store_own (p := .list ((items.filter t).map f)) a5 hy (a3.mono (Fz.le_add hHC')) fun s2 J => ?_)
  have gC2 : s2.heap.get? C = some oC := J.st.sub _ _ (Fz.add_self _ _ _)
  refine ⟨m, hn.at' fun o e => by rw [hgC] at e; cases e; exact gC2, fun h' hs' => ?_⟩
  have J2 := J.thaw (Fz.add_self _ _ _) hvC hB
  have J3 := J2.sameBut (a := C) (h' := h') (by unfold Fz.del; simp) hmC (Nat.ne_of_gt hLC) (fun x c hc => Nat.ne_of_lt (Nat.lt_of_lt_of_le (I1.C_lt hc) hC)) (fun b o hb e => (hs'.2 b hb).trans e) s2.toks
  refine ⟨_, _, m1, .next, ?_, J3, rfl, hQ⟩
  intro b o e
  have e1 := Fz.le_trans l1 (Fz.le_trans le a1) b o e
  have hb : b ≠ C := by rintro rfl; rw [hHC'] at e1; cases e1
  unfold Fz.del; rw [if_neg hb]
  exact Fz.le_add hHC' _ _ e1
end
end Mine
namespace Mine

/-- the sum of f 0, f 1, .. below n -/
def sumTo (f : Nat → Int) : Nat → Int
  | 0 => 0
  | n + 1 => sumTo f n + f n

/-- a place of a square -/
def cell (M : List (List Bool)) (r c : Nat) : Bool := (M.getD r []).getD c false
/-- n lines of n places -/
structure Sq (M : List (List Bool)) (n : Nat) : Prop where
  len : M.length = n
  rows : ∀ r ∈ M, r.length = n

theorem Sq.row {M : List (List Bool)} {n r : Nat} (h : Sq M n) (hr : r < n) : M[r]? = some (M.getD r []) := by
  have : r < M.length := by rw [h.len]; exact hr
  simp [List.getD, this]
theorem Sq.rowLen {M : List (List Bool)} {n r : Nat} (h : Sq M n) (hr : r < n) : (M.getD r []).length = n :=
  h.rows _ (List.mem_of_getElem? (h.row hr))
theorem Sq.at {M : List (List Bool)} {n r c : Nat} (h : Sq M n) (hr : r < n) (hc : c < n) : (M.getD r [])[c]? = some (cell M r c) := by
  have hl : c < (M.getD r []).length := by rw [h.rowLen hr]; exact hc
  unfold cell
  generalize M.getD r [] = row at hl
  simp [List.getD_eq_getElem?_getD, hl]

/-- two by two of one colour -/
def blk (M : List (List Bool)) (r c : Nat) : Int := if cell M r (c + 1) = cell M (r + 1) (c + 1) ∧ cell M r (c + 1) = cell M r c ∧ cell M r (c + 1) = cell M (r + 1) c then 3 else 0
def lvl2 (M : List (List Bool)) (n : Nat) : Int := sumTo (fun r => sumTo (blk M r) (n - 1)) (n - 1)
theorem sumTo_succ (f : Nat → Int) (n : Nat) : sumTo f (n + 1) = sumTo f n + f n := rfl
theorem blk_off {M : List (List Bool)} {r c : Nat} (h : ¬ (cell M r (c + 1) = cell M (r + 1) (c + 1) ∧ cell M r (c + 1) = cell M r c ∧ cell M r (c + 1) = cell M (r + 1) c)) : blk M r c = 0 := if_neg h
theorem blk_on {M : List (List Bool)} {r c : Nat} (h : cell M r (c + 1) = cell M (r + 1) (c + 1) ∧ cell M r (c + 1) = cell M r c ∧ cell M r (c + 1) = cell M (r + 1) c) : blk M r c = 3 := if_pos h
theorem sumTo_congr {f h : Nat → Int} : ∀ {n : Nat}, (∀ i, i < n → f i = h i) → sumTo f n = sumTo h n
  | 0, _ => rfl
  | n + 1, e => by rw [sumTo_succ, sumTo_succ, sumTo_congr fun i hi => e i (Nat.lt_succ_of_lt hi), e n (Nat.lt_succ_self n)]

/-- a finder's row, four light ones before or behind, in a line -/
def pat (f : Nat → Bool) (c : Nat) : Bool :=
  !f (c + 1) && (f (c + 4) && (!f (c + 5) && (f (c + 6) && (!f (c + 9) &&
    (((f (c + 0) && (f (c + 2) && (f (c + 3) && (!f (c + 7) && (!f (c + 8) && (!f (c + 10) && true)))))) ||
     ((!f (c + 0) && (!f (c + 2) && (!f (c + 3) && (f (c + 7) && (f (c + 8) && (f (c + 10) && true)))))) || false)) && true)))))
def pts (f : Nat → Bool) (c : Nat) : Int := if pat f c then 40 else 0
theorem pts_skip {f : Nat → Bool} {c : Nat} (h : f (c + 10) = true) : pts f (c + 1) = 0 := by
  unfold pts
  rw [if_neg]
  unfold pat
  rw [show c + 1 + 9 = c + 10 from rfl, h]
  simp
def lvl3 (M : List (List Bool)) (n : Nat) : Int := sumTo (fun r => sumTo (pts fun c => cell M r c) (n - 10)) n + sumTo (fun c => sumTo (pts fun r => cell M r c) (n - 10)) n
end Mine
namespace Mine

/-- the text's defs, by their place -/
def fnStmt (i : Nat) : Option Stmt := PySem.Challenge.pw_bj0059_01.main.body[i]?
def fnBody (i : Nat) : List Stmt := match fnStmt i with | some (.FunctionDef (body := b) ..) => b | _ => []
def fnScope (i : Nat) : Scope := match fnStmt i with | some (.FunctionDef (scope := b) ..) => b | _ => default
def fnArgs (i : Nat) : Arguments := match fnStmt i with | some (.FunctionDef (args := b) ..) => b | _ => default
def fnName (i : Nat) : Str := match fnStmt i with | some (.FunctionDef (name := b) ..) => b | _ => default
def fEnv (i : Nat) (L a : Addr) (cd : Value) : Env := newEnv (fnScope i) L mainGlobals (cellsFrom (L + 1) (fnScope i).names []) (fnName i ++ ".<locals>.") (some a) cd none builtinsNs

def fnDoc (i : Nat) (pm cd : Value) (doc : Value) : FuncData := PySem.Calls.docDef (fnName i) (fnArgs i) (fnBody i) (fnScope i) pm cd doc
structure FnAt (g : G) (a : Addr) (i : Nat) : Prop where
  ex : ∃ o pm cd doc, g.B.get? a = some o ∧ o.data = .func (fnDoc i pm cd doc) ∧ g.B.CodeRec cd (fnName i)

/-- a code and its table, but for the table's own object -/
def CodeBut (h : Heap) (c P : Addr) : Prop := ∃ o vs file tf flags tg inF text tt, h.get? c = some o ∧ o.data = .fields vs ∧ vs.getD 11 .none = .ref P ∧ vs.getD 18 .none = .str file tf ∧
    vs.getD 7 .none = .int flags tg ∧ vs.getD 9 .none = .bool inF ∧ vs.getD 10 .none = .int text tt ∧ c ≠ P ∧ o.cls = .type "code" ∧ vs[11]? = some (.ref P)
/-- a code's table -/
def tabObj (ps : Array Value) : Obj := { cls := .none, data := .fields ps }
/-- what the top bears -/
structure Tops (g : G) where
  len : g.mg (Str.ofString "len") = none
  range : g.mg (Str.ofString "range") = none
  sum : g.mg (Str.ofString "sum") = none
  max : g.mg (Str.ofString "max") = none
  abs : g.mg (Str.ofString "abs") = none
  iter : g.mg (Str.ofString "iter") = none
  next : g.mg (Str.ofString "next") = none
  map : g.mg (Str.ofString "map") = none
  a1 : Addr
  a2 : Addr
  a3 : Addr
  a4 : Addr
  a5 : Addr
  a7 : Addr
  a8 : Addr
  a9 : Addr
  a10 : Addr
  n1 : g.mg (Str.ofString "lost_point") = some (.ref a1)
  n2 : g.mg (Str.ofString "_lost_point_level1") = some (.ref a2)
  n3 : g.mg (Str.ofString "_lost_point_level2") = some (.ref a3)
  n4 : g.mg (Str.ofString "_lost_point_level3") = some (.ref a4)
  n5 : g.mg (Str.ofString "_lost_point_level4") = some (.ref a5)
  n7 : g.mg (Str.ofString "_law_next") = some (.ref a7)
  n8 : g.mg (Str.ofString "_law_square") = some (.ref a8)
  n9 : g.mg (Str.ofString "_law_runs") = some (.ref a9)
  n10 : g.mg (Str.ofString "_law_marks") = some (.ref a10)
  bmod : ∃ bm ob, BMod g.B mainGlobals g.mg bm ob
  c2 : Addr
  P2 : Addr
  code2 : ∃ o fd, g.B.get? a2 = some o ∧ o.data = .func fd ∧ fd.code = .ref c2
  but2 : CodeBut g.B c2 P2
  f1 : FnAt g a1 1
  f2 : FnAt g a2 2
  f3 : FnAt g a3 3
  f4 : FnAt g a4 4
  f5 : FnAt g a5 5
  f7 : FnAt g a7 7
  f8 : FnAt g a8 8
  f9 : FnAt g a9 9
  f10 : FnAt g a10 10

/-- room for k calls more -/
structure Room (A : Around) (k : Nat) : Prop where
  h : A.handled = none
  d : A.depth + k < recursionLimit
  u : A.units + 8 * k < cLine
theorem Room.deeper {A : Around} {k : Nat} (r : Room A (k + 1)) (env : Env) : Room (A.deeper env) k :=
  ⟨r.h, by have := r.d; show A.depth + 1 + k < _; omega, by have := r.u; show A.units + 3 + 8 * k < _; omega⟩
theorem Room.le {A : Around} {k j : Nat} (r : Room A k) (h : j ≤ k) : Room A j := ⟨r.h, by have := r.d; omega, by have := r.u; omega⟩

theorem nmBi {g : G} {env : Env} {x : Str} {pos : Pos} {v : Value} (hk : env.scope.kind = .function) (hx : env.kindOf x = some .globalImplicit) (hg : env.globals = mainGlobals) (hb : env.builtins = builtinsNs) (hd : (x == ("__debug__" : Str)) = false)
    (hm : g.mg x = none) (hn : x ≠ "__name__") (hv : bootBuiltins x = some v) : NAME g env (.Name x pos) v := fun _ _ _ k h => ld_bi k hk hx hg hb hd hm hn hv h
theorem nmGl {g : G} {env : Env} {x : Str} {pos : Pos} {v : Value} (hk : env.scope.kind = .function) (hx : env.kindOf x = some .globalImplicit) (hg : env.globals = mainGlobals) (hd : (x == ("__debug__" : Str)) = false)
    (hm : g.mg x = some v) : NAME g env (.Name x pos) v := fun _ _ _ k h => ld_glob k hk hx hg hd hm h

/-- the iterators that a call leaves behind are forgotten -/
theorem EX.frame {g A env σ mu st Q} (h : EX g A env σ mu st (fun fl σ' m' => MuLe mu m' ∧ Q fl σ' mu)) : EX g A env σ mu st Q := fun H s I =>
  wpAny_mono (h H s I) (fun f s' hs => let ⟨H', σ', m', fl, l, I', R, k, q⟩ := hs; ⟨H', σ', mu, fl, l, I'.muLe k, R, q⟩) fun _ _ x => x

theorem CALL.at {g : G} {A : Around} {mu : Mu} {a : Addr} {i : Nat} {ps : List PV} {Q : PV → Mu → Prop} {k : Nat} (names : List Str) (R : Room A (k + 1)) (F : FnAt g a i)
    (hbind : ∀ pm cd doc (vs : List Value), vs.length = ps.length → bindArgs (fnDoc i pm cd doc) ⟨vs, []⟩ = pure (names.zip vs))
    (hloc : ∀ n ∈ names, (fnScope i).names.lookup n = some .local) (hco : (fnScope i).isCoroutine = false) (hgen : (fnScope i).isGenerator = false) (hk : (fnScope i).kind = .function)
    (h : ∀ L cd A', Room A' k → EX g A' (fEnv i L a cd) (bindS names ps fun _ => none) mu (fnBody i) (Ret Q)) : CALL g A (.ref a) mu ps Q := by
  obtain ⟨o, pm, cd, doc, ho, hfd, hcode⟩ := F.ex
  exact CALL.fn names (by have := R.d; omega) ho hfd hcode rfl rfl (fun vs hv => hbind pm cd doc vs hv) hloc hco hgen hk fun L => h L cd _ (R.deeper _)

theorem CALL.atC {g : G} {A : Around} {mu : Mu} {a : Addr} {i : Nat} {ps : List PV} {Q : PV → Mu → Prop} {k : Nat} {cd : Value} (names : List Str) (R : Room A (k + 1)) (F : FnAt g a i) (hcd : ∃ o fd, g.B.get? a = some o ∧ o.data = .func fd ∧ fd.code = cd)
    (hbind : ∀ pm cd doc (vs : List Value), vs.length = ps.length → bindArgs (fnDoc i pm cd doc) ⟨vs, []⟩ = pure (names.zip vs))
    (hloc : ∀ n ∈ names, (fnScope i).names.lookup n = some .local) (hco : (fnScope i).isCoroutine = false) (hgen : (fnScope i).isGenerator = false) (hk : (fnScope i).kind = .function)
    (h : ∀ L A', Room A' k → EX g A' (fEnv i L a cd) (bindS names ps fun _ => none) mu (fnBody i) (Ret Q)) : CALL g A (.ref a) mu ps Q := by
  obtain ⟨o, pm, cd1, doc, ho, hfd, hcode⟩ := F.ex
  obtain ⟨o', fd', ho', hfd', hc'⟩ := hcd
  rw [ho] at ho'; cases ho'
  rw [hfd] at hfd'; cases hfd'
  have hc' : cd1 = cd := hc'
  subst hc'
  exact CALL.fn names (by have := R.d; omega) ho hfd hcode rfl rfl (fun vs hv => hbind pm cd1 doc vs hv) hloc hco hgen hk fun L => h L _ (R.deeper _)

abbrev rowPV (r : List Bool) : PV := .list (r.map .bool)
abbrev matPV (M : List (List Bool)) : PV := .list (M.map rowPV)
theorem SUBS.at {g : G} {A : Around} {mu : Mu} {value slice : Expr} {xs : List PV} {i : Int} {r : PV} {Q : PV → Mu → Prop} (j : Nat) (hs : PlainSub slice) (hi : i = (j : Int)) (hb : j < 4611686018427387904) (hx : xs[j]? = some r) (h : Q r mu) :
    SUBS g A value slice mu (.list xs) (.int i) Q := SUBS.list hs (by omega) (by omega) (by rw [hi]; exact hx) h
theorem iteT {P Q : Prop} (h : P) : if true = true then P else Q := by rw [if_pos rfl]; exact h
theorem iteF {P Q : Prop} (h : Q) : if false = true then P else Q := by rw [if_neg Bool.false_ne_true]; exact h
theorem MuLe.upd {m m' : Mu} {a : Addr} {v : MV} (k : MuLe m m') (h : m a = none) : MuLe m (m'.set a v) := fun b w e => by
  rw [Mu.set_ne (by rintro rfl; rw [h] at e; cases e)]; exact k b w e
theorem MuLe.none {m m' : Mu} {a : Addr} (k : MuLe m m') (h : m' a = none) : m a = none := by
  cases e : m a with
  | none => rfl
  | some v => rw [k a v e] at h; cases h
theorem mat_get {M : List (List Bool)} {n r : Nat} (h : Sq M n) (hr : r < n) : (M.map rowPV)[r]? = some (rowPV (M.getD r [])) := by
  rw [List.getElem?_map, h.row hr]; rfl
theorem row_get {M : List (List Bool)} {n r c : Nat} (h : Sq M n) (hr : r < n) (hc : c < n) : ((M.getD r []).map PV.bool)[c]? = some (.bool (cell M r c)) := by
  rw [List.getElem?_map, h.at hr hc]; rfl
end Mine
namespace Mine
theorem ne_1 : (Str.ofString "modules") ≠ (Str.ofString "modules_count") ∧ (Str.ofString "modules") ≠ (Str.ofString "lost_point") ∧ (Str.ofString "modules_count") ≠ (Str.ofString "modules") ∧ (Str.ofString "modules_count") ≠ (Str.ofString "lost_point") ∧ (Str.ofString "lost_point") ≠ (Str.ofString "modules") ∧ (Str.ofString "lost_point") ≠ (Str.ofString "modules_count") := by (repeat' apply And.intro) <;> decide +kernel
theorem own_1 (L a : Addr) (cd : Value) : Own (fEnv 1 L a cd) (Str.ofString "modules") ∧ Own (fEnv 1 L a cd) (Str.ofString "modules_count") ∧ Own (fEnv 1 L a cd) (Str.ofString "lost_point") := by
  refine ⟨?_, ?_, ?_⟩ <;> first | exact ⟨rfl, .inl rfl⟩ | exact ⟨rfl, .inr ⟨rfl, rfl⟩⟩
theorem dbg_1 : ((Str.ofString "modules") == ("__debug__" : Str)) = false ∧ ((Str.ofString "modules_count") == ("__debug__" : Str)) = false ∧ ((Str.ofString "lost_point") == ("__debug__" : Str)) = false := by (repeat' apply And.intro) <;> decide +kernel
theorem ne_2 : (Str.ofString "modules") ≠ (Str.ofString "modules_count") ∧ (Str.ofString "modules") ≠ (Str.ofString "lost_point") ∧ (Str.ofString "modules") ≠ (Str.ofString "modules_range") ∧ (Str.ofString "modules") ≠ (Str.ofString "container") ∧ (Str.ofString "modules") ≠ (Str.ofString "row") ∧ (Str.ofString "modules") ≠ (Str.ofString "this_row") ∧ (Str.ofString "modules") ≠ (Str.ofString "previous_color") ∧ (Str.ofString "modules") ≠ (Str.ofString "length") ∧ (Str.ofString "modules") ≠ (Str.ofString "col") ∧ (Str.ofString "modules_count") ≠ (Str.ofString "modules") ∧ (Str.ofString "modules_count") ≠ (Str.ofString "lost_point") ∧ (Str.ofString "modules_count") ≠ (Str.ofString "modules_range") ∧ (Str.ofString "modules_count") ≠ (Str.ofString "container") ∧ (Str.ofString "modules_count") ≠ (Str.ofString "row") ∧ (Str.ofString "modules_count") ≠ (Str.ofString "this_row") ∧ (Str.ofString "modules_count") ≠ (Str.ofString "previous_color") ∧ (Str.ofString "modules_count") ≠ (Str.ofString "length") ∧ (Str.ofString "modules_count") ≠ (Str.ofString "col") ∧ (Str.ofString "lost_point") ≠ (Str.ofString "modules") ∧ (Str.ofString "lost_point") ≠ (Str.ofString "modules_count") ∧ (Str.ofString "lost_point") ≠ (Str.ofString "modules_range") ∧ (Str.ofString "lost_point") ≠ (Str.ofString "container") ∧ (Str.ofString "lost_point") ≠ (Str.ofString "row") ∧ (Str.ofString "lost_point") ≠ (Str.ofString "this_row") ∧ (Str.ofString "lost_point") ≠ (Str.ofString "previous_color") ∧ (Str.ofString "lost_point") ≠ (Str.ofString "length") ∧ (Str.ofString "lost_point") ≠ (Str.ofString "col") ∧ (Str.ofString "modules_range") ≠ (Str.ofString "modules") ∧ (Str.ofString "modules_range") ≠ (Str.ofString "modules_count") ∧ (Str.ofString "modules_range") ≠ (Str.ofString "lost_point") ∧ (Str.ofString "modules_range") ≠ (Str.ofString "container") ∧ (Str.ofString "modules_range") ≠ (Str.ofString "row") ∧ (Str.ofString "modules_range") ≠ (Str.ofString "this_row") ∧ (Str.ofString "modules_range") ≠ (Str.ofString "previous_color") ∧ (Str.ofString "modules_range") ≠ (Str.ofString "length") ∧ (Str.ofString "modules_range") ≠ (Str.ofString "col") ∧ (Str.ofString "container") ≠ (Str.ofString "modules") ∧ (Str.ofString "container") ≠ (Str.ofString "modules_count") ∧ (Str.ofString "container") ≠ (Str.ofString "lost_point") ∧ (Str.ofString "container") ≠ (Str.ofString "modules_range") ∧ (Str.ofString "container") ≠ (Str.ofString "row") ∧ (Str.ofString "container") ≠ (Str.ofString "this_row") ∧ (Str.ofString "container") ≠ (Str.ofString "previous_color") ∧ (Str.ofString "container") ≠ (Str.ofString "length") ∧ (Str.ofString "container") ≠ (Str.ofString "col") ∧ (Str.ofString "row") ≠ (Str.ofString "modules") ∧ (Str.ofString "row") ≠ (Str.ofString "modules_count") ∧ (Str.ofString "row") ≠ (Str.ofString "lost_point") ∧ (Str.ofString "row") ≠ (Str.ofString "modules_range") ∧ (Str.ofString "row") ≠ (Str.ofString "container") ∧ (Str.ofString "row") ≠ (Str.ofString "this_row") ∧ (Str.ofString "row") ≠ (Str.ofString "previous_color") ∧ (Str.ofString "row") ≠ (Str.ofString "length") ∧ (Str.ofString "row") ≠ (Str.ofString "col") ∧ (Str.ofString "this_row") ≠ (Str.ofString "modules") ∧ (Str.ofString "this_row") ≠ (Str.ofString "modules_count") ∧ (Str.ofString "this_row") ≠ (Str.ofString "lost_point") ∧ (Str.ofString "this_row") ≠ (Str.ofString "modules_range") ∧ (Str.ofString "this_row") ≠ (Str.ofString "container") ∧ (Str.ofString "this_row") ≠ (Str.ofString "row") ∧ (Str.ofString "this_row") ≠ (Str.ofString "previous_color") ∧ (Str.ofString "this_row") ≠ (Str.ofString "length") ∧ (Str.ofString "this_row") ≠ (Str.ofString "col") ∧ (Str.ofString "previous_color") ≠ (Str.ofString "modules") ∧ (Str.ofString "previous_color") ≠ (Str.ofString "modules_count") ∧ (Str.ofString "previous_color") ≠ (Str.ofString "lost_point") ∧ (Str.ofString "previous_color") ≠ (Str.ofString "modules_range") ∧ (Str.ofString "previous_color") ≠ (Str.ofString "container") ∧ (Str.ofString "previous_color") ≠ (Str.ofString "row") ∧ (Str.ofString "previous_color") ≠ (Str.ofString "this_row") ∧ (Str.ofString "previous_color") ≠ (Str.ofString "length") ∧ (Str.ofString "previous_color") ≠ (Str.ofString "col") ∧ (Str.ofString "length") ≠ (Str.ofString "modules") ∧ (Str.ofString "length") ≠ (Str.ofString "modules_count") ∧ (Str.ofString "length") ≠ (Str.ofString "lost_point") ∧ (Str.ofString "length") ≠ (Str.ofString "modules_range") ∧ (Str.ofString "length") ≠ (Str.ofString "container") ∧ (Str.ofString "length") ≠ (Str.ofString "row") ∧ (Str.ofString "length") ≠ (Str.ofString "this_row") ∧ (Str.ofString "length") ≠ (Str.ofString "previous_color") ∧ (Str.ofString "length") ≠ (Str.ofString "col") ∧ (Str.ofString "col") ≠ (Str.ofString "modules") ∧ (Str.ofString "col") ≠ (Str.ofString "modules_count") ∧ (Str.ofString "col") ≠ (Str.ofString "lost_point") ∧ (Str.ofString "col") ≠ (Str.ofString "modules_range") ∧ (Str.ofString "col") ≠ (Str.ofString "container") ∧ (Str.ofString "col") ≠ (Str.ofString "row") ∧ (Str.ofString "col") ≠ (Str.ofString "this_row") ∧ (Str.ofString "col") ≠ (Str.ofString "previous_color") ∧ (Str.ofString "col") ≠ (Str.ofString "length") := by (repeat' apply And.intro) <;> decide +kernel
theorem own_2 (L a : Addr) (cd : Value) : Own (fEnv 2 L a cd) (Str.ofString "modules") ∧ Own (fEnv 2 L a cd) (Str.ofString "modules_count") ∧ Own (fEnv 2 L a cd) (Str.ofString "lost_point") ∧ Own (fEnv 2 L a cd) (Str.ofString "modules_range") ∧ Own (fEnv 2 L a cd) (Str.ofString "container") ∧ Own (fEnv 2 L a cd) (Str.ofString "row") ∧ Own (fEnv 2 L a cd) (Str.ofString "this_row") ∧ Own (fEnv 2 L a cd) (Str.ofString "previous_color") ∧ Own (fEnv 2 L a cd) (Str.ofString "length") ∧ Own (fEnv 2 L a cd) (Str.ofString "col") := by
  refine ⟨?_, ?_, ?_, ?_, ?_, ?_, ?_, ?_, ?_, ?_⟩ <;> first | exact ⟨rfl, .inl rfl⟩ | exact ⟨rfl, .inr ⟨rfl, rfl⟩⟩
theorem dbg_2 : ((Str.ofString "modules") == ("__debug__" : Str)) = false ∧ ((Str.ofString "modules_count") == ("__debug__" : Str)) = false ∧ ((Str.ofString "lost_point") == ("__debug__" : Str)) = false ∧ ((Str.ofString "modules_range") == ("__debug__" : Str)) = false ∧ ((Str.ofString "container") == ("__debug__" : Str)) = false ∧ ((Str.ofString "row") == ("__debug__" : Str)) = false ∧ ((Str.ofString "this_row") == ("__debug__" : Str)) = false ∧ ((Str.ofString "previous_color") == ("__debug__" : Str)) = false ∧ ((Str.ofString "length") == ("__debug__" : Str)) = false ∧ ((Str.ofString "col") == ("__debug__" : Str)) = false := by (repeat' apply And.intro) <;> decide +kernel
theorem ne_3 : (Str.ofString "modules") ≠ (Str.ofString "modules_count") ∧ (Str.ofString "modules") ≠ (Str.ofString "lost_point") ∧ (Str.ofString "modules") ≠ (Str.ofString "modules_range") ∧ (Str.ofString "modules") ≠ (Str.ofString "row") ∧ (Str.ofString "modules") ≠ (Str.ofString "this_row") ∧ (Str.ofString "modules") ≠ (Str.ofString "next_row") ∧ (Str.ofString "modules") ≠ (Str.ofString "modules_range_iter") ∧ (Str.ofString "modules") ≠ (Str.ofString "col") ∧ (Str.ofString "modules") ≠ (Str.ofString "top_right") ∧ (Str.ofString "modules_count") ≠ (Str.ofString "modules") ∧ (Str.ofString "modules_count") ≠ (Str.ofString "lost_point") ∧ (Str.ofString "modules_count") ≠ (Str.ofString "modules_range") ∧ (Str.ofString "modules_count") ≠ (Str.ofString "row") ∧ (Str.ofString "modules_count") ≠ (Str.ofString "this_row") ∧ (Str.ofString "modules_count") ≠ (Str.ofString "next_row") ∧ (Str.ofString "modules_count") ≠ (Str.ofString "modules_range_iter") ∧ (Str.ofString "modules_count") ≠ (Str.ofString "col") ∧ (Str.ofString "modules_count") ≠ (Str.ofString "top_right") ∧ (Str.ofString "lost_point") ≠ (Str.ofString "modules") ∧ (Str.ofString "lost_point") ≠ (Str.ofString "modules_count") ∧ (Str.ofString "lost_point") ≠ (Str.ofString "modules_range") ∧ (Str.ofString "lost_point") ≠ (Str.ofString "row") ∧ (Str.ofString "lost_point") ≠ (Str.ofString "this_row") ∧ (Str.ofString "lost_point") ≠ (Str.ofString "next_row") ∧ (Str.ofString "lost_point") ≠ (Str.ofString "modules_range_iter") ∧ (Str.ofString "lost_point") ≠ (Str.ofString "col") ∧ (Str.ofString "lost_point") ≠ (Str.ofString "top_right") ∧ (Str.ofString "modules_range") ≠ (Str.ofString "modules") ∧ (Str.ofString "modules_range") ≠ (Str.ofString "modules_count") ∧ (Str.ofString "modules_range") ≠ (Str.ofString "lost_point") ∧ (Str.ofString "modules_range") ≠ (Str.ofString "row") ∧ (Str.ofString "modules_range") ≠ (Str.ofString "this_row") ∧ (Str.ofString "modules_range") ≠ (Str.ofString "next_row") ∧ (Str.ofString "modules_range") ≠ (Str.ofString "modules_range_iter") ∧ (Str.ofString "modules_range") ≠ (Str.ofString "col") ∧ (Str.ofString "modules_range") ≠ (Str.ofString "top_right") ∧ (Str.ofString "row") ≠ (Str.ofString "modules") ∧ (Str.ofString "row") ≠ (Str.ofString "modules_count") ∧ (Str.ofString "row") ≠ (Str.ofString "lost_point") ∧ (Str.ofString "row") ≠ (Str.ofString "modules_range") ∧ (Str.ofString "row") ≠ (Str.ofString "this_row") ∧ (Str.ofString "row") ≠ (Str.ofString "next_row") ∧ (Str.ofString "row") ≠ (Str.ofString "modules_range_iter") ∧ (Str.ofString "row") ≠ (Str.ofString "col") ∧ (Str.ofString "row") ≠ (Str.ofString "top_right") ∧ (Str.ofString "this_row") ≠ (Str.ofString "modules") ∧ (Str.ofString "this_row") ≠ (Str.ofString "modules_count") ∧ (Str.ofString "this_row") ≠ (Str.ofString "lost_point") ∧ (Str.ofString "this_row") ≠ (Str.ofString "modules_range") ∧ (Str.ofString "this_row") ≠ (Str.ofString "row") ∧ (Str.ofString "this_row") ≠ (Str.ofString "next_row") ∧ (Str.ofString "this_row") ≠ (Str.ofString "modules_range_iter") ∧ (Str.ofString "this_row") ≠ (Str.ofString "col") ∧ (Str.ofString "this_row") ≠ (Str.ofString "top_right") ∧ (Str.ofString "next_row") ≠ (Str.ofString "modules") ∧ (Str.ofString "next_row") ≠ (Str.ofString "modules_count") ∧ (Str.ofString "next_row") ≠ (Str.ofString "lost_point") ∧ (Str.ofString "next_row") ≠ (Str.ofString "modules_range") ∧ (Str.ofString "next_row") ≠ (Str.ofString "row") ∧ (Str.ofString "next_row") ≠ (Str.ofString "this_row") ∧ (Str.ofString "next_row") ≠ (Str.ofString "modules_range_iter") ∧ (Str.ofString "next_row") ≠ (Str.ofString "col") ∧ (Str.ofString "next_row") ≠ (Str.ofString "top_right") ∧ (Str.ofString "modules_range_iter") ≠ (Str.ofString "modules") ∧ (Str.ofString "modules_range_iter") ≠ (Str.ofString "modules_count") ∧ (Str.ofString "modules_range_iter") ≠ (Str.ofString "lost_point") ∧ (Str.ofString "modules_range_iter") ≠ (Str.ofString "modules_range") ∧ (Str.ofString "modules_range_iter") ≠ (Str.ofString "row") ∧ (Str.ofString "modules_range_iter") ≠ (Str.ofString "this_row") ∧ (Str.ofString "modules_range_iter") ≠ (Str.ofString "next_row") ∧ (Str.ofString "modules_range_iter") ≠ (Str.ofString "col") ∧ (Str.ofString "modules_range_iter") ≠ (Str.ofString "top_right") ∧ (Str.ofString "col") ≠ (Str.ofString "modules") ∧ (Str.ofString "col") ≠ (Str.ofString "modules_count") ∧ (Str.ofString "col") ≠ (Str.ofString "lost_point") ∧ (Str.ofString "col") ≠ (Str.ofString "modules_range") ∧ (Str.ofString "col") ≠ (Str.ofString "row") ∧ (Str.ofString "col") ≠ (Str.ofString "this_row") ∧ (Str.ofString "col") ≠ (Str.ofString "next_row") ∧ (Str.ofString "col") ≠ (Str.ofString "modules_range_iter") ∧ (Str.ofString "col") ≠ (Str.ofString "top_right") ∧ (Str.ofString "top_right") ≠ (Str.ofString "modules") ∧ (Str.ofString "top_right") ≠ (Str.ofString "modules_count") ∧ (Str.ofString "top_right") ≠ (Str.ofString "lost_point") ∧ (Str.ofString "top_right") ≠ (Str.ofString "modules_range") ∧ (Str.ofString "top_right") ≠ (Str.ofString "row") ∧ (Str.ofString "top_right") ≠ (Str.ofString "this_row") ∧ (Str.ofString "top_right") ≠ (Str.ofString "next_row") ∧ (Str.ofString "top_right") ≠ (Str.ofString "modules_range_iter") ∧ (Str.ofString "top_right") ≠ (Str.ofString "col") := by (repeat' apply And.intro) <;> decide +kernel
theorem own_3 (L a : Addr) (cd : Value) : Own (fEnv 3 L a cd) (Str.ofString "modules") ∧ Own (fEnv 3 L a cd) (Str.ofString "modules_count") ∧ Own (fEnv 3 L a cd) (Str.ofString "lost_point") ∧ Own (fEnv 3 L a cd) (Str.ofString "modules_range") ∧ Own (fEnv 3 L a cd) (Str.ofString "row") ∧ Own (fEnv 3 L a cd) (Str.ofString "this_row") ∧ Own (fEnv 3 L a cd) (Str.ofString "next_row") ∧ Own (fEnv 3 L a cd) (Str.ofString "modules_range_iter") ∧ Own (fEnv 3 L a cd) (Str.ofString "col") ∧ Own (fEnv 3 L a cd) (Str.ofString "top_right") := by
  refine ⟨?_, ?_, ?_, ?_, ?_, ?_, ?_, ?_, ?_, ?_⟩ <;> first | exact ⟨rfl, .inl rfl⟩ | exact ⟨rfl, .inr ⟨rfl, rfl⟩⟩
theorem dbg_3 : ((Str.ofString "modules") == ("__debug__" : Str)) = false ∧ ((Str.ofString "modules_count") == ("__debug__" : Str)) = false ∧ ((Str.ofString "lost_point") == ("__debug__" : Str)) = false ∧ ((Str.ofString "modules_range") == ("__debug__" : Str)) = false ∧ ((Str.ofString "row") == ("__debug__" : Str)) = false ∧ ((Str.ofString "this_row") == ("__debug__" : Str)) = false ∧ ((Str.ofString "next_row") == ("__debug__" : Str)) = false ∧ ((Str.ofString "modules_range_iter") == ("__debug__" : Str)) = false ∧ ((Str.ofString "col") == ("__debug__" : Str)) = false ∧ ((Str.ofString "top_right") == ("__debug__" : Str)) = false := by (repeat' apply And.intro) <;> decide +kernel
theorem ne_4 : (Str.ofString "modules") ≠ (Str.ofString "modules_count") ∧ (Str.ofString "modules") ≠ (Str.ofString "modules_range") ∧ (Str.ofString "modules") ≠ (Str.ofString "modules_range_short") ∧ (Str.ofString "modules") ≠ (Str.ofString "lost_point") ∧ (Str.ofString "modules") ≠ (Str.ofString "row") ∧ (Str.ofString "modules") ≠ (Str.ofString "this_row") ∧ (Str.ofString "modules") ≠ (Str.ofString "modules_range_short_iter") ∧ (Str.ofString "modules") ≠ (Str.ofString "col") ∧ (Str.ofString "modules_count") ≠ (Str.ofString "modules") ∧ (Str.ofString "modules_count") ≠ (Str.ofString "modules_range") ∧ (Str.ofString "modules_count") ≠ (Str.ofString "modules_range_short") ∧ (Str.ofString "modules_count") ≠ (Str.ofString "lost_point") ∧ (Str.ofString "modules_count") ≠ (Str.ofString "row") ∧ (Str.ofString "modules_count") ≠ (Str.ofString "this_row") ∧ (Str.ofString "modules_count") ≠ (Str.ofString "modules_range_short_iter") ∧ (Str.ofString "modules_count") ≠ (Str.ofString "col") ∧ (Str.ofString "modules_range") ≠ (Str.ofString "modules") ∧ (Str.ofString "modules_range") ≠ (Str.ofString "modules_count") ∧ (Str.ofString "modules_range") ≠ (Str.ofString "modules_range_short") ∧ (Str.ofString "modules_range") ≠ (Str.ofString "lost_point") ∧ (Str.ofString "modules_range") ≠ (Str.ofString "row") ∧ (Str.ofString "modules_range") ≠ (Str.ofString "this_row") ∧ (Str.ofString "modules_range") ≠ (Str.ofString "modules_range_short_iter") ∧ (Str.ofString "modules_range") ≠ (Str.ofString "col") ∧ (Str.ofString "modules_range_short") ≠ (Str.ofString "modules") ∧ (Str.ofString "modules_range_short") ≠ (Str.ofString "modules_count") ∧ (Str.ofString "modules_range_short") ≠ (Str.ofString "modules_range") ∧ (Str.ofString "modules_range_short") ≠ (Str.ofString "lost_point") ∧ (Str.ofString "modules_range_short") ≠ (Str.ofString "row") ∧ (Str.ofString "modules_range_short") ≠ (Str.ofString "this_row") ∧ (Str.ofString "modules_range_short") ≠ (Str.ofString "modules_range_short_iter") ∧ (Str.ofString "modules_range_short") ≠ (Str.ofString "col") ∧ (Str.ofString "lost_point") ≠ (Str.ofString "modules") ∧ (Str.ofString "lost_point") ≠ (Str.ofString "modules_count") ∧ (Str.ofString "lost_point") ≠ (Str.ofString "modules_range") ∧ (Str.ofString "lost_point") ≠ (Str.ofString "modules_range_short") ∧ (Str.ofString "lost_point") ≠ (Str.ofString "row") ∧ (Str.ofString "lost_point") ≠ (Str.ofString "this_row") ∧ (Str.ofString "lost_point") ≠ (Str.ofString "modules_range_short_iter") ∧ (Str.ofString "lost_point") ≠ (Str.ofString "col") ∧ (Str.ofString "row") ≠ (Str.ofString "modules") ∧ (Str.ofString "row") ≠ (Str.ofString "modules_count") ∧ (Str.ofString "row") ≠ (Str.ofString "modules_range") ∧ (Str.ofString "row") ≠ (Str.ofString "modules_range_short") ∧ (Str.ofString "row") ≠ (Str.ofString "lost_point") ∧ (Str.ofString "row") ≠ (Str.ofString "this_row") ∧ (Str.ofString "row") ≠ (Str.ofString "modules_range_short_iter") ∧ (Str.ofString "row") ≠ (Str.ofString "col") ∧ (Str.ofString "this_row") ≠ (Str.ofString "modules") ∧ (Str.ofString "this_row") ≠ (Str.ofString "modules_count") ∧ (Str.ofString "this_row") ≠ (Str.ofString "modules_range") ∧ (Str.ofString "this_row") ≠ (Str.ofString "modules_range_short") ∧ (Str.ofString "this_row") ≠ (Str.ofString "lost_point") ∧ (Str.ofString "this_row") ≠ (Str.ofString "row") ∧ (Str.ofString "this_row") ≠ (Str.ofString "modules_range_short_iter") ∧ (Str.ofString "this_row") ≠ (Str.ofString "col") ∧ (Str.ofString "modules_range_short_iter") ≠ (Str.ofString "modules") ∧ (Str.ofString "modules_range_short_iter") ≠ (Str.ofString "modules_count") ∧ (Str.ofString "modules_range_short_iter") ≠ (Str.ofString "modules_range") ∧ (Str.ofString "modules_range_short_iter") ≠ (Str.ofString "modules_range_short") ∧ (Str.ofString "modules_range_short_iter") ≠ (Str.ofString "lost_point") ∧ (Str.ofString "modules_range_short_iter") ≠ (Str.ofString "row") ∧ (Str.ofString "modules_range_short_iter") ≠ (Str.ofString "this_row") ∧ (Str.ofString "modules_range_short_iter") ≠ (Str.ofString "col") ∧ (Str.ofString "col") ≠ (Str.ofString "modules") ∧ (Str.ofString "col") ≠ (Str.ofString "modules_count") ∧ (Str.ofString "col") ≠ (Str.ofString "modules_range") ∧ (Str.ofString "col") ≠ (Str.ofString "modules_range_short") ∧ (Str.ofString "col") ≠ (Str.ofString "lost_point") ∧ (Str.ofString "col") ≠ (Str.ofString "row") ∧ (Str.ofString "col") ≠ (Str.ofString "this_row") ∧ (Str.ofString "col") ≠ (Str.ofString "modules_range_short_iter") := by (repeat' apply And.intro) <;> decide +kernel
theorem own_4 (L a : Addr) (cd : Value) : Own (fEnv 4 L a cd) (Str.ofString "modules") ∧ Own (fEnv 4 L a cd) (Str.ofString "modules_count") ∧ Own (fEnv 4 L a cd) (Str.ofString "modules_range") ∧ Own (fEnv 4 L a cd) (Str.ofString "modules_range_short") ∧ Own (fEnv 4 L a cd) (Str.ofString "lost_point") ∧ Own (fEnv 4 L a cd) (Str.ofString "row") ∧ Own (fEnv 4 L a cd) (Str.ofString "this_row") ∧ Own (fEnv 4 L a cd) (Str.ofString "modules_range_short_iter") ∧ Own (fEnv 4 L a cd) (Str.ofString "col") := by
  refine ⟨?_, ?_, ?_, ?_, ?_, ?_, ?_, ?_, ?_⟩ <;> first | exact ⟨rfl, .inl rfl⟩ | exact ⟨rfl, .inr ⟨rfl, rfl⟩⟩
theorem dbg_4 : ((Str.ofString "modules") == ("__debug__" : Str)) = false ∧ ((Str.ofString "modules_count") == ("__debug__" : Str)) = false ∧ ((Str.ofString "modules_range") == ("__debug__" : Str)) = false ∧ ((Str.ofString "modules_range_short") == ("__debug__" : Str)) = false ∧ ((Str.ofString "lost_point") == ("__debug__" : Str)) = false ∧ ((Str.ofString "row") == ("__debug__" : Str)) = false ∧ ((Str.ofString "this_row") == ("__debug__" : Str)) = false ∧ ((Str.ofString "modules_range_short_iter") == ("__debug__" : Str)) = false ∧ ((Str.ofString "col") == ("__debug__" : Str)) = false := by (repeat' apply And.intro) <;> decide +kernel
theorem ne_5 : (Str.ofString "modules") ≠ (Str.ofString "modules_count") ∧ (Str.ofString "modules") ≠ (Str.ofString "dark_count") ∧ (Str.ofString "modules") ≠ (Str.ofString "rating") ∧ (Str.ofString "modules_count") ≠ (Str.ofString "modules") ∧ (Str.ofString "modules_count") ≠ (Str.ofString "dark_count") ∧ (Str.ofString "modules_count") ≠ (Str.ofString "rating") ∧ (Str.ofString "dark_count") ≠ (Str.ofString "modules") ∧ (Str.ofString "dark_count") ≠ (Str.ofString "modules_count") ∧ (Str.ofString "dark_count") ≠ (Str.ofString "rating") ∧ (Str.ofString "rating") ≠ (Str.ofString "modules") ∧ (Str.ofString "rating") ≠ (Str.ofString "modules_count") ∧ (Str.ofString "rating") ≠ (Str.ofString "dark_count") := by (repeat' apply And.intro) <;> decide +kernel
theorem own_5 (L a : Addr) (cd : Value) : Own (fEnv 5 L a cd) (Str.ofString "modules") ∧ Own (fEnv 5 L a cd) (Str.ofString "modules_count") ∧ Own (fEnv 5 L a cd) (Str.ofString "dark_count") ∧ Own (fEnv 5 L a cd) (Str.ofString "rating") := by
  refine ⟨?_, ?_, ?_, ?_⟩ <;> first | exact ⟨rfl, .inl rfl⟩ | exact ⟨rfl, .inr ⟨rfl, rfl⟩⟩
theorem dbg_5 : ((Str.ofString "modules") == ("__debug__" : Str)) = false ∧ ((Str.ofString "modules_count") == ("__debug__" : Str)) = false ∧ ((Str.ofString "dark_count") == ("__debug__" : Str)) = false ∧ ((Str.ofString "rating") == ("__debug__" : Str)) = false := by (repeat' apply And.intro) <;> decide +kernel
theorem ne_7 : (Str.ofString "state") ≠ (Str.ofString "many") ∧ (Str.ofString "state") ≠ (Str.ofString "found") ∧ (Str.ofString "many") ≠ (Str.ofString "state") ∧ (Str.ofString "many") ≠ (Str.ofString "found") ∧ (Str.ofString "found") ≠ (Str.ofString "state") ∧ (Str.ofString "found") ≠ (Str.ofString "many") := by (repeat' apply And.intro) <;> decide +kernel
theorem own_7 (L a : Addr) (cd : Value) : Own (fEnv 7 L a cd) (Str.ofString "state") ∧ Own (fEnv 7 L a cd) (Str.ofString "many") ∧ Own (fEnv 7 L a cd) (Str.ofString "found") := by
  refine ⟨?_, ?_, ?_⟩ <;> first | exact ⟨rfl, .inl rfl⟩ | exact ⟨rfl, .inr ⟨rfl, rfl⟩⟩
theorem dbg_7 : ((Str.ofString "state") == ("__debug__" : Str)) = false ∧ ((Str.ofString "many") == ("__debug__" : Str)) = false ∧ ((Str.ofString "found") == ("__debug__" : Str)) = false := by (repeat' apply And.intro) <;> decide +kernel
theorem ne_8 : (Str.ofString "state") ≠ (Str.ofString "side") ∧ (Str.ofString "state") ≠ (Str.ofString "lines") ∧ (Str.ofString "state") ≠ (Str.ofString "_") ∧ (Str.ofString "state") ≠ (Str.ofString "way") ∧ (Str.ofString "state") ≠ (Str.ofString "figure") ∧ (Str.ofString "state") ≠ (Str.ofString "line") ∧ (Str.ofString "state") ≠ (Str.ofString "at") ∧ (Str.ofString "state") ≠ (Str.ofString "mark") ∧ (Str.ofString "side") ≠ (Str.ofString "state") ∧ (Str.ofString "side") ≠ (Str.ofString "lines") ∧ (Str.ofString "side") ≠ (Str.ofString "_") ∧ (Str.ofString "side") ≠ (Str.ofString "way") ∧ (Str.ofString "side") ≠ (Str.ofString "figure") ∧ (Str.ofString "side") ≠ (Str.ofString "line") ∧ (Str.ofString "side") ≠ (Str.ofString "at") ∧ (Str.ofString "side") ≠ (Str.ofString "mark") ∧ (Str.ofString "lines") ≠ (Str.ofString "state") ∧ (Str.ofString "lines") ≠ (Str.ofString "side") ∧ (Str.ofString "lines") ≠ (Str.ofString "_") ∧ (Str.ofString "lines") ≠ (Str.ofString "way") ∧ (Str.ofString "lines") ≠ (Str.ofString "figure") ∧ (Str.ofString "lines") ≠ (Str.ofString "line") ∧ (Str.ofString "lines") ≠ (Str.ofString "at") ∧ (Str.ofString "lines") ≠ (Str.ofString "mark") ∧ (Str.ofString "_") ≠ (Str.ofString "state") ∧ (Str.ofString "_") ≠ (Str.ofString "side") ∧ (Str.ofString "_") ≠ (Str.ofString "lines") ∧ (Str.ofString "_") ≠ (Str.ofString "way") ∧ (Str.ofString "_") ≠ (Str.ofString "figure") ∧ (Str.ofString "_") ≠ (Str.ofString "line") ∧ (Str.ofString "_") ≠ (Str.ofString "at") ∧ (Str.ofString "_") ≠ (Str.ofString "mark") ∧ (Str.ofString "way") ≠ (Str.ofString "state") ∧ (Str.ofString "way") ≠ (Str.ofString "side") ∧ (Str.ofString "way") ≠ (Str.ofString "lines") ∧ (Str.ofString "way") ≠ (Str.ofString "_") ∧ (Str.ofString "way") ≠ (Str.ofString "figure") ∧ (Str.ofString "way") ≠ (Str.ofString "line") ∧ (Str.ofString "way") ≠ (Str.ofString "at") ∧ (Str.ofString "way") ≠ (Str.ofString "mark") ∧ (Str.ofString "figure") ≠ (Str.ofString "state") ∧ (Str.ofString "figure") ≠ (Str.ofString "side") ∧ (Str.ofString "figure") ≠ (Str.ofString "lines") ∧ (Str.ofString "figure") ≠ (Str.ofString "_") ∧ (Str.ofString "figure") ≠ (Str.ofString "way") ∧ (Str.ofString "figure") ≠ (Str.ofString "line") ∧ (Str.ofString "figure") ≠ (Str.ofString "at") ∧ (Str.ofString "figure") ≠ (Str.ofString "mark") ∧ (Str.ofString "line") ≠ (Str.ofString "state") ∧ (Str.ofString "line") ≠ (Str.ofString "side") ∧ (Str.ofString "line") ≠ (Str.ofString "lines") ∧ (Str.ofString "line") ≠ (Str.ofString "_") ∧ (Str.ofString "line") ≠ (Str.ofString "way") ∧ (Str.ofString "line") ≠ (Str.ofString "figure") ∧ (Str.ofString "line") ≠ (Str.ofString "at") ∧ (Str.ofString "line") ≠ (Str.ofString "mark") ∧ (Str.ofString "at") ≠ (Str.ofString "state") ∧ (Str.ofString "at") ≠ (Str.ofString "side") ∧ (Str.ofString "at") ≠ (Str.ofString "lines") ∧ (Str.ofString "at") ≠ (Str.ofString "_") ∧ (Str.ofString "at") ≠ (Str.ofString "way") ∧ (Str.ofString "at") ≠ (Str.ofString "figure") ∧ (Str.ofString "at") ≠ (Str.ofString "line") ∧ (Str.ofString "at") ≠ (Str.ofString "mark") ∧ (Str.ofString "mark") ≠ (Str.ofString "state") ∧ (Str.ofString "mark") ≠ (Str.ofString "side") ∧ (Str.ofString "mark") ≠ (Str.ofString "lines") ∧ (Str.ofString "mark") ≠ (Str.ofString "_") ∧ (Str.ofString "mark") ≠ (Str.ofString "way") ∧ (Str.ofString "mark") ≠ (Str.ofString "figure") ∧ (Str.ofString "mark") ≠ (Str.ofString "line") ∧ (Str.ofString "mark") ≠ (Str.ofString "at") := by (repeat' apply And.intro) <;> decide +kernel
theorem own_8 (L a : Addr) (cd : Value) : Own (fEnv 8 L a cd) (Str.ofString "state") ∧ Own (fEnv 8 L a cd) (Str.ofString "side") ∧ Own (fEnv 8 L a cd) (Str.ofString "lines") ∧ Own (fEnv 8 L a cd) (Str.ofString "_") ∧ Own (fEnv 8 L a cd) (Str.ofString "way") ∧ Own (fEnv 8 L a cd) (Str.ofString "figure") ∧ Own (fEnv 8 L a cd) (Str.ofString "line") ∧ Own (fEnv 8 L a cd) (Str.ofString "at") ∧ Own (fEnv 8 L a cd) (Str.ofString "mark") := by
  refine ⟨?_, ?_, ?_, ?_, ?_, ?_, ?_, ?_, ?_⟩ <;> first | exact ⟨rfl, .inl rfl⟩ | exact ⟨rfl, .inr ⟨rfl, rfl⟩⟩
theorem dbg_8 : ((Str.ofString "state") == ("__debug__" : Str)) = false ∧ ((Str.ofString "side") == ("__debug__" : Str)) = false ∧ ((Str.ofString "lines") == ("__debug__" : Str)) = false ∧ ((Str.ofString "_") == ("__debug__" : Str)) = false ∧ ((Str.ofString "way") == ("__debug__" : Str)) = false ∧ ((Str.ofString "figure") == ("__debug__" : Str)) = false ∧ ((Str.ofString "line") == ("__debug__" : Str)) = false ∧ ((Str.ofString "at") == ("__debug__" : Str)) = false ∧ ((Str.ofString "mark") == ("__debug__" : Str)) = false := by (repeat' apply And.intro) <;> decide +kernel
theorem ne_9 : (Str.ofString "line") ≠ (Str.ofString "told") ∧ (Str.ofString "line") ≠ (Str.ofString "size") ∧ (Str.ofString "line") ≠ (Str.ofString "k") ∧ (Str.ofString "told") ≠ (Str.ofString "line") ∧ (Str.ofString "told") ≠ (Str.ofString "size") ∧ (Str.ofString "told") ≠ (Str.ofString "k") ∧ (Str.ofString "size") ≠ (Str.ofString "line") ∧ (Str.ofString "size") ≠ (Str.ofString "told") ∧ (Str.ofString "size") ≠ (Str.ofString "k") ∧ (Str.ofString "k") ≠ (Str.ofString "line") ∧ (Str.ofString "k") ≠ (Str.ofString "told") ∧ (Str.ofString "k") ≠ (Str.ofString "size") := by (repeat' apply And.intro) <;> decide +kernel
theorem own_9 (L a : Addr) (cd : Value) : Own (fEnv 9 L a cd) (Str.ofString "line") ∧ Own (fEnv 9 L a cd) (Str.ofString "told") ∧ Own (fEnv 9 L a cd) (Str.ofString "size") ∧ Own (fEnv 9 L a cd) (Str.ofString "k") := by
  refine ⟨?_, ?_, ?_, ?_⟩ <;> first | exact ⟨rfl, .inl rfl⟩ | exact ⟨rfl, .inr ⟨rfl, rfl⟩⟩
theorem dbg_9 : ((Str.ofString "line") == ("__debug__" : Str)) = false ∧ ((Str.ofString "told") == ("__debug__" : Str)) = false ∧ ((Str.ofString "size") == ("__debug__" : Str)) = false ∧ ((Str.ofString "k") == ("__debug__" : Str)) = false := by (repeat' apply And.intro) <;> decide +kernel
theorem ne_10 : (Str.ofString "line") ≠ (Str.ofString "text") ∧ (Str.ofString "text") ≠ (Str.ofString "line") := by (repeat' apply And.intro) <;> decide +kernel
theorem own_10 (L a : Addr) (cd : Value) : Own (fEnv 10 L a cd) (Str.ofString "line") ∧ Own (fEnv 10 L a cd) (Str.ofString "text") := by
  refine ⟨?_, ?_⟩ <;> first | exact ⟨rfl, .inl rfl⟩ | exact ⟨rfl, .inr ⟨rfl, rfl⟩⟩
theorem dbg_10 : ((Str.ofString "line") == ("__debug__" : Str)) = false ∧ ((Str.ofString "text") == ("__debug__" : Str)) = false := by (repeat' apply And.intro) <;> decide +kernel
theorem ne_11 : (Str.ofString "script") ≠ (Str.ofString "square") ∧ (Str.ofString "script") ≠ (Str.ofString "side") ∧ (Str.ofString "script") ≠ (Str.ofString "columns") ∧ (Str.ofString "script") ≠ (Str.ofString "told") ∧ (Str.ofString "script") ≠ (Str.ofString "r") ∧ (Str.ofString "script") ≠ (Str.ofString "c") ∧ (Str.ofString "script") ≠ (Str.ofString "dark") ∧ (Str.ofString "script") ≠ (Str.ofString "away") ∧ (Str.ofString "square") ≠ (Str.ofString "script") ∧ (Str.ofString "square") ≠ (Str.ofString "side") ∧ (Str.ofString "square") ≠ (Str.ofString "columns") ∧ (Str.ofString "square") ≠ (Str.ofString "told") ∧ (Str.ofString "square") ≠ (Str.ofString "r") ∧ (Str.ofString "square") ≠ (Str.ofString "c") ∧ (Str.ofString "square") ≠ (Str.ofString "dark") ∧ (Str.ofString "square") ≠ (Str.ofString "away") ∧ (Str.ofString "side") ≠ (Str.ofString "script") ∧ (Str.ofString "side") ≠ (Str.ofString "square") ∧ (Str.ofString "side") ≠ (Str.ofString "columns") ∧ (Str.ofString "side") ≠ (Str.ofString "told") ∧ (Str.ofString "side") ≠ (Str.ofString "r") ∧ (Str.ofString "side") ≠ (Str.ofString "c") ∧ (Str.ofString "side") ≠ (Str.ofString "dark") ∧ (Str.ofString "side") ≠ (Str.ofString "away") ∧ (Str.ofString "columns") ≠ (Str.ofString "script") ∧ (Str.ofString "columns") ≠ (Str.ofString "square") ∧ (Str.ofString "columns") ≠ (Str.ofString "side") ∧ (Str.ofString "columns") ≠ (Str.ofString "told") ∧ (Str.ofString "columns") ≠ (Str.ofString "r") ∧ (Str.ofString "columns") ≠ (Str.ofString "c") ∧ (Str.ofString "columns") ≠ (Str.ofString "dark") ∧ (Str.ofString "columns") ≠ (Str.ofString "away") ∧ (Str.ofString "told") ≠ (Str.ofString "script") ∧ (Str.ofString "told") ≠ (Str.ofString "square") ∧ (Str.ofString "told") ≠ (Str.ofString "side") ∧ (Str.ofString "told") ≠ (Str.ofString "columns") ∧ (Str.ofString "told") ≠ (Str.ofString "r") ∧ (Str.ofString "told") ≠ (Str.ofString "c") ∧ (Str.ofString "told") ≠ (Str.ofString "dark") ∧ (Str.ofString "told") ≠ (Str.ofString "away") ∧ (Str.ofString "r") ≠ (Str.ofString "script") ∧ (Str.ofString "r") ≠ (Str.ofString "square") ∧ (Str.ofString "r") ≠ (Str.ofString "side") ∧ (Str.ofString "r") ≠ (Str.ofString "columns") ∧ (Str.ofString "r") ≠ (Str.ofString "told") ∧ (Str.ofString "r") ≠ (Str.ofString "c") ∧ (Str.ofString "r") ≠ (Str.ofString "dark") ∧ (Str.ofString "r") ≠ (Str.ofString "away") ∧ (Str.ofString "c") ≠ (Str.ofString "script") ∧ (Str.ofString "c") ≠ (Str.ofString "square") ∧ (Str.ofString "c") ≠ (Str.ofString "side") ∧ (Str.ofString "c") ≠ (Str.ofString "columns") ∧ (Str.ofString "c") ≠ (Str.ofString "told") ∧ (Str.ofString "c") ≠ (Str.ofString "r") ∧ (Str.ofString "c") ≠ (Str.ofString "dark") ∧ (Str.ofString "c") ≠ (Str.ofString "away") ∧ (Str.ofString "dark") ≠ (Str.ofString "script") ∧ (Str.ofString "dark") ≠ (Str.ofString "square") ∧ (Str.ofString "dark") ≠ (Str.ofString "side") ∧ (Str.ofString "dark") ≠ (Str.ofString "columns") ∧ (Str.ofString "dark") ≠ (Str.ofString "told") ∧ (Str.ofString "dark") ≠ (Str.ofString "r") ∧ (Str.ofString "dark") ≠ (Str.ofString "c") ∧ (Str.ofString "dark") ≠ (Str.ofString "away") ∧ (Str.ofString "away") ≠ (Str.ofString "script") ∧ (Str.ofString "away") ≠ (Str.ofString "square") ∧ (Str.ofString "away") ≠ (Str.ofString "side") ∧ (Str.ofString "away") ≠ (Str.ofString "columns") ∧ (Str.ofString "away") ≠ (Str.ofString "told") ∧ (Str.ofString "away") ≠ (Str.ofString "r") ∧ (Str.ofString "away") ≠ (Str.ofString "c") ∧ (Str.ofString "away") ≠ (Str.ofString "dark") := by (repeat' apply And.intro) <;> decide +kernel
theorem own_11 (L a : Addr) (cd : Value) : Own (fEnv 11 L a cd) (Str.ofString "script") ∧ Own (fEnv 11 L a cd) (Str.ofString "square") ∧ Own (fEnv 11 L a cd) (Str.ofString "side") ∧ Own (fEnv 11 L a cd) (Str.ofString "columns") ∧ Own (fEnv 11 L a cd) (Str.ofString "told") ∧ Own (fEnv 11 L a cd) (Str.ofString "r") ∧ Own (fEnv 11 L a cd) (Str.ofString "c") ∧ Own (fEnv 11 L a cd) (Str.ofString "dark") ∧ Own (fEnv 11 L a cd) (Str.ofString "away") := by
  refine ⟨?_, ?_, ?_, ?_, ?_, ?_, ?_, ?_, ?_⟩ <;> first | exact ⟨rfl, .inl rfl⟩ | exact ⟨rfl, .inr ⟨rfl, rfl⟩⟩
theorem dbg_11 : ((Str.ofString "script") == ("__debug__" : Str)) = false ∧ ((Str.ofString "square") == ("__debug__" : Str)) = false ∧ ((Str.ofString "side") == ("__debug__" : Str)) = false ∧ ((Str.ofString "columns") == ("__debug__" : Str)) = false ∧ ((Str.ofString "told") == ("__debug__" : Str)) = false ∧ ((Str.ofString "r") == ("__debug__" : Str)) = false ∧ ((Str.ofString "c") == ("__debug__" : Str)) = false ∧ ((Str.ofString "dark") == ("__debug__" : Str)) = false ∧ ((Str.ofString "away") == ("__debug__" : Str)) = false := by (repeat' apply And.intro) <;> decide +kernel
end Mine
namespace Mine

local macro_rules | `(tactic| walk_at "own") => `(tactic| with_reducible assumption)
local macro_rules | `(tactic| walk_at "dbg") => `(tactic| with_reducible assumption)
local macro_rules | `(tactic| walk_at "sto") => `(tactic| first | (simp only [Sto.set_eq, ne_3, ↓reduceIte, *]; done) | (simp only [Sto.set_eq, ne_3, ↓reduceIte, *]; rfl))
local macro_rules | `(tactic| walk_at "nm") => `(tactic| (refine' EV.name ?o ?d ?s ?_; (case o => walk_at "own"); (case d => walk_at "dbg"); (case s => walk_at "sto")))
local macro_rules | `(tactic| walk_at "bi") => `(tactic| exact nmBi rfl rfl rfl rfl (by decide +kernel) (by with_reducible assumption) (by decide +kernel) (by decide +kernel))

theorem level2 {g : G} {A : Around} {L a : Addr} {cd : Value} {mu : Mu} {M : List (List Bool)} {n : Nat} {Q : PV → Mu → Prop} (T : Tops g) (R : Room A 1) (hM : Sq M n) (h1 : 1 ≤ n) (hn : n ≤ 100) (hQ : Q (.int (lvl2 M n)) mu) :
    EX g A (fEnv 3 L a cd) (bindS [(Str.ofString "modules"), (Str.ofString "modules_count")] [matPV M, .int n] fun _ => none) mu (fnBody 3) (Ret Q) := by
  obtain ⟨o1, o2, o3, o4, o5, o6, o7, o8, o9, o10⟩ := own_3 L a cd
  obtain ⟨d1, d2, d3, d4, d5, d6, d7, d8, d9, d10⟩ := dbg_3
  have b1 := T.range
  have b2 := T.iter
  have b3 := T.next
  have s1 : (bindS [(Str.ofString "modules"), (Str.ofString "modules_count")] [matPV M, .int n] fun _ => none) (Str.ofString "modules") = some (matPV M) := by simp only [bindS, Sto.set_eq, ne_3, ↓reduceIte]
  have s2 : (bindS [(Str.ofString "modules"), (Str.ofString "modules_count")] [matPV M, .int n] fun _ => none) (Str.ofString "modules_count") = some (.int n) := by simp only [bindS, Sto.set_eq, ne_3, ↓reduceIte]
  generalize (bindS [(Str.ofString "modules"), (Str.ofString "modules_count")] [matPV M, .int n] fun _ => none) = σ at s1 s2
  refine EX.frame ?_
  refine EX.cons (ES.assign o3 (EV.c_int ?_))
  refine EX.cons (ES.assign o4 (EV.call_ty (T := "range") (by walk_at "bi") rfl (h := ?_)))
  refine EVL.cons (EV.binop ?_)
  walk_at "nm"
  refine EV.c_int (BIN.sub ?_)
  refine EVL.nil (CALL.range1 ?_)
  refine EX.cons ?_
  refine ES.for_range (fun i σ m => MuLe mu m ∧ σ (Str.ofString "modules") = some (matPV M) ∧ σ (Str.ofString "modules_range") = some (.range 0 (n - 1)) ∧ σ (Str.ofString "lost_point") = some (.int (sumTo (fun r => sumTo (blk M r) (n - 1)) i)))
    R.h rfl rfl (fun _ => rfl) ?_
  walk_at "nm"
  refine ⟨0, n - 1, rfl, by omega, by omega, ⟨MuLe.refl _, by walk_at "sto", by walk_at "sto", by walk_at "sto"⟩, ?_, ?_⟩
  · rintro i σ' m' hi ⟨hm, q1, q2, q3⟩
    have hi' : i + 1 < n := by unfold rlen at hi; split at hi <;> omega
    refine EX.cons (ES.assign o6 (EV.sub ?_))
    walk_at "nm"; walk_at "nm"
    refine SUBS.at i (fun _ _ => rfl) (by omega) (by omega) (mat_get hM (by omega)) ?_
    refine EX.cons (ES.assign o7 (EV.sub ?_))
    walk_at "nm"
    refine EV.binop ?_
    walk_at "nm"
    refine EV.c_int (BIN.add ?_)
    refine SUBS.at (i + 1) (fun _ _ => rfl) (by omega) (by omega) (mat_get hM (by omega)) ?_
    refine EX.cons (ES.assign o8 (EV.call_bi (id := "iter") (by walk_at "bi") rfl (h := ?_)))
    refine EVL.cons ?_
    walk_at "nm"
    refine EVL.nil (CALL.iter (by omega) (by omega) fun I hI => ?_)
    have hI0 := hm.none hI
    refine EX.cons (ES.for_it (fun y l σ m => ∃ k : Nat, y = k ∧ 0 ≤ l ∧ (k : Int) + l = n - 1 ∧ MuLe mu m ∧ σ (Str.ofString "modules") = some (matPV M) ∧ σ (Str.ofString "modules_range") = some (.range 0 (n - 1)) ∧
      σ (Str.ofString "this_row") = some (rowPV (M.getD i [])) ∧ σ (Str.ofString "next_row") = some (rowPV (M.getD (i + 1) [])) ∧ σ (Str.ofString "modules_range_iter") = some (.ref I) ∧
      σ (Str.ofString "lost_point") = some (.int (sumTo (fun r => sumTo (blk M r) (n - 1)) i + sumTo (blk M i) k))) R.h rfl rfl (fun _ => rfl) ?_)
    walk_at "nm"
    have hr : rlen 0 ((n : Int) - 1) = n - 1 := by unfold rlen; split <;> omega
    refine ⟨I, _, _, rfl, Mu.set_self, ⟨0, rfl, by omega, by omega, hm.upd hI0, by walk_at "sto", by walk_at "sto", by walk_at "sto", by walk_at "sto", by walk_at "sto", ?_⟩, ?_, ?_⟩
    · simp only [Sto.set_eq, ne_3, ↓reduceIte, q3, sumTo, Int.add_zero]
    · rintro y l σ2 m2 hl hmI ⟨k, rfl, hl0, hkl, hm2, p1, p2, p3, p4, p5, p6⟩
      have hk : k + 1 < n := by omega
      refine EX.cons (ES.assign o10 (EV.sub ?_))
      walk_at "nm"
      refine EV.binop ?_
      walk_at "nm"
      refine EV.c_int (BIN.add ?_)
      refine SUBS.at (k + 1) (fun _ _ => rfl) (by omega) (by omega) (row_get hM (by omega) (by omega)) ?_
      refine EX.cons (ES.if (TR.cmp rfl ?_))
      walk_at "nm"
      refine EV.sub ?_
      walk_at "nm"
      refine EV.binop ?_
      walk_at "nm"
      refine EV.c_int (BIN.add ?_)
      refine SUBS.at (k + 1) (fun _ _ => rfl) (by omega) (by omega) (row_get hM (by omega) (by omega)) ?_
      refine CMP.ne_bool ⟨_, rfl, ?_⟩
      cases e1 : (cell M i (k + 1) != cell M (i + 1) (k + 1)) with
      | true =>
        refine iteT (EX.cons (ES.expr (EV.call_bi (id := "next") (by walk_at "bi") rfl (h := ?_)) rfl))
        refine EVL.cons ?_
        walk_at "nm"
        refine EVL.cons (EV.c_none (EVL.nil (CALL.next2 R.h Mu.set_self (fun hl1 => ⟨rfl, ?_⟩) (fun hl1 => ⟨rfl, ?_⟩))))
        · refine EX.nil (EX.nil ?_)
          refine ⟨_, _, Mu.set_self, by omega, k + 2, by omega, by omega, by omega, ?_, by walk_at "sto", by walk_at "sto", by walk_at "sto", by walk_at "sto", by walk_at "sto", ?_⟩
          · exact (hm2.upd hI0).upd hI0
          · have ne : cell M i (k + 1) ≠ cell M (i + 1) (k + 1) := by simpa using e1
            have z1 : blk M i k = 0 := blk_off fun h => ne h.1
            have z2 : blk M i (k + 1) = 0 := blk_off fun h => ne (h.2.1.symm.trans h.2.2)
            simp only [Sto.set_eq, ne_3, ↓reduceIte, p6, sumTo, z1, z2, Int.add_zero]
        · refine EX.nil (EX.nil ?_)
          refine ⟨_, _, Mu.set_self, by omega, k + 1, by omega, by omega, by omega, hm2.upd hI0, by walk_at "sto", by walk_at "sto", by walk_at "sto", by walk_at "sto", by walk_at "sto", ?_⟩
          have ne : cell M i (k + 1) ≠ cell M (i + 1) (k + 1) := by simpa using e1
          have z1 : blk M i k = 0 := blk_off fun h => ne h.1
          simp only [Sto.set_eq, ne_3, ↓reduceIte, p6, sumTo, z1, Int.add_zero]
      | false =>
        refine iteF (EX.cons (ES.if (TR.cmp rfl ?_)))
        walk_at "nm"
        refine EV.sub ?_
        walk_at "nm"; walk_at "nm"
        refine SUBS.at k (fun _ _ => rfl) (by omega) (by omega) (row_get hM (by omega) (by omega)) ?_
        refine CMP.ne_bool ⟨_, rfl, ?_⟩
        cases e2 : (cell M i (k + 1) != cell M i k) with
        | true =>
          have z1 : blk M i k = 0 := blk_off fun h => (by simpa using e2 : cell M i (k + 1) ≠ cell M i k) h.2.1
          refine iteT (EX.cons (ES.continue ?_))
          refine ⟨_, _, Mu.set_self, by omega, k + 1, by omega, by omega, by omega, hm2.upd hI0, by walk_at "sto", by walk_at "sto", by walk_at "sto", by walk_at "sto", by walk_at "sto", ?_⟩
          simp only [Sto.set_eq, ne_3, ↓reduceIte, p6, sumTo, z1, Int.add_zero]
        | false =>
          refine iteF (EX.cons (ES.if (TR.cmp rfl ?_)))
          walk_at "nm"
          refine EV.sub ?_
          walk_at "nm"; walk_at "nm"
          refine SUBS.at k (fun _ _ => rfl) (by omega) (by omega) (row_get hM (by omega) (by omega)) ?_
          refine CMP.ne_bool ⟨_, rfl, ?_⟩
          cases e3 : (cell M i (k + 1) != cell M (i + 1) k) with
          | true =>
            have z1 : blk M i k = 0 := blk_off fun h => (by simpa using e3 : cell M i (k + 1) ≠ cell M (i + 1) k) h.2.2
            refine iteT (EX.cons (ES.continue ?_))
            refine ⟨_, _, Mu.set_self, by omega, k + 1, by omega, by omega, by omega, hm2.upd hI0, by walk_at "sto", by walk_at "sto", by walk_at "sto", by walk_at "sto", by walk_at "sto", ?_⟩
            simp only [Sto.set_eq, ne_3, ↓reduceIte, p6, sumTo, z1, Int.add_zero]
          | false =>
            have z1 : blk M i k = 3 := blk_on ⟨by simpa using e1, by simpa using e2, by simpa using e3⟩
            refine iteF (EX.cons (ES.aug (p := .int (sumTo (fun r => sumTo (blk M r) (n - 1)) i + sumTo (blk M i) k)) o3 (by walk_at "sto") (EV.c_int (INP.add ?_))))
            refine EX.nil (EX.nil (EX.nil (EX.nil ?_)))
            refine ⟨_, _, Mu.set_self, by omega, k + 1, by omega, by omega, by omega, hm2.upd hI0, by walk_at "sto", by walk_at "sto", by walk_at "sto", by walk_at "sto", by walk_at "sto", ?_⟩
            simp only [Sto.set_eq, ne_3, ↓reduceIte, sumTo, z1, Int.add_assoc]
    · rintro y l σ2 m2 hl hmI ⟨k, rfl, hl0, hkl, hm2, p1, p2, p3, p4, p5, p6⟩
      refine EX.nil ⟨hm2, p1, p2, ?_⟩
      have : k = n - 1 := by omega
      subst this
      exact p6
  · rintro σ' m' ⟨hm, q1, q2, q3⟩
    refine EX.cons (ES.ret ?_)
    walk_at "nm"
    refine ⟨hm, ?_⟩
    have hr : (rlen 0 ((n : Int) - 1)).toNat = n - 1 := by unfold rlen; split <;> omega
    rw [hr]
    exact hQ
end Mine
namespace Mine
section
variable {g : G} {A : Around} {env : Env} {σ : Sto} {mu : Mu}
/-- line[k + c], a test -/
theorem PT.rowAt {M : List (List Bool)} {n i k : Nat} {x y : Str} {p1 p2 p3 p4 p5 : Pos} {c : Int} {kk : Nat} (hM : Sq M n) (hn : n ≤ 100) (hi : i < n) (ox : Own env x) (oy : Own env y) (dx : (x == ("__debug__" : Str)) = false) (dy : (y == ("__debug__" : Str)) = false)
    (hx : σ x = some (rowPV (M.getD i []))) (hy : σ y = some (.int k)) (h0 : 0 ≤ c) (hk : k + c.toNat < n) :
    PT g A env σ mu (.Subscript (.Name x p1) (.BinOp (.Name y p2) .Add (.Constant (.int c) kk p3) p4) p5) (cell M i (k + c.toNat)) :=
  TR.of (fun _ => rfl) (EV.sub (EV.name ox dx hx (EV.binop (EV.name oy dy hy (EV.c_int (BIN.add (SUBS.at (k + c.toNat) (fun _ _ => rfl) (by omega) (by omega) (row_get hM hi hk) ⟨_, rfl, rfl, rfl⟩)))))))
/-- lines[k + c][i], a test -/
theorem PT.colAt {M : List (List Bool)} {n i k : Nat} {x y z : Str} {p1 p2 p3 p4 p5 p6 p7 : Pos} {c : Int} {kk : Nat} (hM : Sq M n) (hn : n ≤ 100) (hi : i < n) (ox : Own env x) (oy : Own env y) (oz : Own env z) (dx : (x == ("__debug__" : Str)) = false) (dy : (y == ("__debug__" : Str)) = false) (dz : (z == ("__debug__" : Str)) = false)
    (hx : σ x = some (matPV M)) (hy : σ y = some (.int k)) (hz : σ z = some (.int i)) (h0 : 0 ≤ c) (hk : k + c.toNat < n) :
    PT g A env σ mu (.Subscript (.Subscript (.Name x p1) (.BinOp (.Name y p2) .Add (.Constant (.int c) kk p3) p4) p5) (.Name z p6) p7) (cell M (k + c.toNat) i) :=
  by
  refine TR.of (fun _ => rfl) (EV.sub (EV.sub (EV.name ox dx hx (EV.binop (EV.name oy dy hy (EV.c_int (BIN.add ?_)))))))
  refine SUBS.at (k + c.toNat) (fun _ _ => rfl) (by omega) (by omega) (mat_get hM hk) ?_
  exact EV.name oz dz hz (SUBS.at i (fun _ _ => rfl) rfl (by omega) (row_get hM hk hi) ⟨_, rfl, rfl, rfl⟩)
theorem Sto.same {σ : Sto} {x : Str} {p : PV} (h : σ x = some p) : σ.set x p = σ := by
  funext y; unfold Sto.set; by_cases e : y = x
  · rw [if_pos e, e, h]
  · rw [if_neg e]
/-- if ..: x += c -/
theorem ES.if_add {x : Str} {px p1 p2 pos : Pos} {c : Int} {kk : Nat} {test : Expr} {v : Int} {b : Bool} {Q : Fl → Sto → Mu → Prop} (ox : Own env x) (hx : σ x = some (.int v)) (ht : PT g A env σ mu test b)
    (h : Q .next (σ.set x (.int (v + if b then c else 0))) mu) : ES g A env σ mu (.If test [.AugAssign (.Name x px) .Add (.Constant (.int c) kk p1) p2] [] pos) Q := by
  refine ES.if (PT.use ht ?_)
  cases b with
  | true => exact iteT (EX.cons (ES.aug ox hx (EV.c_int (INP.add (EX.nil h)))))
  | false =>
    refine iteF (EX.nil ?_)
    have e : σ.set x (.int (v + if false = true then c else 0)) = σ   := Sto.same (by rw [hx]; simp)
    rwa [e] at h
/-- if ..: next(it, None) -/
theorem ES.if_skip {p1 p2 p3 p4 p5 pos : Pos} {kk : Nat} {test : Expr} {b : Bool} {x : Str} {I : Addr} {y l : Int} {Q : Fl → Sto → Mu → Prop} (hA : A.handled = none) (hN : NAME g env (.Name (Str.ofString "next") p1) (.builtin "next")) (hi : interactive env = false) (ox : Own env x) (dx : (x == ("__debug__" : Str)) = false) (hx : σ x = some (.ref I)) (hm : mu I = some (.rit y l)) (ht : PT g A env σ mu test b)
    (h0 : b = false → Q .next σ mu) (h1 : b = true → 0 < l → Q .next σ (mu.set I (.rit (y + 1) (l - 1)))) (h2 : b = true → l ≤ 0 → Q .next σ mu) :
    ES g A env σ mu (.If test [.Expr (.Call (.Name (Str.ofString "next") p1) [.Name x p2, .Constant .none kk p3] [] p4) p5] [] pos) Q := by
  refine ES.if (PT.use ht ?_)
  cases b with
  | true =>
    refine iteT (EX.cons (ES.expr (EV.call_bi (id := "next") hN rfl (h := ?_)) hi))
    exact EVL.cons (EV.name ox dx hx (EVL.cons (EV.c_none (EVL.nil (CALL.next2 hA hm (fun hl => ⟨rfl, EX.nil (h1 rfl hl)⟩) (fun hl => ⟨rfl, EX.nil (h2 rfl hl)⟩))))))
  | false => exact iteF (EX.nil (h0 rfl))
theorem sumTo_step {f : Nat → Int} {k : Nat} {a : Int} (b : Bool) (h : f k = if b then 40 else 0) : a + sumTo f k + (if b then 40 else 0) = a + sumTo f (k + 1) := by rw [sumTo_succ, h, Int.add_assoc]
end

local macro_rules | `(tactic| walk_at "own") => `(tactic| with_reducible assumption)
local macro_rules | `(tactic| walk_at "dbg") => `(tactic| with_reducible assumption)
local macro_rules | `(tactic| walk_at "sto") => `(tactic| first | (simp only [Sto.set_eq, ne_4, ↓reduceIte, *]; done) | (simp only [Sto.set_eq, ne_4, ↓reduceIte, *]; rfl))
local macro_rules | `(tactic| walk_at "nm") => `(tactic| (refine' EV.name ?o ?d ?s ?_; (case o => walk_at "own"); (case d => walk_at "dbg"); (case s => walk_at "sto")))
local macro_rules | `(tactic| walk_at "bi") => `(tactic| exact nmBi rfl rfl rfl rfl (by decide +kernel) (by with_reducible assumption) (by decide +kernel) (by decide +kernel))
theorem level3 {g : G} {A : Around} {L a : Addr} {cd : Value} {mu : Mu} {M : List (List Bool)} {n : Nat} {Q : PV → Mu → Prop} (T : Tops g) (R : Room A 1) (hM : Sq M n) (h1 : 1 ≤ n) (hn : n ≤ 100) (hQ : Q (.int (lvl3 M n)) mu) :
    EX g A (fEnv 4 L a cd) (bindS [(Str.ofString "modules"), (Str.ofString "modules_count")] [matPV M, .int n] fun _ => none) mu (fnBody 4) (Ret Q) := by
  obtain ⟨o1, o2, o3, o4, o5, o6, o7, o8, o9⟩ := own_4 L a cd
  obtain ⟨d1, d2, d3, d4, d5, d6, d7, d8, d9⟩ := dbg_4
  have b1 := T.range
  have b2 := T.iter
  have b3 := T.next
  have s1 : (bindS [(Str.ofString "modules"), (Str.ofString "modules_count")] [matPV M, .int n] fun _ => none) (Str.ofString "modules") = some (matPV M) := by simp only [bindS, Sto.set_eq, ne_4, ↓reduceIte]
  have s2 : (bindS [(Str.ofString "modules"), (Str.ofString "modules_count")] [matPV M, .int n] fun _ => none) (Str.ofString "modules_count") = some (.int n) := by simp only [bindS, Sto.set_eq, ↓reduceIte]
  generalize (bindS [(Str.ofString "modules"), (Str.ofString "modules_count")] [matPV M, .int n] fun _ => none) = σ at s1 s2
  refine EX.frame ?_
  refine EX.cons (ES.assign o3 (EV.call_ty (T := "range") (by walk_at "bi") rfl (h := ?_)))
  refine EVL.cons ?_
  walk_at "nm"
  refine EVL.nil (CALL.range1 ?_)
  refine EX.cons (ES.assign o4 (EV.call_ty (T := "range") (by walk_at "bi") rfl (h := ?_)))
  refine EVL.cons (EV.binop ?_)
  walk_at "nm"
  refine EV.c_int (BIN.sub (EVL.nil (CALL.range1 ?_)))
  refine EX.cons (ES.assign o5 (EV.c_int ?_))
  have hrs : rlen 0 ((n : Int) - 10) = ((n - 10 : Nat) : Int) := by unfold rlen; split <;> omega
  have hr : (rlen 0 (n : Int)) = n := by unfold rlen; split <;> omega
  refine EX.cons (ES.for_range (fun i σ m => MuLe mu m ∧ σ (Str.ofString "modules") = some (matPV M) ∧ σ (Str.ofString "modules_range") = some (.range 0 n) ∧ σ (Str.ofString "modules_range_short") = some (.range 0 (n - 10)) ∧
      σ (Str.ofString "lost_point") = some (.int (sumTo (fun r => sumTo (pts fun c => cell M r c) (n - 10)) i))) R.h rfl rfl (fun _ => rfl) ?_)
  walk_at "nm"
  refine ⟨0, n, rfl, by omega, by omega, ⟨MuLe.refl _, by walk_at "sto", by walk_at "sto", by walk_at "sto", by walk_at "sto"⟩, ?_, ?_⟩
  · rintro i σ' m' hi ⟨hm, q1, q2, q3, q4⟩
    have hi' : i < n := by rw [hr] at hi; omega
    refine EX.cons (ES.assign o7 (EV.sub ?_))
    walk_at "nm"; walk_at "nm"
    refine SUBS.at i (fun _ _ => rfl) (by omega) (by omega) (mat_get hM (by omega)) ?_
    refine EX.cons (ES.assign o8 (EV.call_bi (id := "iter") (by walk_at "bi") rfl (h := ?_)))
    refine EVL.cons ?_
    walk_at "nm"
    refine EVL.nil (CALL.iter (by omega) (by omega) fun I hI => ?_)
    rw [hrs]
    have hI0 := hm.none hI
    refine EX.cons (ES.assign o9 (EV.c_int ?_))
    refine EX.cons (ES.for_it (fun y l σ m => ∃ k : Nat, y = k ∧ 0 ≤ l ∧ (k : Int) + l = (n - 10 : Nat) ∧ MuLe mu m ∧ σ (Str.ofString "modules") = some (matPV M) ∧ σ (Str.ofString "modules_range") = some (.range 0 n) ∧ σ (Str.ofString "modules_range_short") = some (.range 0 (n - 10)) ∧
      σ (Str.ofString "this_row") = some (rowPV (M.getD i [])) ∧ σ (Str.ofString "modules_range_short_iter") = some (.ref I) ∧
      σ (Str.ofString "lost_point") = some (.int (sumTo (fun r => sumTo (pts fun c => cell M r c) (n - 10)) i + sumTo (pts fun c => cell M i c) k))) R.h rfl rfl (fun _ => rfl) ?_)
    walk_at "nm"
    refine ⟨I, _, _, rfl, Mu.set_self, ⟨0, rfl, by omega, by omega, hm.upd hI0, by walk_at "sto", by walk_at "sto", by walk_at "sto", by walk_at "sto", by walk_at "sto", ?_⟩, ?_, ?_⟩
    · simp only [Sto.set_eq, ne_4, ↓reduceIte, q4, sumTo, Int.add_zero]
    · rintro y l σ2 m2 hl hmI ⟨k, rfl, hl0, hkl, hm2, p1, p2, p3, p4, p5, p6⟩
      have hk : k + 10 < n := by omega
      refine EX.cons (ES.if_add (b := pat (fun c => cell M i c) k) (v := sumTo (fun r => sumTo (pts fun c => cell M r c) (n - 10)) i + sumTo (pts fun c => cell M i c) k) o5 (by walk_at "sto") (PT.boolop (PALT.and (PT.not ?_) (PALT.and ?_ (PALT.and (PT.not ?_) (PALT.and ?_ (PALT.and (PT.not ?_) (PALT.and (PT.boolop (PALT.or (PT.boolop (PALT.and ?_ (PALT.and ?_ (PALT.and ?_ (PALT.and (PT.not ?_) (PALT.and (PT.not ?_) (PALT.and (PT.not ?_) PALT.nil_and))))))) (PALT.or (PT.boolop (PALT.and (PT.not ?_) (PALT.and (PT.not ?_) (PALT.and (PT.not ?_) (PALT.and ?_ (PALT.and ?_ (PALT.and ?_ PALT.nil_and))))))) PALT.nil_or))) PALT.nil_and))))))) ?_)
      iterate 17 exact PT.rowAt (i := i) hM hn hi' o7 o9 d7 d9 (by walk_at "sto") (by walk_at "sto") (by decide) (by with_unfolding_all (dsimp only [Int.toNat]; omega))
      rw [sumTo_step (f := pts fun c => cell M i c) (pat (fun c => cell M i c) k) rfl]
      refine EX.cons (ES.if_skip (b := cell M i (k + 10)) R.h (by walk_at "bi") rfl o8 d8 (by walk_at "sto") Mu.set_self (PT.rowAt (i := i) (k := k) hM hn hi' o7 o9 d7 d9 (by walk_at "sto") (by walk_at "sto") (by decide) (by with_unfolding_all (dsimp only [Int.toNat]; omega))) ?_ ?_ ?_)
      · intro _
        refine EX.nil ?_
        exact ⟨_, _, Mu.set_self, by omega, k + 1, by omega, by omega, by omega, hm2.upd hI0, by walk_at "sto", by walk_at "sto", by walk_at "sto", by walk_at "sto", by walk_at "sto", by walk_at "sto"⟩
      · intro hb hl1
        have z := pts_skip (f := fun c => cell M i c) hb
        refine EX.nil ?_
        refine ⟨_, _, Mu.set_self, by omega, k + 2, by omega, by omega, by omega, (hm2.upd hI0).upd hI0, by walk_at "sto", by walk_at "sto", by walk_at "sto", by walk_at "sto", by walk_at "sto", ?_⟩
        rw [sumTo_succ _ (k + 1), z, Int.add_zero]
        clear hb z
        walk_at "sto"
      · intro hb hl1
        clear hb
        refine EX.nil ?_
        exact ⟨_, _, Mu.set_self, by omega, k + 1, by omega, by omega, by omega, hm2.upd hI0, by walk_at "sto", by walk_at "sto", by walk_at "sto", by walk_at "sto", by walk_at "sto", by walk_at "sto"⟩
    · rintro y l σ2 m2 hl hmI ⟨k, rfl, hl0, hkl, hm2, p1, p2, p3, p4, p5, p6⟩
      refine EX.nil ⟨hm2, p1, p2, p3, ?_⟩
      have : k = n - 10 := by omega
      subst this
      exact p6
  · rintro σ' m' ⟨hm, q1, q2, q3, q4⟩
    rw [hr, Int.toNat_natCast] at q4
    clear s1 s2
    refine EX.cons (ES.for_range (fun i σ m => MuLe mu m ∧ σ (Str.ofString "modules") = some (matPV M) ∧ σ (Str.ofString "modules_range_short") = some (.range 0 (n - 10)) ∧
      σ (Str.ofString "lost_point") = some (.int (sumTo (fun r => sumTo (pts fun c => cell M r c) (n - 10)) n + sumTo (fun c => sumTo (pts fun r => cell M r c) (n - 10)) i))) R.h rfl rfl (fun _ => rfl) ?_)
    walk_at "nm"
    refine ⟨0, n, rfl, by omega, by omega, ⟨hm, by walk_at "sto", by walk_at "sto", ?_⟩, ?_, ?_⟩
    · simp only [Sto.set_eq, ne_4, ↓reduceIte, q4, sumTo, Int.add_zero]
    · clear q1 q2 q3 q4 hm
      rintro i σ' m' hi ⟨hm, q1, q3, q4⟩
      have hi' : i < n := by rw [hr] at hi; omega
      refine EX.cons (ES.assign o8 (EV.call_bi (id := "iter") (by walk_at "bi") rfl (h := ?_)))
      refine EVL.cons ?_
      walk_at "nm"
      refine EVL.nil (CALL.iter (by omega) (by omega) fun I hI => ?_)
      rw [hrs]
      have hI0 := hm.none hI
      refine EX.cons (ES.assign o6 (EV.c_int ?_))
      refine EX.cons (ES.for_it (fun y l σ m => ∃ k : Nat, y = k ∧ 0 ≤ l ∧ (k : Int) + l = (n - 10 : Nat) ∧ MuLe mu m ∧ σ (Str.ofString "modules") = some (matPV M) ∧ σ (Str.ofString "modules_range_short") = some (.range 0 (n - 10)) ∧
        σ (Str.ofString "col") = some (.int i) ∧ σ (Str.ofString "modules_range_short_iter") = some (.ref I) ∧
        σ (Str.ofString "lost_point") = some (.int (sumTo (fun r => sumTo (pts fun c => cell M r c) (n - 10)) n + sumTo (fun c => sumTo (pts fun r => cell M r c) (n - 10)) i + sumTo (pts fun r => cell M r i) k))) R.h rfl rfl (fun _ => rfl) ?_)
      walk_at "nm"
      refine ⟨I, _, _, rfl, Mu.set_self, ⟨0, rfl, by omega, by omega, hm.upd hI0, by walk_at "sto", by walk_at "sto", ?_, by walk_at "sto", ?_⟩, ?_, ?_⟩
      · simp only [Sto.set_eq, ne_4, ↓reduceIte, Int.zero_add]
      · simp only [Sto.set_eq, ne_4, ↓reduceIte, q4, sumTo, Int.add_zero]
      · rintro y l σ2 m2 hl hmI ⟨k, rfl, hl0, hkl, hm2, p1, p3, p4, p5, p6⟩
        have hk : k + 10 < n := by omega
        refine EX.cons (ES.if_add (b := pat (fun r => cell M r i) k) (v := sumTo (fun r => sumTo (pts fun c => cell M r c) (n - 10)) n + sumTo (fun c => sumTo (pts fun r => cell M r c) (n - 10)) i + sumTo (pts fun r => cell M r i) k) o5 (by walk_at "sto") (PT.boolop (PALT.and (PT.not ?_) (PALT.and ?_ (PALT.and (PT.not ?_) (PALT.and ?_ (PALT.and (PT.not ?_) (PALT.and (PT.boolop (PALT.or (PT.boolop (PALT.and ?_ (PALT.and ?_ (PALT.and ?_ (PALT.and (PT.not ?_) (PALT.and (PT.not ?_) (PALT.and (PT.not ?_) PALT.nil_and))))))) (PALT.or (PT.boolop (PALT.and (PT.not ?_) (PALT.and (PT.not ?_) (PALT.and (PT.not ?_) (PALT.and ?_ (PALT.and ?_ (PALT.and ?_ PALT.nil_and))))))) PALT.nil_or))) PALT.nil_and))))))) ?_)
        iterate 17 exact PT.colAt (i := i) hM hn hi' o1 o6 o9 d1 d6 d9 (by walk_at "sto") (by walk_at "sto") (by walk_at "sto") (by decide) (by with_unfolding_all (dsimp only [Int.toNat]; omega))
        rw [sumTo_step (f := pts fun r => cell M r i) (pat (fun r => cell M r i) k) rfl]
        refine EX.cons (ES.if_skip (b := cell M (k + 10) i) R.h (by walk_at "bi") rfl o8 d8 (by walk_at "sto") Mu.set_self (PT.colAt (i := i) (k := k) hM hn hi' o1 o6 o9 d1 d6 d9 (by walk_at "sto") (by walk_at "sto") (by walk_at "sto") (by decide) (by with_unfolding_all (dsimp only [Int.toNat]; omega))) ?_ ?_ ?_)
        · intro _
          refine EX.nil ?_
          exact ⟨_, _, Mu.set_self, by omega, k + 1, by omega, by omega, by omega, hm2.upd hI0, by walk_at "sto", by walk_at "sto", by walk_at "sto", by walk_at "sto", by walk_at "sto"⟩
        · intro hb hl1
          have z := pts_skip (f := fun r => cell M r i) hb
          refine EX.nil ?_
          refine ⟨_, _, Mu.set_self, by omega, k + 2, by omega, by omega, by omega, (hm2.upd hI0).upd hI0, by walk_at "sto", by walk_at "sto", by walk_at "sto", by walk_at "sto", ?_⟩
          rw [sumTo_succ _ (k + 1), z, Int.add_zero]
          clear hb z
          walk_at "sto"
        · intro hb hl1
          clear hb
          refine EX.nil ?_
          exact ⟨_, _, Mu.set_self, by omega, k + 1, by omega, by omega, by omega, hm2.upd hI0, by walk_at "sto", by walk_at "sto", by walk_at "sto", by walk_at "sto", by walk_at "sto"⟩
      · rintro y l σ2 m2 hl hmI ⟨k, rfl, hl0, hkl, hm2, p1, p3, p4, p5, p6⟩
        have : k = n - 10 := by omega
        subst this
        exact EX.nil ⟨hm2, p1, p3, by rw [sumTo_succ, ← Int.add_assoc]; exact p6⟩
    · clear q1 q2 q3 q4 hm
      rintro σ' m' ⟨hm, q1, q3, q4⟩
      rw [hr, Int.toNat_natCast] at q4
      refine EX.cons (ES.ret ?_)
      walk_at "nm"
      exact ⟨hm, hQ⟩
end Mine
namespace Mine
def ivOf : PV → Int
  | .int i => i
  | .bool b => if b then 1 else 0
  | _ => 0
theorem numOf_of {H : Fz} {p : PV} {v : Value} (R : Rep H p v) (h : (∃ i, p = .int i) ∨ (∃ b, p = .bool b)) : NumOf (ivOf p) v := by
  rcases h with ⟨i, rfl⟩ | ⟨b, rfl⟩
  · obtain ⟨t, rfl⟩ := R
    exact .inl ⟨t, rfl⟩
  · have R : v = .bool b := R
    exact .inr ⟨b, R, rfl⟩
theorem St.moved {g : G} {mu : Mu} {H : Fz} {s s' : Shared} {I0 : Addr} (S : St g mu H s) (hH : H I0 = none) (hm : mu I0 = none) (M : Moved [I0] (fun a b => b = a) s s') : St g mu H s' where
  sub := fun a o e => M.heap a o (by rw [List.mem_singleton]; rintro rfl; rw [hH] at e; cases e) (S.sub a o e)
  base := S.base
  mus := fun a w e => ⟨(S.mus a w e).1, (S.mus a w e).2.mono (Fz.le_refl _) fun o eo => M.heap a o (by rw [List.mem_singleton]; rintro rfl; rw [hm] at e; cases e) eo⟩
  os := M.os.trans S.os
  gens := by rw [M.gens]; exact S.gens

/-- the sum of what a walk gives -/
theorem CALL.sum_src {g : G} {A : Around} {mu : Mu} {p : PV} {items : List PV} {Q : PV → Mu → Prop} (hI : ITER g A.in1 p items) (hk : ∀ q ∈ items, (∃ i, q = .int i) ∨ (∃ b, q = .bool b))
    (h : Q (.int (preSum (fun i => ivOf (items.getD i .none)) items.length)) mu) : CALL g A (.builtin "sum") mu [p] Q := fun H vs R s S => by
  obtain ⟨v, rfl, hv⟩ := R.one
  refine call_sum_walkAnyB (hI H mu s v _ S hv fun o T src hf hd hT0 => ?_)
  obtain ⟨fp, P, W, hfp, hP⟩ := src.W
  have S1 := S.keeps (h' := s.heap.push o) (fun _ _ e => Heap.get?_push_of_some _ e) s.toks
  refine ⟨_, fp, _, _, items.length, P, _, fun i => ivOf (items.getD i .none), rfl, W.toS, hT0, fun b hb => ?_, fun i w hw => ?_, fun s' t' M => ?_⟩
  · rcases hfp b hb with rfl | hb
    · show _ < (s.heap.push o).objs.size
      rw [Heap.size_push]; exact Nat.lt_succ_self _
    · obtain ⟨ob, e⟩ := Option.isSome_iff_exists.mp hb
      exact Heap.lt_size (S1.sub b ob e)
  · obtain ⟨q, hq, hr⟩ := hP i w hw
    have := numOf_of hr (hk q (List.mem_of_getElem? hq))
    simpa [List.getD, hq] using this
  · exact ⟨H, mu, .int _, Fz.le_refl _, S1.moved (S.none_of_size (Nat.le_refl _)) (S.mu_none_of_size (Nat.le_refl _)) M, ⟨t', rfl⟩, h⟩

theorem preSum_take (l : List Int) : ∀ k, k ≤ l.length → preSum (fun i => l.getD i 0) k = (l.take k).sum
  | 0, _ => rfl
  | k + 1, h => by rw [preSum, preSum_take l k (by omega), take_sum_succ l k h]
theorem preSum_congr {f h : Nat → Int} : ∀ {n : Nat}, (∀ i, i < n → f i = h i) → preSum f n = preSum h n
  | 0, _ => rfl
  | n + 1, e => by rw [preSum, preSum, preSum_congr fun i hi => e i (Nat.lt_succ_of_lt hi), e n (Nat.lt_succ_self n)]
theorem CALL.sum_ints {g : G} {A : Around} {mu : Mu} {l : List Int} {Q : PV → Mu → Prop} (hh : A.handled = none) (h : Q (.int l.sum) mu) : CALL g A (.builtin "sum") mu [.list (l.map .int)] Q := by
  refine CALL.sum_src (ITER.list hh) ?_ ?_
  · intro q hq
    obtain ⟨i, _, rfl⟩ := List.mem_map.mp hq
    exact .inl ⟨i, rfl⟩
  · have e : preSum (fun i => ivOf ((l.map PV.int).getD i .none)) (l.map PV.int).length = l.sum := by
      rw [List.length_map, preSum_congr (h := fun i => l.getD i 0) ?_, preSum_take l _ (Nat.le_refl _), List.take_length]
      intro i hi
      simp [List.getD_eq_getElem?_getD, hi, ivOf]
    rw [e]; exact h
def cnt (r : List Bool) : Int := (r.map fun b => if b then (1 : Int) else 0).sum
theorem cnt_take_succ (r : List Bool) (k : Nat) (h : k < r.length) : ((r.take (k + 1)).map fun b => if b then (1 : Int) else 0).sum = ((r.take k).map fun b => if b then (1 : Int) else 0).sum + (if r.getD k false then 1 else 0) := by
  rw [List.take_succ_eq_append_getElem h, List.map_append, List.sum_append]
  congr 1
  simp [List.getD_eq_getElem?_getD, h]
theorem preSum_cnt (r : List Bool) : preSum (fun i => if r.getD i false then 1 else 0) r.length = cnt r := by
  have e : ∀ k, k ≤ r.length → preSum (fun i => if r.getD i false then 1 else 0) k = ((r.take k).map fun b => if b then (1 : Int) else 0).sum := by
    intro k
    induction k with
    | zero => intro _; rfl
    | succ k ih => intro hk; rw [preSum, ih (by omega), cnt_take_succ r k (by omega)]
  rw [e _ (Nat.le_refl _), List.take_length]; rfl
end Mine
set_option maxRecDepth 100000
namespace Mine

theorem slot_map_next : Slot "map" "__next__" "map.__next__" :=
  .of (owner := "map") (n := "__next__") (by rw [typeLookup_type, builtinLookup_eq_fast]; kernel_rfl) (by decide +kernel) (by decide +kernel) (by decide +kernel)
    (by first | exact .inl (by decide +kernel) | exact .inr (by decide +kernel)) (by rw [isSubtype_type]; kernel_rfl)
theorem slot_map_iter : Slot "map" "__iter__" "map.__iter__" :=
  .of (owner := "map") (n := "__iter__") (by rw [typeLookup_type, builtinLookup_eq_fast]; kernel_rfl) (by decide +kernel) (by decide +kernel) (by decide +kernel)
    (by first | exact .inl (by decide +kernel) | exact .inr (by decide +kernel)) (by rw [isSubtype_type]; kernel_rfl)
theorem slot_map_init : Slot "map" "__init__" "object.__init__" :=
  .of (owner := "object") (n := "__init__") (by rw [typeLookup_type, builtinLookup_eq_fast]; kernel_rfl) (by decide +kernel) (by decide +kernel) (by decide +kernel)
    (by first | exact .inl (by decide +kernel) | exact .inr (by decide +kernel)) (by rw [isSubtype_type]; kernel_rfl)
theorem owner_map : Manifest.owners.lookup (String.ofList ['p', 'a', 'm'].reverse) = some Manifest.sig_map := by kernel_rfl
theorem args_map_iter_1 (a : Value) : argsOk "map.__iter__" ⟨[a], []⟩ := by
  unfold argsOk; rw [signature?_of (id := "map.__iter__") (n := ['_', '_', 'r', 'e', 't', 'i', '_', '_']) (o := ['p', 'a', 'm']) (by kernel_rfl) owner_map]; kernel_rfl
theorem args_map_next_1 (a : Value) : argsOk "map.__next__" ⟨[a], []⟩ := by
  unfold argsOk; rw [signature?_of (id := "map.__next__") (n := ['_', '_', 't', 'x', 'e', 'n', '_', '_']) (o := ['p', 'a', 'm']) (by kernel_rfl) owner_map]; kernel_rfl
theorem entry_map_next : entryFor table "map.__next__" = some Builtin.«map.__next__» := entryFor_of_tree (by kernel_rfl)
theorem entry_map_new : entryFor table "map.__new__" = some Builtin.«map.__new__» := entryFor_of_tree (by kernel_rfl)
theorem entry_map_iter : entryFor table "map.__iter__" = some Builtin.«dict_keyiterator.__iter__» :=
  entryFor_alias (id' := "dict_keyiterator.__iter__") (by kernel_rfl) (by first | rfl | decide +kernel | (unfold String.splitOn; simp +decide [String.splitOnAux])) (by decide +kernel) (by kernel_rfl)
theorem mro_map : mroOf (.type "map") = pure [.type "map", .type "object"] := by rw [mroOf_type]; kernel_rfl
theorem lookup_map_new : typeLookup (.type "map") "__new__" = pure (some (.builtin "map.__new__")) := by rw [typeLookup_type, builtinLookup_eq_fast]; kernel_rfl
theorem called_map : TypeCalled "map" "map.__new__" "object.__init__" :=
  ⟨by decide +kernel, by decide +kernel, ⟨_, _, mro_map⟩, madeBy_type mro_map lookup_map_new (by decide +kernel), by decide +kernel, by rw [isSubtype_type]; kernel_rfl, slot_map_init⟩
theorem typeCall_map_2 (a b : Value) : checkTypeCall "map" ⟨[a, b], []⟩ = pure () := by kernel_rfl
theorem newCall_map_2 (a b : Value) : checkBuiltinCall "map.__new__" ⟨[.type "map", a, b], []⟩ = pure () := by kernel_rfl
theorem sub_map : isSubtype (.type "map") (.type "map") = pure true := by rw [isSubtype_type]; kernel_rfl

def itObj (l : Addr) : Obj := { cls := .type "list_iterator", data := .fields #[.ref l, .int 0 0] }
def mapTup (i : Addr) : Obj := { cls := .type "tuple", data := .seq #[.ref i] }
def mapObj (t : Addr) (f : Value) : Obj := { cls := .type "map", dict := none, data := .fields #[.ref t, f], slots := #[] }
abbrev mapH1 (h : Heap) (l : Addr) : Heap := h.push (itObj l)
abbrev mapH2 (h : Heap) (l : Addr) : Heap := (mapH1 h l).push (mapTup h.objs.size)
abbrev mapH3 (h : Heap) (l : Addr) (f : Value) : Heap := (mapH2 h l).push (mapObj (mapH1 h l).objs.size f)

theorem meets_map_new (f : Value) (l : Addr) (xs : Array Value) :
    Meets (Builtin.«map.__new__» ⟨[.type "map", f, .ref l], []⟩) (fun _ R s => s.heap.IsList l xs ∧
      R (.ok (.ret (.ref (mapH2 s.heap l).objs.size))) { s with heap := mapH3 s.heap l f }) :=
  .of_wp fun prog w A R s h => by
    obtain ⟨hp, g, d, tk, os⟩ := s; obtain ⟨hl1, h⟩ := h
    have hsub := sub_map
    have hL1 : Heap.IsList (Shared.heap ⟨hp, g, d, tk, os⟩) l xs := hl1
    wp_walk using wpAny_pyIter_list hL1
    exact ⟨_, rfl, h⟩

theorem call_map_2 {g : G} {A : Around} {s : Shared} {f : Value} {l : Addr} {xs : Array Value} {Q : Value → Shared → Prop} {E : Value → Shared → Prop} (hl : s.heap.IsList l xs)
    (h : Q (.ref (mapH2 s.heap l).objs.size) { s with heap := mapH3 s.heap l f }) : wpAny g.M A (call (.type "map") [f, .ref l]) Q E s := by
  refine callType_new called_map (by decide) (typeCall_map_2 _ _) (newCall_map_2 _ _) (fun obj => F.args_object_init_3 obj _ _) entry_map_new (meets_map_new f l xs) ⟨hl, ?_⟩
  exact ⟨⟨_, Heap.get?_push_size _ rfl, rfl⟩, h⟩
theorem pyIter_map {g : G} {A : Around} {s : Shared} {m t : Addr} {f : Value} {Q : Value → Shared → Prop} {E : Value → Shared → Prop} (hz : s.heap.get? m = some (mapObj t f)) (h : Q (.ref m) s) : wpAny g.M A (pyIter (.ref m)) Q E s := by
  have hT : s.TypeIs (.ref m) "map" := ⟨_, hz, rfl⟩
  refine wpAny_pyIter_slot hT slot_map_iter (wpAny_call_entry slot_map_iter hT entry_map_iter ?_ (args_map_iter_1 _))
  show wpAny _ _ (ret (.ref m)) _ _ s
  exact wpAny_pure ⟨_, rfl, "map", _, hT, slot_map_next.lookup, h⟩
theorem next_map_item {g : G} {A : Around} {s : Shared} {m t i : Addr} {l : Addr} {k : Nat} {xs : Array Value} {f x : Value} {Q : Option Value → Shared → Prop} {E : Value → Shared → Prop}
    (hz : s.heap.get? m = some (mapObj t f)) (ht : s.heap.get? t = some (mapTup i)) (hi : s.heap.IsListIter i l k) (hl : s.heap.IsList l xs) (hx : xs[k]? = some x)
    (h : ∀ h', h'.IsListIter i l (k + 1) → Heap.SameBut i s.heap h' → wpAny g.M A.in1 (call f [x]) (fun v s' => Q (some v) s') (fun _ _ => False) { s with heap := h' }) : wpAny g.M A (pyNext (.ref m)) Q E s := by
  have hT : s.TypeIs (.ref m) "map" := ⟨_, hz, rfl⟩
  have him : m ≠ i := by rintro rfl; obtain ⟨o, ho, hc, _⟩ := hi; rw [hz] at ho; cases ho; simp [mapObj] at hc
  unfold pyNext
  refine wpAny_bind (wpAny_attempt (wpAny_callSpecial?_slot (name := Str.ofString "__next__") hT slot_map_next
    (wpAny_call_entry slot_map_next hT entry_map_next ?_ (args_map_next_1 _))))
  show wpAny _ _ (field (.ref m) 0 >>= _) _ _ s
  refine wpAny_bind (wpAny_field hz rfl (x := .ref t) rfl ?_)
  show wpAny _ _ (seqItems? (.ref t) >>= _) _ _ s
  refine wpAny_bind (wpAny_seqItems ht rfl ?_)
  dsimp only
  refine wpAny_bind ?_
  rw [← Array.forIn_toList]
  simp only [List.forIn_cons, List.forIn_nil]
  refine wpAny_bind (wpAny_bind (wpAny_holding (wpAny_nextOf_list_item hi hl hx fun h' hi' hs' => ?_)))
  refine wpAny_pure (wpAny_pure ?_)
  have hz' : h'.get? m = some (mapObj t f) := (hs'.2 m him).trans hz
  refine wpAny_bind (wpAny_field (s := { s with heap := h' }) hz' rfl (x := f) rfl ?_)
  refine wpAny_bind (wpAny_holding (wpAny_mono (h h' hi' hs') (fun v s' hv => ?_) fun _ _ x => x.elim))
  refine wpAny_bind (wpAny_letGo ?_)
  exact wpAny_pure ⟨_, rfl, wpAny_pure hv⟩
theorem next_map_end {g : G} {A : Around} {s : Shared} {m t i : Addr} {l : Addr} {k : Nat} {xs : Array Value} {f : Value} {Q : Option Value → Shared → Prop} {E : Value → Shared → Prop} (hh : A.handled = none)
    (hz : s.heap.get? m = some (mapObj t f)) (ht : s.heap.get? t = some (mapTup i)) (hi : s.heap.IsListIter i l k) (hl : s.heap.IsList l xs) (hx : xs[k]? = none)
    (h : ∀ h', Heap.ExtBut i s.heap h' → Q none { s with heap := h' }) : wpAny g.M A (pyNext (.ref m)) Q E s := by
  have hT : s.TypeIs (.ref m) "map" := ⟨_, hz, rfl⟩
  unfold pyNext
  refine wpAny_bind (wpAny_attempt (wpAny_callSpecial?_slot (name := Str.ofString "__next__") hT slot_map_next
    (wpAny_call_entry slot_map_next hT entry_map_next ?_ (args_map_next_1 _))))
  show wpAny _ _ (field (.ref m) 0 >>= _) _ _ s
  refine wpAny_bind (wpAny_field hz rfl (x := .ref t) rfl ?_)
  show wpAny _ _ (seqItems? (.ref t) >>= _) _ _ s
  refine wpAny_bind (wpAny_seqItems ht rfl ?_)
  dsimp only
  refine wpAny_bind ?_
  rw [← Array.forIn_toList]
  simp only [List.forIn_cons, List.forIn_nil]
  refine wpAny_bind (wpAny_bind (wpAny_holding (wpAny_nextOf_list_end hh hi hl hx fun h' x he' hx' => ?_)))
  obtain ⟨o, ho, hc⟩ := hx'
  refine wpAny_bind (wpAny_isInstance (T := "StopIteration") (b := true) ⟨o, ho, hc⟩ isSubtype_stop ?_)
  exact wpAny_pure (h _ he')

theorem isDat_map (t : Addr) (f : Value) : isDat (mapObj t f) = true := rfl

end Mine
namespace Mine
section
variable {g : G} {A : Around} {env : Env} {σ : Sto} {mu : Mu}

theorem St.muLe {H s mu'} (I : St g mu' H s) (k : MuLe mu mu') : St g mu H s := ⟨I.sub, I.base, fun a v e => I.mus a v (k a v e), I.os, I.gens⟩
theorem St.sameBut {H s a h'} (X : St g mu H s) (hc : H a = none) (hmc : mu a = none) (k : ∀ b o, b ≠ a → s.heap.get? b = some o → h'.get? b = some o) (tk : Nat) : St g mu H { s with heap := h', toks := tk } :=
  ⟨fun b o e => k b o (by rintro rfl; rw [hc] at e; cases e) (X.sub b o e), X.base, fun b w e => ⟨(X.mus b w e).1, (X.mus b w e).2.mono (Fz.le_refl _) fun o eo => k b o (by rintro rfl; rw [hmc] at e; cases e) eo⟩, X.os, X.gens⟩
theorem St.addObj {H s a o} (X : St g mu H s) (ha : s.heap.get? a = some o) (hd : isDat o = true) (hH : H a = none) : St g (mu.set a (.obj o)) H s :=
  ⟨X.sub, X.base, fun b v e => by
    by_cases hb : b = a
    · subst hb; rw [Mu.set_self] at e; cases e; exact ⟨hH, ha, hd⟩
    · rw [Mu.set_ne hb] at e; exact X.mus b v e, X.os, X.gens⟩

/-- the rows of a square stand where the list's items point -/
def RowsAt (h : Heap) (vs : List Value) (M : List (List Bool)) : Prop := ∀ (j : Nat) (r : List Bool), M[j]? = some r → ∃ a, vs[j]? = some (.ref a) ∧ h.IsList a (r.map Value.bool).toArray
def refOf : Value → Option Addr
  | .ref a => some a
  | _ => none
theorem bools_of {H : Fz} : ∀ {r : List Bool} {us : List Value}, RepL H (r.map .bool) us → us = r.map Value.bool
  | [], us, h => by simpa [RepL] using h
  | b :: r, us, h => by
    simp only [List.map_cons] at h ⊢
    unfold RepL at h
    obtain ⟨v, us', rfl, h1, h2⟩ := h
    have h1 : v = .bool b := h1
    rw [h1, bools_of h2]
theorem refs_mem {vs : List Value} {j : Nat} {a : Addr} (h : vs[j]? = some (.ref a)) : a ∈ vs.filterMap refOf := List.mem_filterMap.mpr ⟨_, List.mem_of_getElem? h, rfl⟩

/-- map(sum, rows), drawn item by item -/
theorem map_walk (hh : A.handled = none) {mp t i l : Addr} {vs : List Value} {M : List (List Bool)} (hmi : mp ≠ i) (hti : t ≠ i) (hli : l ≠ i) (hvi : ∀ a ∈ vs.filterMap refOf, a ≠ i) (hlen : vs.length = M.length) :
    WalksS g.prog g.w A mp (i :: mp :: t :: l :: vs.filterMap refOf) [i] (fun a b => b = a) M.length (fun k v => ∃ r tk, M[k]? = some r ∧ v = .int (cnt r) tk)
      (fun k s => s.heap.get? mp = some (mapObj t (.builtin "sum")) ∧ s.heap.get? t = some (mapTup i) ∧ s.heap.IsListIter i l k ∧ s.heap.IsList l vs.toArray ∧ RowsAt s.heap vs M) where
  sub := fun b hb => by rw [List.mem_singleton.mp hb]; exact List.mem_cons_self
  grefl := fun _ => rfl
  gtrans := fun _ _ _ h1 h2 => h2.trans h1
  frame := fun k s h' tk ⟨gm, gt, gi, gl, gr⟩ _ hk => ⟨hk mp (by simp) _ gm, hk t (by simp) _ gt, gi.at fun o e => hk i (by simp) o e, gl.at fun o e => hk l (by simp) o e, fun j r hr => by
    obtain ⟨a, ha, hl⟩ := gr j r hr
    exact ⟨a, ha, hl.at fun o e => hk a (by have := refs_mem ha; simp [this]) o e⟩⟩
  item := fun k s Q E hk ⟨gm, gt, gi, gl, gr⟩ hQ => by
    obtain ⟨a, ha, hrow⟩ := gr k (M.getD k []) (by rw [List.getD_eq_getElem?_getD, List.getElem?_eq_getElem hk]; rfl)
    have hai : a ≠ i := hvi a (refs_mem ha)
    refine next_map_item gm gt gi gl (by simpa using ha) fun h' hi' hs' => ?_
    have kp : ∀ b o, b ≠ i → s.heap.get? b = some o → h'.get? b = some o := fun b o hb e => hs'.extBut b o hb e
    have hrow' : h'.IsList a (M.getD k []|>.map Value.bool).toArray := hrow.at fun o e => kp a o hai e
    have halt : a < h'.objs.size := by obtain ⟨o, ho, _⟩ := hrow'; exact Heap.lt_size ho
    have W := (Walks.list (prog := g.prog) (w := g.w) (A := A.in1.in1) hh h'.objs.size a (Nat.ne_of_lt halt) (M.getD k []|>.map Value.bool).toArray).toS
    refine call_sum_walkAnyB (wpAny_pyIter_list (s := { s with heap := h' }) hrow' ⟨_, _, _, _, _, _, _, fun j => if (M.getD k []).getD j false then 1 else 0, rfl, W, ⟨⟨_, Heap.get?_push_size _ rfl, rfl, rfl⟩, hrow'.push _⟩, fun b hb => ?_, fun j v hv => ?_, fun s' t' mv => ?_⟩)
    · show b < (h'.push _).objs.size
      rw [Heap.size_push]
      rcases List.mem_cons.mp hb with rfl | hb
      · exact Nat.lt_succ_self _
      · rw [List.mem_singleton.mp hb]; exact Nat.lt_succ_of_lt halt
    · right
      have hv : ((M.getD k []).map Value.bool)[j]? = some v := by simpa using hv
      rw [List.getElem?_map] at hv
      obtain ⟨b, hb, rfl⟩ := Option.map_eq_some_iff.mp hv
      exact ⟨b, rfl, by show (if (M.getD k []).getD j false = true then (1 : Int) else 0) = _; rw [List.getD_eq_getElem?_getD (l := M.getD k []), hb]; rfl⟩
    · have up : ∀ b o, h'.get? b = some o → s'.heap.get? b = some o := fun b o e =>
        mv.heap b o (by rw [List.mem_singleton]; exact Nat.ne_of_lt (Heap.lt_size e)) (Heap.get?_push_of_some _ e)
      have hc : preSum (fun j => if (M.getD k []).getD j false then 1 else 0) (M.getD k []|>.map Value.bool).toArray.size = cnt (M.getD k []) := by
        have : (M.getD k []|>.map Value.bool).toArray.size = (M.getD k []).length := by simp
        rw [this, preSum_cnt]
      rw [hc]
      refine hQ _ s' ⟨M.getD k [], t', by rw [List.getD_eq_getElem?_getD, List.getElem?_eq_getElem hk]; rfl, rfl⟩ ⟨up _ _ (kp _ _ hmi gm), up _ _ (kp _ _ hti gt), hi'.at fun o e => up i o e, gl.at fun o e => up l o (kp l o hli e), fun j r hr => ?_⟩
        ⟨fun b o hb e => up b o (kp b o (fun h => hb (by rw [h]; exact List.mem_singleton.mpr rfl)) e), mv.gens, mv.drawn, mv.os, mv.toks⟩
      obtain ⟨a2, ha2, hl2⟩ := gr j r hr
      exact ⟨a2, ha2, hl2.at fun o e => up a2 o (kp a2 o (hvi a2 (refs_mem ha2)) e)⟩
  done := fun s Q E ⟨gm, gt, gi, gl, gr⟩ hQ => next_map_end hh gm gt gi gl (by simp [hlen]) fun h' he => hQ _ ⟨fun b o hb e => he b o (fun h => hb (by rw [h]; exact List.mem_singleton.mpr rfl)) e, rfl, rfl, rfl, Nat.le_refl _⟩
  self := fun k s Q E ⟨gm, _⟩ hQ => pyIter_map gm hQ

theorem sum_map_run {M : List (List Bool)} {Q : PV → Mu → Prop} {mp t i l : Addr} {H : Fz} (hh : A.handled = none)
    (R : Rep H (matPV M) (.ref l)) (hti : t ≠ i) (hmi : mp ≠ i) (hmt : mp ≠ t) (m1 : mu i = none) (m2 : mu t = none) (m3 : mu mp = none)
    (h : Q (.int (M.map cnt).sum) mu) :
    RunV g A (((mu.set t (.obj (mapTup i))).set mp (.obj (mapObj t (.builtin "sum")))).set i (.obj (itObj l))) H (call (.builtin "sum") [.ref mp]) Q := fun s S => by
  have gi := S.mus i _ Mu.set_self
  have gm := (S.mus mp (.obj (mapObj t (.builtin "sum"))) (by rw [Mu.set_ne hmi, Mu.set_self])).2.1
  have gt := (S.mus t (.obj (mapTup i)) (by rw [Mu.set_ne hti, Mu.set_ne (Ne.symm hmt), Mu.set_self])).2.1
  have S0 : St g mu H s := S.muLe ((MuLe.set m2).trans ((MuLe.set (by rw [Mu.set_ne hmt]; exact m3)).trans (MuLe.set (by rw [Mu.set_ne (Ne.symm hmi), Mu.set_ne (Ne.symm hti)]; exact m1))))
  unfold matPV Rep at R
  obtain ⟨l', lo, vs, e, hlo, ⟨n, rfl⟩, hvs⟩ := R
  cases e
  have hlen := hvs.length
  rw [List.length_map] at hlen
  have offH : ∀ a o, H a = some o → a ≠ i := fun a o e => by rintro rfl; rw [gi.1] at e; cases e
  have rows : ∀ (j : Nat) (r : List Bool), M[j]? = some r → ∃ a o, vs[j]? = some (.ref a) ∧ H a = some o ∧ s.heap.IsList a (r.map Value.bool).toArray := fun j r hr => by
    obtain ⟨x, hx, Rx⟩ := hvs.get (i := j) (p := rowPV r) (by rw [List.getElem?_map, hr]; rfl)
    unfold rowPV Rep at Rx
    obtain ⟨a, o, us, rfl, ho, ⟨n2, rfl⟩, hus⟩ := Rx
    exact ⟨a, _, hx, ho, ⟨_, S.sub _ _ ho, rfl, n2, by rw [bools_of hus]⟩⟩
  have hvi : ∀ a ∈ vs.filterMap refOf, a ≠ i := fun a ha => by
    obtain ⟨v, hv, hva⟩ := List.mem_filterMap.mp ha
    obtain ⟨j, hj⟩ := List.getElem?_of_mem hv
    have hjl : j < M.length := by
      have := (List.getElem?_eq_some_iff.mp hj).1
      omega
    obtain ⟨a2, o, ha2, ho, _⟩ := rows j _ (List.getElem?_eq_getElem hjl)
    rw [hj] at ha2
    cases ha2
    cases hva
    exact offH _ _ ho
  refine call_sum_walkAnyB (pyIter_map gm ⟨mp, _, _, _, _, _, _, fun k => (M.map cnt).getD k 0, rfl, map_walk (A := A.in1) hh hmi hti (offH _ _ hlo) hvi hlen,
    ⟨gm, gt, ⟨_, gi.2.1, rfl, rfl⟩, ⟨_, S.sub _ _ hlo, rfl, n, rfl⟩, fun j r hr => ?_⟩, fun b hb => ?_, fun k v hv => ?_, fun s' t' mv => ?_⟩)
  · obtain ⟨a, o, ha, _, hl⟩ := rows j r hr
    exact ⟨a, ha, hl⟩
  · rcases List.mem_cons.mp hb with rfl | hb
    · exact Heap.lt_size gi.2.1
    rcases List.mem_cons.mp hb with rfl | hb
    · exact Heap.lt_size gm
    rcases List.mem_cons.mp hb with rfl | hb
    · exact Heap.lt_size gt
    rcases List.mem_cons.mp hb with rfl | hb
    · exact Heap.lt_size (S.sub _ _ hlo)
    · obtain ⟨v, hv, hva⟩ := List.mem_filterMap.mp hb
      obtain ⟨j, hj⟩ := List.getElem?_of_mem hv
      have hjl : j < M.length := by
        have := (List.getElem?_eq_some_iff.mp hj).1
        omega
      obtain ⟨a2, o, ha2, ho, _⟩ := rows j _ (List.getElem?_eq_getElem hjl)
      rw [hj] at ha2
      cases ha2
      cases hva
      exact Heap.lt_size (S.sub _ _ ho)
  · obtain ⟨r, tk, hr, rfl⟩ := hv
    exact .inl ⟨tk, by show Value.int (cnt r) tk = Value.int ((M.map cnt).getD k 0) tk; rw [List.getD_eq_getElem?_getD, List.getElem?_map, hr]; rfl⟩
  · refine ⟨H, mu, .int _, Fz.le_refl _, S0.moved gi.1 m1 mv, ⟨t', rfl⟩, ?_⟩
    have e := preSum_take (M.map cnt) M.length (by simp)
    rw [List.take_of_length_le (by simp)] at e
    rw [e]; exact h

theorem EV.sum_map {f1 f2 f3 e : Expr} {p1 p2 : Pos} {Q : PV → Mu → Prop} (hh : A.handled = none) (hN1 : NAME g env f1 (.builtin "sum")) (hN2 : NAME g env f2 (.type "map")) (hN3 : NAME g env f3 (.builtin "sum"))
    (h : EV g A env σ mu e (fun p m => ∃ M : List (List Bool), p = matPV M ∧ Q (.int (M.map cnt).sum) m))
    (hev : eval (.Call f1 [.Call f2 [f3, e] [] p2] [] p1) env = (do callWith p1 (← eval f1 env) [] (backTo p1 (starEach [.Call f2 [f3, e] [] p2] env)) (backToKw p1 (keywordEach [] env))) := by rfl)
    (hev2 : eval (.Call f2 [f3, e] [] p2) env = (do callWith p2 (← eval f2 env) [] (backTo p2 (starEach [f3, e] env)) (backToKw p2 (keywordEach [] env))) := by rfl)
    (hs1 : starEach [.Call f2 [f3, e] [] p2] env = [(false, eval (.Call f2 [f3, e] [] p2) env)] := by rfl)
    (hs2 : starEach [f3, e] env = [(false, eval f3 env), (false, eval e env)] := by rfl) : EV g A env σ mu (.Call f1 [.Call f2 [f3, e] [] p2] [] p1) Q := fun H s I => by
  rw [hev, hs1]
  refine wpAny_bind (hN1 A s _ I.base ?_)
  refine Calls.callWith_builtin rfl ?_
  refine Calls.evalArgs_plain ?_
  refine Calls.spliced_cons ?_
  rw [hev2, hs2]
  refine wpAny_bind (hN2 A s _ I.base ?_)
  refine PySem.callWith_type rfl ?_
  refine Calls.evalArgs_plain ?_
  refine Calls.spliced_cons (hN3 A s _ I.base ?_)
  refine Calls.spliced_cons (wpAny_mono (h H s I) (fun v s₁ h₁ => ?_) fun _ _ x => x)
  obtain ⟨H1, m, p, l1, I1, R1, M, rfl, hq⟩ := h₁
  refine Calls.spliced_nil ?_
  have R2 := R1
  unfold matPV Rep at R1
  obtain ⟨l, lo, vs, rfl, hlo, ⟨n, rfl⟩, hvs⟩ := R1
  refine call_map_2 (l := l) (xs := vs.toArray) ⟨_, I1.st.sub _ _ hlo, rfl, n, rfl⟩ ?_
  refine Calls.spliced_nil ?_
  have gi : (mapH3 s₁.heap l (.builtin "sum")).get? s₁.heap.objs.size = some (itObj l) := Heap.get?_push_of_some _ (Heap.get?_push_of_some _ (Heap.get?_push_size _ rfl))
  have gt : (mapH3 s₁.heap l (.builtin "sum")).get? (mapH1 s₁.heap l).objs.size = some (mapTup s₁.heap.objs.size) := Heap.get?_push_of_some _ (Heap.get?_push_size _ rfl)
  have gm : (mapH3 s₁.heap l (.builtin "sum")).get? (mapH2 s₁.heap l).objs.size = some (mapObj (mapH1 s₁.heap l).objs.size (.builtin "sum")) := Heap.get?_push_size _ rfl
  have z1 : (mapH1 s₁.heap l).objs.size = s₁.heap.objs.size + 1 := Heap.size_push ..
  have z2 : (mapH2 s₁.heap l).objs.size = s₁.heap.objs.size + 2 := by rw [Heap.size_push, z1]
  have I2 : Inv g env σ m H1 { s₁ with heap := mapH3 s₁.heap l (.builtin "sum") } := I1.keeps (fun _ _ e => Heap.get?_push_of_some _ (Heap.get?_push_of_some _ (Heap.get?_push_of_some _ e))) _
  have hi0 := I1.st.mu_none_of_size (a := s₁.heap.objs.size) (Nat.le_refl _)
  have ht0 := I1.st.mu_none_of_size (a := (mapH1 s₁.heap l).objs.size) (by omega)
  have hm0 := I1.st.mu_none_of_size (a := (mapH2 s₁.heap l).objs.size) (by omega)
  have hiH := I1.st.none_of_size (a := s₁.heap.objs.size) (Nat.le_refl _)
  have htH := I1.st.none_of_size (a := (mapH1 s₁.heap l).objs.size) (by omega)
  have hmH := I1.st.none_of_size (a := (mapH2 s₁.heap l).objs.size) (by omega)
  have I3 := ((I2.addMu gt rfl htH).addMu gm rfl hmH).addMu gi rfl hiH
  have n1 : (mapH1 s₁.heap l).objs.size ≠ s₁.heap.objs.size := by omega
  have n2 : (mapH2 s₁.heap l).objs.size ≠ s₁.heap.objs.size := by omega
  have n3 : (mapH2 s₁.heap l).objs.size ≠ (mapH1 s₁.heap l).objs.size := by omega
  exact I3.step l1 (fun H' l2 => sum_map_run hh (R2.mono l2) n1 n2 n3 hi0 ht0 hm0 hq) fun _ _ x => x
end
end Mine
namespace Mine
local macro_rules | `(tactic| walk_at "own") => `(tactic| with_reducible assumption)
local macro_rules | `(tactic| walk_at "dbg") => `(tactic| with_reducible assumption)
local macro_rules | `(tactic| walk_at "sto") => `(tactic| first | (simp only [Sto.set_eq, ne_5, ↓reduceIte, *]; done) | (simp only [Sto.set_eq, ne_5, ↓reduceIte, *]; rfl))
local macro_rules | `(tactic| walk_at "nm") => `(tactic| (refine' EV.name ?o ?d ?s ?_; (case o => walk_at "own"); (case d => walk_at "dbg"); (case s => walk_at "sto")))
local macro_rules | `(tactic| walk_at "bi") => `(tactic| exact nmBi rfl rfl rfl rfl (by decide +kernel) (by with_reducible assumption) (by decide +kernel) (by decide +kernel))

def absI (i : Int) : Int := if i < 0 then -i else i
def lvl4 (M : List (List Bool)) (n : Nat) : Int := (absI (20 * (M.map cnt).sum - 10 * ((n : Int) * n))).fdiv ((n : Int) * n) * 10
theorem level4 {g : G} {A : Around} {L a : Addr} {cd : Value} {mu : Mu} {M : List (List Bool)} {n : Nat} {Q : PV → Mu → Prop} (T : Tops g) (R : Room A 1) (hM : Sq M n) (h1 : 1 ≤ n) (hn : n ≤ 100) (hQ : Q (.int (lvl4 M n)) mu) :
    EX g A (fEnv 5 L a cd) (bindS [(Str.ofString "modules"), (Str.ofString "modules_count")] [matPV M, .int n] fun _ => none) mu (fnBody 5) (Ret Q) := by
  obtain ⟨o1, o2, o3, o4⟩ := own_5 L a cd
  obtain ⟨d1, d2, d3, d4⟩ := dbg_5
  have b1 := T.sum
  have b2 := T.map
  have b3 := T.abs
  have s1 : (bindS [(Str.ofString "modules"), (Str.ofString "modules_count")] [matPV M, .int n] fun _ => none) (Str.ofString "modules") = some (matPV M) := by simp only [bindS, Sto.set_eq, ne_5, ↓reduceIte]
  have s2 : (bindS [(Str.ofString "modules"), (Str.ofString "modules_count")] [matPV M, .int n] fun _ => none) (Str.ofString "modules_count") = some (.int n) := by simp only [bindS, Sto.set_eq, ↓reduceIte]
  generalize (bindS [(Str.ofString "modules"), (Str.ofString "modules_count")] [matPV M, .int n] fun _ => none) = σ at s1 s2
  refine EX.cons (ES.assign o3 (EV.sum_map R.h (by walk_at "bi") (by walk_at "bi") (by walk_at "bi") ?_))
  walk_at "nm"
  refine ⟨M, rfl, ?_⟩
  have hsq : (n : Int) ^ (2 : Int).toNat = (n : Int) * n := by show (n : Int) ^ 2 = _; rw [Int.pow_succ, Int.pow_succ, Int.pow_zero, Int.one_mul]
  have hpos : 0 < (n : Int) * n := Int.mul_pos (by omega) (by omega)
  have hlt : (n : Int) * n ≤ 10000 := Int.le_trans (Int.mul_le_mul (by omega : (n : Int) ≤ 100) (by omega : (n : Int) ≤ 100) (by omega) (by omega)) (by decide)
  refine EX.cons (ES.assign o4 (EV.binop (EV.call_bi (id := "abs") (by walk_at "bi") rfl (h := ?_))))
  refine EVL.cons (EV.binop (EV.binop (EV.c_int ?_)))
  walk_at "nm"
  refine BIN.mul (.of_left (by decide)) (EV.binop (EV.c_int (EV.binop ?_)))
  walk_at "nm"
  refine EV.c_int (BIN.pow (by decide) (by decide) (by omega) (BIN.mul (.of_left (by decide)) (BIN.sub (EVL.nil (CALL.abs (EV.binop ?_))))))
  walk_at "nm"
  refine EV.c_int (BIN.pow (by decide) (by decide) (by omega) (BIN.div (by rw [hsq]; omega) (PyProof.noPylong_small (by rw [hsq]; omega)) ?_))
  refine EX.cons (ES.ret (EV.binop ?_))
  walk_at "nm"
  exact EV.c_int (BIN.mul (.of_right (by decide)) hQ)
end Mine
namespace Mine
section
variable {g : G} {A : Around} {env : Env} {σ : Sto} {mu : Mu}

def Mu.del (m : Mu) (P : Addr) : Mu := fun a => if a = P then none else m a
theorem Mu.del_le (m : Mu) (P : Addr) : MuLe (m.del P) m := fun a v e => by
  unfold Mu.del at e
  split at e
  · cases e
  · exact e
theorem Mu.del_self (m : Mu) (P : Addr) : m.del P P = none := by simp [Mu.del]

/-- a state in which all that is known here still stands -/
theorem Inv.moved {H : Fz} {s s' : Shared} {N : Nat} {P : Addr} (I : Inv g env σ mu H s) (hN : N ≤ s.heap.objs.size) (hH : ∀ a o, H a = some o → a < N) (hM : ∀ a v, mu a = some v → a < N) (hL : env.locals < N) (hC : ∀ x c, env.cells.lookup x = some c → c < N)
    (hHP : H P = none) (hMP : mu P = none) (hLP : P ≠ env.locals) (hCP : ∀ x c, env.cells.lookup x = some c → c ≠ P)
    (k : ∀ b o, b < N → b ≠ P → s.heap.get? b = some o → s'.heap.get? b = some o) (hos : s'.os = s.os) (hg : AllBare s'.gens) : Inv g env σ mu H s' := by
  refine ⟨⟨fun a o e => k a o (hH a o e) (by rintro rfl; rw [hHP] at e; cases e) (I.st.sub a o e), I.st.base, fun a v e => ?_, hos.trans I.st.os, hg⟩, ⟨?_, fun y c hc => ?_, I.fr.offL, I.fr.offC, I.fr.apart⟩⟩
  · exact ⟨(I.st.mus a v e).1, (I.st.mus a v e).2.mono (Fz.le_refl _) fun o eo => k a o (hM a v e) (by rintro rfl; rw [hMP] at e; cases e) eo⟩
  · obtain ⟨m, hn, r⟩ := I.fr.ns
    exact ⟨m, hn.at' fun o e => k _ o hL (Ne.symm hLP) e, r⟩
  · obtain ⟨vo, ⟨o, ho, hd⟩, r⟩ := I.fr.cells y c hc
    exact ⟨vo, ⟨o, k c o (hC y c hc) (hCP y c hc) ho, hd⟩, r⟩
theorem Inv.mu_lt {H s a v} (I : Inv g env σ mu H s) (e : mu a = some v) : a < s.heap.objs.size := let ⟨_, ho, _⟩ := (I.st.mus a v e).2.val; Heap.lt_size ho
theorem Inv.H_lt {H s a o} (I : Inv g env σ mu H s) (e : H a = some o) : a < s.heap.objs.size := Heap.lt_size (I.st.sub a o e)

theorem isCode_of {h : Heap} {c P : Addr} {ps : Array Value} (x : CodeBut h c P) (hP : h.get? P = some (tabObj ps)) (ht : TriplesOk ps.toList) : h.IsCode c P ps ∧ h.TableAt c P ps :=
  let ⟨o, vs, file, tf, flags, tg, inF, text, tt, a, r1, r2, r3, r4, r5, r6, b, z1, z2⟩ := x
  ⟨⟨o, vs, file, tf, flags, tg, inF, text, tt, tabObj ps, a, r1, r2, r3, r4, r5, r6, hP, rfl, ht, b⟩, ⟨o, vs, a, z1, r1, z2⟩, hP⟩
theorem Mu.del_set {m : Mu} {P : Addr} {v : MV} : (m.del P).set P v = m.set P v := by
  funext b; unfold Mu.set Mu.del; by_cases e : b = P
  · rw [if_pos e, if_pos e]
  · rw [if_neg e, if_neg e, if_neg e]
theorem CodeBut.keeps {h h' : Heap} {c P : Addr} (x : CodeBut h c P) (k : Kp h h') : CodeBut h' c P :=
  let ⟨o, vs, file, tf, flags, tg, inF, text, tt, a, r⟩ := x
  ⟨o, vs, file, tf, flags, tg, inF, text, tt, k _ _ a, r⟩

theorem passing_all (n : Nat) : passing (fun _ => true) n 0 = List.range n := by unfold passing; simp

/-- sum(xc[x] * (x - 2) for x in ..) -/
theorem EV.sum_gen {f iter : Expr} {xc x : Str} {px p1 p2 p3 p4 p5 p6 p7 gpos pos : Pos} {kk : Nat} {scope : Scope} {cl : List (Str × Addr)} {c P cc L : Addr} {bm : Addr} {ob : Obj} {cs : List Int} {Q : PV → Mu → Prop}
    (hh : A.handled = none) (hroom : A.depth < recursionLimit) (hN : NAME g env f (.builtin "sum")) (hcode : env.code = .ref c) (hbut : CodeBut g.B c P) (hpo : mu P = some (.obj (tabObj #[])))
    (hgl : env.globals = mainGlobals) (hbi : env.builtins = builtinsNs) (hM : BMod g.B mainGlobals g.mg bm ob)
    (hco : scope.isCoroutine = false) (hclos : closureFor scope env = pure cl) (hcell : ∀ y ∈ scope.names, y.2 ≠ .cell) (h0 : scope.names.lookup (".0" : Str) = some NameKind.local)
    (hx : scope.names.lookup x = some .local) (hkind : scope.kind = .function) (hxc : scope.names.lookup xc = some .free) (hxd : (x == ("__debug__" : Str)) = false) (hcd : (xc == ("__debug__" : Str)) = false) (hcdd : (xc == ("__classdict__" : Str)) = false)
    (hclx : cl.lookup xc = some cc) (hcc : env.cells.lookup xc = some cc) (hnl : env.kindOf xc ≠ some .local) (hσ : σ xc = some (.ref L)) (hL : mu L = some (.list (cs.map .int)))
    (h : EV g A env σ mu iter (fun p m => ∃ a b : Nat, m = mu ∧ p = .range a b ∧ a < 2 ^ 61 ∧ b ≤ cs.length ∧ b < 2 ^ 61 ∧ ∀ more, Q (.int (preSum (fun i => cs.getD (a + i) 0 * (((a + i : Nat) : Int) - 2)) (b - a))) (mu.set P (.obj (tabObj more)))))
    (hs : ∀ x, genFold iter env x = pure x)
    (hev : eval (.Call f [.GeneratorExp (.BinOp (.Subscript (.Name xc p1) (.Name x p2) p3) .Mult (.BinOp (.Name x p4) .Sub (.Constant (.int 2) kk p5) p6) p7) [⟨.Name x px, iter, [], 0⟩] scope gpos] [] pos) env =
      (do callWith pos (← eval f env) [] (backTo pos (starEach [.GeneratorExp (.BinOp (.Subscript (.Name xc p1) (.Name x p2) p3) .Mult (.BinOp (.Name x p4) .Sub (.Constant (.int 2) kk p5) p6) p7) [⟨.Name x px, iter, [], 0⟩] scope gpos] env)) (backToKw pos (keywordEach [] env))) := by rfl)
    (hs1 : starEach [.GeneratorExp (.BinOp (.Subscript (.Name xc p1) (.Name x p2) p3) .Mult (.BinOp (.Name x p4) .Sub (.Constant (.int 2) kk p5) p6) p7) [⟨.Name x px, iter, [], 0⟩] scope gpos] env =
      [(false, eval (.GeneratorExp (.BinOp (.Subscript (.Name xc p1) (.Name x p2) p3) .Mult (.BinOp (.Name x p4) .Sub (.Constant (.int 2) kk p5) p6) p7) [⟨.Name x px, iter, [], 0⟩] scope gpos) env)] := by rfl) :
    EV g A env σ mu (.Call f [.GeneratorExp (.BinOp (.Subscript (.Name xc p1) (.Name x p2) p3) .Mult (.BinOp (.Name x p4) .Sub (.Constant (.int 2) kk p5) p6) p7) [⟨.Name x px, iter, [], 0⟩] scope gpos] [] pos) Q := fun H s I => by
  rw [hev, hs1]
  refine wpAny_bind (hN A s _ I.base ?_)
  refine Calls.callWith_builtin rfl ?_
  refine Calls.evalArgs_plain ?_
  refine Calls.spliced_cons ?_
  refine wpAny_GeneratorExp_walksQ hh hco hclos hcell h0 hx hkind hroom (wpAny_mono (h H s I) (fun v s₁ h₁ => ?_) fun _ _ e => e) hs
  obtain ⟨H1, m, p, l1, I1, R1, a, b, rfl, rfl, ha61, hbl, hb61, hq⟩ := h₁
  have hLlt := I1.mu_lt hL
  have hPlt := I1.mu_lt hpo
  have hHP : H1 P = none := (I1.st.mus P _ hpo).1
  have hPL : P ≠ env.locals := by rintro rfl; rw [I1.muL] at hpo; cases hpo
  have hPC : ∀ x c, env.cells.lookup x = some c → c ≠ P := by rintro x c hc rfl; rw [I1.muC hc] at hpo; cases hpo
  have hLP : L ≠ P := by rintro rfl; rw [hpo] at hL; cases hL
  refine iter_range I1.st R1 (by omega) (by omega) ?_
  have I2 : Inv g env σ m H1 { s₁ with heap := s₁.heap.push { cls := .type "range_iterator", data := .fields #[rawInt a, rawInt (rlen a b), rawInt 1] } } := I1.keeps (fun _ _ e => Heap.get?_push_of_some _ e) _
  have hit : (s₁.heap.push { cls := .type "range_iterator", data := .fields #[rawInt a, rawInt (rlen a b), rawInt 1] }).get? s₁.heap.objs.size = some { cls := .type "range_iterator", data := .fields #[rawInt a, rawInt (rlen a b), rawInt 1] } := Heap.get?_push_size _ rfl
  refine ⟨g.T.nolimit.keeps I2.base, ?_⟩
  have hcod := isCode_of (hbut.keeps I2.base) (I2.st.mus P _ hpo).2.1 (by trivial)
  refine wpAny_genexprCodeX hcode hcod.1 hcod.2 rfl fun c' h₃ tk hx₃ _ _ _ _ htab₃ _ => ?_
  have gP₃ := htab₃.2
  rw [Array.empty_append] at gP₃
  generalize #[rawInt gpos.line, rawInt gpos.col, .ref c'] = more at gP₃
  have I3 : Inv g env σ (m.del P) H1 { s₁ with heap := h₃, toks := tk } := (I2.muLe (Mu.del_le m P)).sameBut hHP (Mu.del_self m P) hPL hPC (fun b o hb e => hx₃ b o hb e) tk
  have hsP : s₁.heap.objs.size ≠ P := Nat.ne_of_gt hPlt
  have hz₃ : s₁.heap.objs.size < h₃.objs.size := Heap.lt_size (hx₃ _ _ hsP hit)
  have M₃ := hM.keeps I3.base
  rw [hgl]
  refine wpAny_builtinsFor M₃.ns M₃.name M₃.ne M₃.obj M₃.cls M₃.dict M₃.data ?_
  have hle : rlen (a : Int) (b : Int) = ((b - a : Nat) : Int) := by unfold rlen; split <;> omega
  obtain ⟨vs, ⟨ol, hol, hlr⟩, hvs⟩ := (I1.st.mus L _ hL).2
  obtain ⟨vo, ⟨oc, hoc, hocd⟩, hr⟩ := I1.fr.cells xc cc hcc
  obtain ⟨vl, rfl, hvl⟩ := hr (.ref L) hnl hσ
  have hvl : vl = .ref L := hvl
  subst hvl
  have hcclt : cc < s₁.heap.objs.size := Heap.lt_size hoc
  have hstat : cStatics < s₁.heap.objs.size := let ⟨_, hn, _⟩ := g.T.nolimit.keeps I1.base; hn.lt
  refine ⟨s₁.heap.objs.size, [s₁.heap.objs.size], [s₁.heap.objs.size], b - a, fun i v => i < b - a ∧ ∃ t, v = .int (a + (i : Nat) * 1) t, fun i h => IsRangeIter h s₁.heap.objs.size (a + (i : Nat) * 1) (((b - a : Nat) : Int) - (i : Nat)) 1,
    fun _ => true, fun i y => ∃ t, y = .int (cs.getD (a + i) 0 * (((a + i : Nat) : Int) - 2)) t, rfl, fun A' hA' => ?_, ?_, fun b hb => ?_, g.T.nolimit.keeps I3.base, ?_, fun href hhref => ⟨?_, ?_⟩, ?_⟩
  · have W := Walks.range (prog := g.prog) (w := g.w) hA' s₁.heap.objs.size a 1 (b - a)
    exact ⟨W.sub, W.frame, fun i s Q E hi hs hQ => W.item i s Q E hi hs fun v h' tk hp => hQ v h' tk ⟨hi, hp⟩, W.done, W.self⟩
  · show h₃.get? _ = _
    rw [hx₃ _ _ hsP hit, hle]
    simp
  · rcases List.mem_cons.mp hb with rfl | hb
    · exact hz₃
    · cases hb
  · exact fun hm => Nat.ne_of_lt hstat (List.mem_singleton.mp hm)
  · intro A' E' i v u m₂ _ _ _ _ _
    simp only [List.forIn_nil]
    exact wpAny_pure ⟨rfl, u.heap, u.toks, rfl, fun _ _ e => e⟩
  · rintro A' E' i v u m₂ hA' ⟨hi, t, rfl⟩ _ hns hm₂ hk
    have kk : ∀ b o, b < s₁.heap.objs.size → b ≠ P → s₁.heap.get? b = some o → u.heap.get? b = some o := fun b o hb hbP e => by
      have e3 : h₃.get? b = some o := hx₃ b o hbP (Heap.get?_push_of_some _ e)
      exact hk b (List.mem_range.mpr (Nat.lt_trans hb hz₃)) (fun hm => Nat.ne_of_lt hb (List.mem_singleton.mp hm)) o (hhref b o e3)
    have hlu : u.heap.IsList L vs.toArray := ⟨ol, kk L ol hLlt hLP hol, hlr⟩
    have hcu : u.heap.IsCell cc (some (.ref L)) := ⟨oc, kk cc oc hcclt (hPC xc cc hcc) hoc, hocd⟩
    have hnth : vs[a + i]? = some (.int (cs.getD (a + i) 0) ((vs[a + i]?.bind fun | .int _ t => some t | _ => none).getD 0)) := by
      have hlt : a + i < cs.length := by omega
      obtain ⟨w, hw, hR⟩ := hvs.get (i := a + i) (p := .int (cs.getD (a + i) 0)) (by simp [List.getD_eq_getElem?_getD, hlt])
      obtain ⟨t', rfl⟩ := hR
      rw [hw]; rfl
    generalize ((vs[a + i]?.bind fun | .int _ t => some t | _ => none).getD 0) = t' at hnth
    refine wpAny_BinOp ?_
    refine Subscript_ ?_
    refine wpAny_Name (wpAny_loadName_free hkind hxc hclx hcu ?_ hcdd) hcd
    refine wpAny_Name (wpAny_loadName_local (by exact hkind) hx hns hm₂ ?_) hxd
    have e1 : ((a : Int) + (i : Nat) * 1) = ((a + i : Nat) : Int) := by push_cast; omega
    rw [e1]
    refine tail_any hlu.typeIs slot_list_getitem.lookup (wpAny_getItem_list hlu (by omega) (by omega) (by rw [Int.toNat_natCast, List.getElem?_toArray]; exact hnth) ?_) rfl
    refine wpAny_BinOp ?_
    refine wpAny_Name (wpAny_loadName_local (by exact hkind) hx hns hm₂ ?_) hxd
    refine wpAny_Constant_int ?_
    refine PyProof.Rows.sub_int ?_
    refine PyProof.Rows.mul_int ?_ (.of_right (intBits_le_64 (by omega) (by omega)))
    exact ⟨⟨_, by rw [e1]⟩, u.heap, _, rfl, fun _ _ e => e⟩
  · intro an h₅ tk₅ gs hgb hlt hsz hk₅ W hat
    refine Calls.spliced_nil ?_
    have W1 := W.in4_1
    refine call_sum_walkAnyS (W1.self 0 _ _ _ hat ⟨an, _, _, _, _, _, _, fun i => cs.getD (a + i) 0 * (((a + i : Nat) : Int) - 2), rfl, W1, hat, ?_, ?_, ?_⟩)
    · intro b' hb'
      show b' < h₅.objs.size
      rw [hsz]
      rcases List.mem_cons.mp hb' with rfl | hb'
      · exact Nat.lt_succ_self _
      · rcases List.mem_cons.mp hb' with rfl | hb'
        · exact Nat.lt_succ_of_lt hlt
        · exact Nat.lt_succ_of_lt (Nat.lt_trans (List.mem_range.mp hb') hlt)
    · rintro j y ⟨i, hi, hF⟩
      rw [passing_all] at hi
      have : i = j := by
        have := List.getElem?_eq_some_iff.mp hi
        obtain ⟨h1, h2⟩ := this
        simpa using h2.symm
      subst this
      exact hF
    · intro s' t' hm
      rw [passing_all, List.length_range]
      have I4 : Inv g env σ (m.del P) H1 s' := by
        refine I1.muLe (Mu.del_le m P) |>.moved (N := s₁.heap.objs.size) (P := P) (Nat.le_refl _) (fun a o e => I1.H_lt e) (fun a v e => I1.mu_lt (Mu.del_le m P _ _ e)) I1.L_lt (fun x c hc => I1.C_lt hc) hHP (Mu.del_self m P) hPL hPC (fun b' o hb' hbP e => ?_) (hm.os.trans ?_) ?_
        · refine hm.heap b' o ?_ (hk₅ b' o (hx₃ b' o hbP (Heap.get?_push_of_some _ e)))
          intro hw
          rcases List.mem_cons.mp hw with rfl | hw
          · exact absurd (Nat.lt_trans hb' hz₃) (Nat.lt_irrefl _)
          · rw [List.mem_singleton.mp hw] at hb'
            exact Nat.lt_irrefl _ hb'
        · rfl
        · exact (AllBare.push I1.st.gens hgb).moved hm.gens
      have gPs : s'.heap.get? P = some (tabObj more) := by
        refine hm.heap P _ ?_ (hk₅ P _ gP₃)
        intro hw
        rcases List.mem_cons.mp hw with rfl | hw
        · exact absurd (Nat.lt_trans hPlt hz₃) (Nat.lt_irrefl _)
        · exact hsP.symm (List.mem_singleton.mp hw)
      have I5 := I4.addMu gPs rfl hHP
      rw [Mu.del_set] at I5
      exact ⟨H1, _, .int _, l1, I5, ⟨t', rfl⟩, hq more⟩
end
end Mine
namespace Mine
def bump (l : Nat) (cs : List Int) : List Int := if 5 ≤ l then cs.set l (cs.getD l 0 + 1) else cs
structure LS where
  p : Bool
  l : Nat
  cs : List Int
def LS.step (s : LS) (b : Bool) : LS := if b = s.p then ⟨s.p, s.l + 1, s.cs⟩ else ⟨b, 1, bump s.l s.cs⟩
def lineGo (f : Nat → Bool) (cs : List Int) : Nat → LS
  | 0 => ⟨f 0, 0, cs⟩
  | k + 1 => (lineGo f cs k).step (f k)
def lineEnd (f : Nat → Bool) (n : Nat) (cs : List Int) : List Int := bump (lineGo f cs n).l (lineGo f cs n).cs
def linesGo (F : Nat → Nat → Bool) (n : Nat) (cs : List Int) : Nat → List Int
  | 0 => cs
  | i + 1 => lineEnd (F i) n (linesGo F n cs i)
theorem bump_length (l : Nat) (cs : List Int) : (bump l cs).length = cs.length := by unfold bump; split <;> simp
theorem LS.step_length (s : LS) (b : Bool) : (s.step b).cs.length = s.cs.length := by unfold LS.step; split <;> simp [bump_length]
theorem lineGo_length (f : Nat → Bool) (cs : List Int) : ∀ k, (lineGo f cs k).cs.length = cs.length
  | 0 => rfl
  | k + 1 => by rw [lineGo, LS.step_length, lineGo_length f cs k]
theorem lineGo_l (f : Nat → Bool) (cs : List Int) : ∀ k, (lineGo f cs k).l ≤ k
  | 0 => Nat.le_refl _
  | k + 1 => by
    have := lineGo_l f cs k
    rw [lineGo]; unfold LS.step
    split
    · exact Nat.succ_le_succ this
    · exact Nat.succ_le_succ (Nat.zero_le _)
theorem lineEnd_length (f : Nat → Bool) (n : Nat) (cs : List Int) : (lineEnd f n cs).length = cs.length := by unfold lineEnd; rw [bump_length, lineGo_length]
theorem linesGo_length (F : Nat → Nat → Bool) (n : Nat) (cs : List Int) : ∀ i, (linesGo F n cs i).length = cs.length
  | 0 => rfl
  | i + 1 => by rw [linesGo, lineEnd_length, linesGo_length F n cs i]
def boxes (M : List (List Bool)) (n : Nat) : List Int := linesGo (fun i r => cell M r i) n (linesGo (fun i c => cell M i c) n (List.replicate (n + 1) 0) n) n
end Mine
namespace Mine
def lvl1 (M : List (List Bool)) (n : Nat) : Int := preSum (fun i => (boxes M n).getD (5 + i) 0 * (((5 + i : Nat) : Int) - 2)) (n + 1 - 5)
theorem EX.frame2 {g A env σ mu st Q} (mu0 : Mu) (h : EX g A env σ mu st (fun fl σ' m' => MuLe mu0 m' ∧ Q fl σ' mu0)) : EX g A env σ mu st Q := fun H s I =>
  wpAny_mono (h H s I) (fun f s' hs => let ⟨H', σ', m', fl, l, I', R, k, q⟩ := hs; ⟨H', σ', mu0, fl, l, I'.muLe k, R, q⟩) fun _ _ x => x
theorem EX.frame3 {g A env σ mu st Q} {ι : Type} {mu0 : ι → Mu} (h : EX g A env σ mu st (fun fl σ' m' => ∃ i, MuLe (mu0 i) m' ∧ Q fl σ' (mu0 i))) : EX g A env σ mu st Q := fun H s I =>
  wpAny_mono (h H s I) (fun f s' hs => let ⟨H', σ', m', fl, l, I', R, i, k, q⟩ := hs; ⟨H', σ', mu0 i, fl, l, I'.muLe k, R, q⟩) fun _ _ x => x
theorem Mu.same {m : Mu} {a : Addr} {v : MV} (h : m a = some v) : m.set a v = m := by
  funext b; unfold Mu.set; by_cases e : b = a
  · rw [if_pos e, e, h]
  · rw [if_neg e]
section
variable {g : G} {A : Around} {env : Env} {σ : Sto} {mu : Mu}
abbrev xL : Str := Str.ofString "length"
abbrev xP : Str := Str.ofString "previous_color"
abbrev xC : Str := Str.ofString "container"
theorem ES.bump {p1 p2 p3 p4 p5 p6 p7 p8 pos : Pos} {k1 k2 : Nat} {L : Addr} {l : Nat} {cs : List Int} {Q : Fl → Sto → Mu → Prop} (oL : Own env xL) (oC : Own env xC) (dL : (xL == ("__debug__" : Str)) = false) (dC : (xC == ("__debug__" : Str)) = false)
    (hL : σ xL = some (.int l)) (hC : σ xC = some (.ref L)) (hm : mu L = some (.list (cs.map .int))) (hl : l < cs.length) (hl2 : l < 2 ^ 62)
    (h : Q .next σ (mu.set L (.list ((bump l cs).map .int)))) :
    ES g A env σ mu (.If (.Compare (.Name xL p1) [.GtE] [.Constant (.int 5) k1 p2] p3) [.AugAssign (.Subscript (.Name xC p4) (.Name xL p5) p6) .Add (.Constant (.int 1) k2 p7) p8] [] pos) Q := by
  refine ES.if (TR.cmp rfl (EV.name oL dL hL (EV.c_int (CMP.ge_int ⟨_, rfl, ?_⟩))))
  by_cases h5 : 5 ≤ l
  · have e : decide ((5 : Int) ≤ (l : Int)) = true := decide_eq_true (by omega)
    rw [e]
    refine iteT (EX.cons (ES.aug_sub (EV.name oC dC hC (EV.name oL dL hL ⟨L, cs.map .int, l, .int (cs.getD l 0), rfl, rfl, hm, by omega, by omega, ?_, EV.c_int (INP.add ⟨hm, EX.nil ?_⟩)⟩))))
    · rw [Int.toNat_natCast, List.getElem?_map, List.getElem?_eq_getElem hl, List.getD_eq_getElem?_getD, List.getElem?_eq_getElem hl]; rfl
    · unfold Mine.bump at h
      rw [if_pos h5] at h
      rw [Int.toNat_natCast, ← List.map_set]
      exact h
  · have e : decide ((5 : Int) ≤ (l : Int)) = false := decide_eq_false (by omega)
    rw [e]
    refine iteF (EX.nil ?_)
    unfold Mine.bump at h
    rw [if_neg h5, Mu.same hm] at h
    exact h

theorem ES.turn {e e' : Expr} {p1 p2 p3 p4 p5 p6 p7 p8 q1 q2 q3 q4 q5 q6 q7 q8 q9 q10 q11 pos : Pos} {k1 k2 k3 k4 : Nat} {L : Addr} {s : LS} {b : Bool} {Q : Fl → Sto → Mu → Prop}
    (oL : Own env xL) (oP : Own env xP) (oC : Own env xC) (dL : (xL == ("__debug__" : Str)) = false) (dP : (xP == ("__debug__" : Str)) = false) (dC : (xC == ("__debug__" : Str)) = false)
    (hL : σ xL = some (.int s.l)) (hP : σ xP = some (.bool s.p)) (hC : σ xC = some (.ref L)) (hm : mu L = some (.list (s.cs.map .int))) (hl : s.l < s.cs.length) (hl2 : s.l < 2 ^ 62)
    (he : ∀ (σ' : Sto) (m' : Mu) (Q' : PV → Mu → Prop), (∀ y, y ≠ xL → σ' y = σ y) → Q' (.bool b) m' → EV g A env σ' m' e Q')
    (he' : ∀ (σ' : Sto) (m' : Mu) (Q' : PV → Mu → Prop), (∀ y, y ≠ xL → σ' y = σ y) → Q' (.bool b) m' → EV g A env σ' m' e' Q')
    (hmk : behindInMarks .Eq (.Name xP q1) = false)
    (hsw : swapsWith e' (some (.Name xP q9)) q8.line env = pure false)
    (h : ∀ σ', (∀ y, y ≠ xL → y ≠ xP → σ' y = σ y) → σ' xL = some (.int (s.step b).l) → σ' xP = some (.bool (s.step b).p) → Q .next σ' (mu.set L (.list ((s.step b).cs.map .int)))) :
    ES g A env σ mu (.If (.Compare e [.Eq] [.Name xP q1] q2) [.AugAssign (.Name xL q3) .Add (.Constant (.int 1) k3 q4) q5]
      [.If (.Compare (.Name xL p1) [.GtE] [.Constant (.int 5) k1 p2] p3) [.AugAssign (.Subscript (.Name xC p4) (.Name xL p5) p6) .Add (.Constant (.int 1) k2 p7) p8] [] q6,
       .Assign [.Name xL q7] (.Constant (.int 1) k4 q10) q11, .Assign [.Name xP q9] e' q8] pos) Q := by
  have nPL : xP ≠ xL := by decide
  have nLP : xL ≠ xP := by decide
  refine ES.if (TR.cmp hmk (he _ _ _ (fun _ _ => rfl) (EV.name oP dP hP (CMP.eq_bool ⟨_, rfl, ?_⟩))))
  by_cases hb : b = s.p
  · have e1 : (b == s.p) = true := by rw [hb]; simp
    rw [e1]
    have e2 : s.step b = ⟨s.p, s.l + 1, s.cs⟩ := by unfold LS.step; rw [if_pos hb]
    rw [e2] at h
    refine iteT (EX.cons (ES.aug oL hL (EV.c_int (INP.add (EX.nil ?_)))))
    have h := h (σ.set xL (.int ((s.l : Int) + 1))) (fun y h1 h2 => by unfold Sto.set; rw [if_neg h1]) (by unfold Sto.set; rw [if_pos rfl]; rfl) (by unfold Sto.set; rw [if_neg nPL]; exact hP)
    rw [Mu.same hm] at h
    exact h
  · have e1 : (b == s.p) = false := by simpa using hb
    rw [e1]
    have e2 : s.step b = ⟨b, 1, Mine.bump s.l s.cs⟩ := by unfold LS.step; rw [if_neg hb]
    rw [e2] at h
    refine iteF (EX.cons (ES.bump oL oC dL dC hL hC hm hl hl2 ?_))
    refine EX.cons (ES.assign oL (EV.c_int ?_))
    refine EX.cons (ES.assign oP (he' _ _ _ (fun y hy => by unfold Sto.set; rw [if_neg hy]) (EX.nil ?_)) hsw)
    refine h _ (fun y h1 h2 => by unfold Sto.set; rw [if_neg h2, if_neg h1]) ?_ ?_
    · unfold Sto.set; rw [if_neg nLP, if_pos rfl]; rfl
    · unfold Sto.set; rw [if_pos rfl]
end
local macro_rules | `(tactic| walk_at "own") => `(tactic| with_reducible assumption)
local macro_rules | `(tactic| walk_at "dbg") => `(tactic| with_reducible assumption)
local macro_rules | `(tactic| walk_at "sto") => `(tactic| first | (simp only [Sto.set_eq, ne_2, ↓reduceIte, *]; done) | (simp only [Sto.set_eq, ne_2, ↓reduceIte, *]; rfl))
local macro_rules | `(tactic| walk_at "nm") => `(tactic| (refine' EV.name ?o ?d ?s ?_; (case o => walk_at "own"); (case d => walk_at "dbg"); (case s => walk_at "sto")))
local macro_rules | `(tactic| walk_at "bi") => `(tactic| exact nmBi rfl rfl rfl rfl (by decide +kernel) (by with_reducible assumption) (by decide +kernel) (by decide +kernel))

set_option maxHeartbeats 1000000 in
theorem level1 {g : G} {A : Around} {L0 a : Addr} {mu : Mu} {M : List (List Bool)} {n : Nat} {Q : PV → Mu → Prop} (T : Tops g) (R : Room A 1) (hM : Sq M n) (h1 : 1 ≤ n) (hn : n ≤ 100)
    (hpo : mu T.P2 = some (.obj (tabObj #[]))) (hQ : ∀ more, Q (.int (lvl1 M n)) (mu.set T.P2 (.obj (tabObj more)))) :
    EX g A (fEnv 2 L0 a (.ref T.c2)) (bindS [(Str.ofString "modules"), (Str.ofString "modules_count")] [matPV M, .int n] fun _ => none) mu (fnBody 2) (Ret Q) := by
  obtain ⟨o1, o2, o3, o4, o5, o6, o7, o8, o9, o10⟩ := own_2 L0 a (.ref T.c2)
  obtain ⟨d1, d2, d3, d4, d5, d6, d7, d8, d9, d10⟩ := dbg_2
  have b1 := T.range
  have b2 := T.sum
  have s1 : (bindS [(Str.ofString "modules"), (Str.ofString "modules_count")] [matPV M, .int n] fun _ => none) (Str.ofString "modules") = some (matPV M) := by simp only [bindS, Sto.set_eq, ne_2, ↓reduceIte]
  have s2 : (bindS [(Str.ofString "modules"), (Str.ofString "modules_count")] [matPV M, .int n] fun _ => none) (Str.ofString "modules_count") = some (.int n) := by simp only [bindS, Sto.set_eq, ↓reduceIte]
  generalize (bindS [(Str.ofString "modules"), (Str.ofString "modules_count")] [matPV M, .int n] fun _ => none) = σ at s1 s2
  refine EX.frame3 (mu0 := fun more => mu.set T.P2 (.obj (tabObj more))) ?_
  refine EX.cons (ES.assign o3 (EV.c_int ?_))
  refine EX.cons (ES.assign o4 (EV.call_ty (T := "range") (by walk_at "bi") rfl (h := ?_)))
  refine EVL.cons ?_
  walk_at "nm"
  refine EVL.nil (CALL.range1 ?_)
  refine EX.cons (ES.assign o5 (EV.binop (EV.list (EVL.cons (EV.c_int (EVL.nil (SEQ.list (EV.binop ?_) (by decide))))))))
  walk_at "nm"
  refine EV.c_int (BIN.add (BIN.repM (by omega) (by omega) fun L hLn => ?_))
  have hLP : L ≠ T.P2 := by rintro rfl; rw [hpo] at hLn; cases hLn
  have hr : rlen 0 (n : Int) = n := by unfold rlen; split <;> omega
  have e0 : (mu.set L (.list (List.replicate ((n : Int) + 1).toNat (.int 0)))) = mu.set L (.list ((linesGo (fun i c => cell M i c) n (List.replicate (n + 1) 0) 0).map .int)) := by
    rw [linesGo, List.map_replicate]; rfl
  rw [e0]
  clear e0
  generalize hG1 : (fun i c => cell M i c) = F1
  generalize hG0 : List.replicate (n + 1) (0 : Int) = cs0
  have hc0 : cs0.length = n + 1 := by rw [← hG0, List.length_replicate]
  refine EX.cons (ES.for_range (fun i σ m => m = mu.set L (.list ((linesGo F1 n cs0 i).map .int)) ∧ σ (Str.ofString "modules") = some (matPV M) ∧ σ (Str.ofString "modules_range") = some (.range 0 n) ∧ σ (Str.ofString "modules_count") = some (.int n) ∧ σ (Str.ofString "container") = some (.ref L) ∧ σ (Str.ofString "lost_point") = some (.int 0)) R.h rfl rfl (fun _ => rfl) ?_)
  walk_at "nm"
  refine ⟨0, n, rfl, by omega, by omega, ⟨rfl, by walk_at "sto", by walk_at "sto", by walk_at "sto", by walk_at "sto", by walk_at "sto"⟩, ?_, ?_⟩
  · clear s1 s2
    rintro i σ' m' hi ⟨rfl, q1, q2, q3, q4, q5⟩
    have hi' : i < n := by rw [hr] at hi; omega
    have hci : (linesGo F1 n cs0 i).length = n + 1 := by rw [linesGo_length, hc0]
    generalize hGi : linesGo F1 n cs0 i = cs at hci
    refine EX.cons (ES.assign o7 (EV.sub ?_))
    walk_at "nm"; walk_at "nm"
    refine SUBS.at i (fun _ _ => rfl) (by omega) (by omega) (mat_get hM hi') ?_
    refine EX.cons (ES.assign o8 (EV.sub ?_))
    walk_at "nm"
    refine EV.c_int (SUBS.at 0 (fun _ _ => rfl) rfl (by omega) (row_get hM hi' (by omega)) ?_)
    refine EX.cons (ES.assign o9 (EV.c_int ?_))
    refine EX.cons (ES.for_range (fun k σ m => m = mu.set L (.list ((lineGo (fun c => cell M i c) cs k).cs.map .int)) ∧ σ (Str.ofString "modules") = some (matPV M) ∧ σ (Str.ofString "modules_range") = some (.range 0 n) ∧ σ (Str.ofString "modules_count") = some (.int n) ∧ σ (Str.ofString "container") = some (.ref L) ∧ σ (Str.ofString "lost_point") = some (.int 0) ∧
      σ (Str.ofString "this_row") = some (rowPV (M.getD i [])) ∧ σ (Str.ofString "length") = some (.int (lineGo (fun c => cell M i c) cs k).l) ∧ σ (Str.ofString "previous_color") = some (.bool (lineGo (fun c => cell M i c) cs k).p)) R.h rfl rfl (fun _ => rfl) ?_)
    walk_at "nm"
    refine ⟨0, n, rfl, by omega, by omega, ⟨rfl, by walk_at "sto", by walk_at "sto", by walk_at "sto", by walk_at "sto", by walk_at "sto", by walk_at "sto", by walk_at "sto", by walk_at "sto"⟩, ?_, ?_⟩
    · clear q1 q2 q3 q4 q5
      rintro k σ2 m2 hk ⟨rfl, q1, q2, q3, q4, q5, q6, q7, q8⟩
      have hk' : k < n := by rw [hr] at hk; omega
      have hlk := lineGo_l (fun c => cell M i c) cs k
      have hck := lineGo_length (fun c => cell M i c) cs k
      generalize hS : lineGo (fun c => cell M i c) cs k = S at hlk hck q7 q8
      refine EX.cons (ES.turn (s := S) (b := cell M i k) o9 o8 o5 d9 d8 d5 (by walk_at "sto") (by walk_at "sto") (by walk_at "sto") Mu.set_self (by omega) (by omega) (fun σ3 m3 Q3 h3 hq => ?_) (fun σ3 m3 Q3 h3 hq => ?_) (by rfl) (by rfl) fun σ3 h3 e1 e2 => ?_)
      · have r6 : σ3 (Str.ofString "this_row") = some (rowPV (M.getD i [])) := by rw [h3 _ (by simp only [ne_2, ne_eq, not_false_eq_true])]; walk_at "sto"
        have r7 : σ3 (Str.ofString "col") = some (.int k) := by rw [h3 _ (by simp only [ne_2, ne_eq, not_false_eq_true])]; simp only [Sto.set_eq, ↓reduceIte, Int.zero_add]
        refine EV.sub (EV.name o7 d7 r6 (EV.name o10 d10 r7 ?_))
        exact SUBS.at k (fun _ _ => rfl) rfl (by omega) (row_get hM hi' hk') hq
      · have r6 : σ3 (Str.ofString "this_row") = some (rowPV (M.getD i [])) := by rw [h3 _ (by simp only [ne_2, ne_eq, not_false_eq_true])]; walk_at "sto"
        have r7 : σ3 (Str.ofString "col") = some (.int k) := by rw [h3 _ (by simp only [ne_2, ne_eq, not_false_eq_true])]; simp only [Sto.set_eq, ↓reduceIte, Int.zero_add]
        refine EV.sub (EV.name o7 d7 r6 (EV.name o10 d10 r7 ?_))
        exact SUBS.at k (fun _ _ => rfl) rfl (by omega) (row_get hM hi' hk') hq
      · rw [Mu.set_set]
        have e3 : S.step (cell M i k) = lineGo (fun c => cell M i c) cs (k + 1) := by rw [lineGo, hS]
        rw [e3] at e1 e2 ⊢
        refine EX.nil ⟨rfl, ?_, ?_, ?_, ?_, ?_, ?_, e1, e2⟩ <;> (rw [h3 _ (by simp only [ne_2, ne_eq, not_false_eq_true]) (by simp only [ne_2, ne_eq, not_false_eq_true])]; walk_at "sto")
    · clear q1 q2 q3 q4 q5
      rintro σ2 m2 ⟨rfl, q1, q2, q3, q4, q5, q6, q7, q8⟩
      rw [hr, Int.toNat_natCast] at q7 q8
      rw [hr, Int.toNat_natCast]
      have hlk := lineGo_l (fun c => cell M i c) cs n
      have hck := lineGo_length (fun c => cell M i c) cs n
      refine EX.cons (ES.bump o9 o5 d9 d5 q7 (by walk_at "sto") Mu.set_self (by omega) (by omega) ?_)
      rw [Mu.set_set]
      refine EX.nil ⟨?_, q1, q2, q3, q4, q5⟩
      subst hG1
      rw [linesGo, hGi]; rfl
  · clear s1 s2
    rintro σ' m' ⟨rfl, q1, q2, q3, q4, q5⟩
    rw [hr, Int.toNat_natCast]
    have hc1 : (linesGo F1 n cs0 n).length = n + 1 := by rw [linesGo_length, hc0]
    generalize hG2 : (fun i r => cell M r i) = F2
    have hend : linesGo F2 n (linesGo F1 n cs0 n) n = boxes M n := by rw [← hG2, ← hG1, ← hG0]; rfl
    have e0 : linesGo F1 n cs0 n = linesGo F2 n (linesGo F1 n cs0 n) 0 := rfl
    rw [e0]
    generalize linesGo F1 n cs0 n = cs1 at hc1 hend
    refine EX.cons (ES.for_range (fun i σ m => m = mu.set L (.list ((linesGo F2 n cs1 i).map .int)) ∧ σ (Str.ofString "modules") = some (matPV M) ∧ σ (Str.ofString "modules_range") = some (.range 0 n) ∧ σ (Str.ofString "modules_count") = some (.int n) ∧ σ (Str.ofString "container") = some (.ref L) ∧ σ (Str.ofString "lost_point") = some (.int 0)) R.h rfl rfl (fun _ => rfl) ?_)
    walk_at "nm"
    refine ⟨0, n, rfl, by omega, by omega, ⟨rfl, by walk_at "sto", by walk_at "sto", by walk_at "sto", by walk_at "sto", by walk_at "sto"⟩, ?_, ?_⟩
    · clear q1 q2 q3 q4 q5
      rintro i σ' m' hi ⟨rfl, q1, q2, q3, q4, q5⟩
      have hi' : i < n := by rw [hr] at hi; omega
      have hci : (linesGo F2 n cs1 i).length = n + 1 := by rw [linesGo_length, hc1]
      generalize hGi : linesGo F2 n cs1 i = cs at hci
      refine EX.cons (ES.assign o8 (EV.sub (EV.sub ?_)))
      walk_at "nm"
      refine EV.c_int (SUBS.at 0 (fun _ _ => rfl) rfl (by omega) (mat_get hM (by omega)) ?_)
      walk_at "nm"
      refine SUBS.at i (fun _ _ => rfl) (by omega) (by omega) (row_get hM (by omega) hi') ?_
      refine EX.cons (ES.assign o9 (EV.c_int ?_))
      refine EX.cons (ES.for_range (fun k σ m => m = mu.set L (.list ((lineGo (fun r => cell M r i) cs k).cs.map .int)) ∧ σ (Str.ofString "modules") = some (matPV M) ∧ σ (Str.ofString "modules_range") = some (.range 0 n) ∧ σ (Str.ofString "modules_count") = some (.int n) ∧ σ (Str.ofString "container") = some (.ref L) ∧ σ (Str.ofString "lost_point") = some (.int 0) ∧
        σ (Str.ofString "col") = some (.int i) ∧ σ (Str.ofString "length") = some (.int (lineGo (fun r => cell M r i) cs k).l) ∧ σ (Str.ofString "previous_color") = some (.bool (lineGo (fun r => cell M r i) cs k).p)) R.h rfl rfl (fun _ => rfl) ?_)
      walk_at "nm"
      refine ⟨0, n, rfl, by omega, by omega, ⟨rfl, by walk_at "sto", by walk_at "sto", by walk_at "sto", by walk_at "sto", by walk_at "sto", ?_, by walk_at "sto", by walk_at "sto"⟩, ?_, ?_⟩
      · simp only [Sto.set_eq, ne_2, ↓reduceIte, Int.zero_add]
      · clear q1 q2 q3 q4 q5
        rintro k σ2 m2 hk ⟨rfl, q1, q2, q3, q4, q5, q6, q7, q8⟩
        have hk' : k < n := by rw [hr] at hk; omega
        have hlk := lineGo_l (fun r => cell M r i) cs k
        have hck := lineGo_length (fun r => cell M r i) cs k
        generalize hS : lineGo (fun r => cell M r i) cs k = S at hlk hck q7 q8
        refine EX.cons (ES.turn (s := S) (b := cell M k i) o9 o8 o5 d9 d8 d5 (by walk_at "sto") (by walk_at "sto") (by walk_at "sto") Mu.set_self (by omega) (by omega) (fun σ3 m3 Q3 h3 hq => ?_) (fun σ3 m3 Q3 h3 hq => ?_) (by rfl) (by rfl) fun σ3 h3 e1 e2 => ?_)
        · have r1 : σ3 (Str.ofString "modules") = some (matPV M) := by rw [h3 _ (by simp only [ne_2, ne_eq, not_false_eq_true])]; walk_at "sto"
          have r6 : σ3 (Str.ofString "col") = some (.int i) := by rw [h3 _ (by simp only [ne_2, ne_eq, not_false_eq_true])]; walk_at "sto"
          have r7 : σ3 (Str.ofString "row") = some (.int k) := by rw [h3 _ (by simp only [ne_2, ne_eq, not_false_eq_true])]; simp only [Sto.set_eq, ↓reduceIte, Int.zero_add]
          refine EV.sub (EV.sub (EV.name o1 d1 r1 (EV.name o6 d6 r7 (SUBS.at k (fun _ _ => rfl) rfl (by omega) (mat_get hM hk') (EV.name o10 d10 r6 ?_)))))
          exact SUBS.at i (fun _ _ => rfl) rfl (by omega) (row_get hM hk' hi') hq
        · have r1 : σ3 (Str.ofString "modules") = some (matPV M) := by rw [h3 _ (by simp only [ne_2, ne_eq, not_false_eq_true])]; walk_at "sto"
          have r6 : σ3 (Str.ofString "col") = some (.int i) := by rw [h3 _ (by simp only [ne_2, ne_eq, not_false_eq_true])]; walk_at "sto"
          have r7 : σ3 (Str.ofString "row") = some (.int k) := by rw [h3 _ (by simp only [ne_2, ne_eq, not_false_eq_true])]; simp only [Sto.set_eq, ↓reduceIte, Int.zero_add]
          refine EV.sub (EV.sub (EV.name o1 d1 r1 (EV.name o6 d6 r7 (SUBS.at k (fun _ _ => rfl) rfl (by omega) (mat_get hM hk') (EV.name o10 d10 r6 ?_)))))
          exact SUBS.at i (fun _ _ => rfl) rfl (by omega) (row_get hM hk' hi') hq
        · rw [Mu.set_set]
          have e3 : S.step (cell M k i) = lineGo (fun r => cell M r i) cs (k + 1) := by rw [lineGo, hS]
          rw [e3] at e1 e2 ⊢
          refine EX.nil ⟨rfl, ?_, ?_, ?_, ?_, ?_, ?_, e1, e2⟩ <;> (rw [h3 _ (by simp only [ne_2, ne_eq, not_false_eq_true]) (by simp only [ne_2, ne_eq, not_false_eq_true])]; walk_at "sto")
      · clear q1 q2 q3 q4 q5
        rintro σ2 m2 ⟨rfl, q1, q2, q3, q4, q5, q6, q7, q8⟩
        rw [hr, Int.toNat_natCast] at q7 q8
        rw [hr, Int.toNat_natCast]
        have hlk := lineGo_l (fun r => cell M r i) cs n
        have hck := lineGo_length (fun r => cell M r i) cs n
        refine EX.cons (ES.bump o9 o5 d9 d5 q7 (by walk_at "sto") Mu.set_self (by omega) (by omega) ?_)
        rw [Mu.set_set]
        refine EX.nil ⟨?_, q1, q2, q3, q4, q5⟩
        subst hG2
        rw [linesGo, hGi]; rfl
    · clear q1 q2 q3 q4 q5
      rintro σ2 m2 ⟨rfl, q1, q2, q3, q4, q5⟩
      rw [hr, Int.toNat_natCast, hend]
      have hbl : (boxes M n).length = n + 1 := by rw [← hend, linesGo_length, hc1]
      obtain ⟨bm, ob, hBM⟩ := T.bmod
      refine EX.cons (ES.aug (p := .int 0) o3 (by walk_at "sto") ?_)
      refine EV.sum_gen (cc := L0 + 1) (L := L) (cs := boxes M n) (c := T.c2) (P := T.P2) (bm := bm) (ob := ob) R.h (by have := R.d; omega) (by walk_at "bi") rfl T.but2 (by rw [Mu.set_ne (Ne.symm hLP)]; exact hpo) rfl rfl hBM rfl rfl (by decide) (by decide) (by decide) rfl (by decide) (by decide) (by decide) (by decide) ?_ ?_ ?_ (by walk_at "sto") Mu.set_self ?_ (fun _ => rfl)
      · rfl
      · rfl
      · show ((fEnv 2 L0 a (.ref T.c2)).kindOf (Str.ofString "container")) ≠ _
        rw [show ((fEnv 2 L0 a (.ref T.c2)).kindOf (Str.ofString "container")) = some .cell from rfl]
        decide
      · refine EV.call_ty (T := "range") (by walk_at "bi") rfl (h := ?_)
        refine EVL.cons (EV.c_int (EVL.cons (EV.binop ?_)))
        walk_at "nm"
        refine EV.c_int (BIN.add (EVL.nil (CALL.range2 ⟨5, n + 1, rfl, by push_cast; rfl, by omega, by omega, by omega, fun more => ?_⟩)))
        refine INP.add ?_
        refine EX.cons (ES.ret ?_)
        walk_at "nm"
        refine ⟨more, ?_, ?_⟩
        · intro b v hb
          by_cases hbP : b = T.P2
          · subst hbP; rw [Mu.set_self] at hb ⊢; exact hb
          · rw [Mu.set_ne hbP] at hb ⊢
            rw [Mu.set_ne (by rintro rfl; rw [hLn] at hb; cases hb)]
            exact hb
        · rw [Int.zero_add]
          exact hQ more
end Mine
namespace Mine
theorem len2 {vs : List Value} (h : vs.length = 2) : ∃ v w, vs = [v, w] := by
  match vs, h with
  | [v, w], _ => exact ⟨v, w, rfl⟩
theorem len1 {vs : List Value} (h : vs.length = 1) : ∃ v, vs = [v] := by
  match vs, h with
  | [v], _ => exact ⟨v, rfl⟩
local macro_rules | `(tactic| walk_at "own") => `(tactic| with_reducible assumption)
local macro_rules | `(tactic| walk_at "dbg") => `(tactic| with_reducible assumption)
local macro_rules | `(tactic| walk_at "sto") => `(tactic| first | (simp only [Sto.set_eq, ne_1, ↓reduceIte, *]; done) | (simp only [Sto.set_eq, ne_1, ↓reduceIte, *]; rfl))
local macro_rules | `(tactic| walk_at "nm") => `(tactic| (refine' EV.name ?o ?d ?s ?_; (case o => walk_at "own"); (case d => walk_at "dbg"); (case s => walk_at "sto")))
local macro_rules | `(tactic| walk_at "bi") => `(tactic| exact nmBi rfl rfl rfl rfl (by decide +kernel) (by with_reducible assumption) (by decide +kernel) (by decide +kernel))
local macro_rules | `(tactic| walk_at "gl") => `(tactic| exact nmGl rfl rfl rfl (by decide +kernel) (by with_reducible assumption))

def pts4 (M : List (List Bool)) (n : Nat) : Int := lvl1 M n + lvl2 M n + lvl3 M n + lvl4 M n
set_option maxHeartbeats 1000000 in
theorem lostPoint {g : G} {A : Around} {L a : Addr} {cd : Value} {mu : Mu} {M : List (List Bool)} {n : Nat} {Q : PV → Mu → Prop} (T : Tops g) (R : Room A 2) (hM : Sq M n) (h1 : 1 ≤ n) (hn : n ≤ 100)
    (hpo : mu T.P2 = some (.obj (tabObj #[]))) (hQ : ∀ more, Q (.int (pts4 M n)) (mu.set T.P2 (.obj (tabObj more)))) :
    EX g A (fEnv 1 L a cd) (bindS [(Str.ofString "modules")] [matPV M] fun _ => none) mu (fnBody 1) (Ret Q) := by
  obtain ⟨o1, o2, o3⟩ := own_1 L a cd
  obtain ⟨d1, d2, d3⟩ := dbg_1
  have b1 := T.len
  have b2 := T.n2
  have b3 := T.n3
  have b4 := T.n4
  have b5 := T.n5
  have s1 : (bindS [(Str.ofString "modules")] [matPV M] fun _ => none) (Str.ofString "modules") = some (matPV M) := by simp only [bindS, Sto.set_eq, ↓reduceIte]
  generalize (bindS [(Str.ofString "modules")] [matPV M] fun _ => none) = σ at s1
  refine EX.cons (ES.assign o2 (EV.call_bi (id := "len") (by walk_at "bi") rfl (h := ?_)))
  refine EVL.cons ?_
  walk_at "nm"
  have hlen : (M.map rowPV).length = n := by rw [List.length_map, hM.len]
  refine EVL.nil (CALL.len (by rw [hlen, sizeLine_eq]; omega) ?_)
  rw [hlen]
  refine EX.cons (ES.assign o3 (EV.c_int ?_))
  obtain ⟨x2, pm2, cd2, doc2, g2, f2, c2⟩ := T.f2.ex
  obtain ⟨x3, pm3, cd3, doc3, g3, f3, c3⟩ := T.f3.ex
  obtain ⟨x4, pm4, cd4, doc4, g4, f4, c4⟩ := T.f4.ex
  obtain ⟨x5, pm5, cd5, doc5, g5, f5, c5⟩ := T.f5.ex
  refine EX.cons (ES.assign o3 (EV.call_fn (b := T.a2) (by walk_at "gl") g2 f2 (h := ?_)))
  refine EVL.cons ?_
  walk_at "nm"
  refine EVL.cons ?_
  walk_at "nm"
  refine EVL.nil (CALL.atC [(Str.ofString "modules"), (Str.ofString "modules_count")] R T.f2 T.code2 (fun pm cd doc vs hv => ?_) (by decide) rfl rfl rfl fun L A' R' => level1 T R' hM h1 hn hpo fun more => ?_)
  · obtain ⟨v, w, rfl⟩ := len2 hv; rfl
  refine EX.cons (ES.aug (p := .int (lvl1 M n)) o3 (by walk_at "sto") (EV.call_fn (b := T.a3) (by walk_at "gl") g3 f3 (h := ?_)))
  refine EVL.cons ?_
  walk_at "nm"
  refine EVL.cons ?_
  walk_at "nm"
  refine EVL.nil (CALL.at [(Str.ofString "modules"), (Str.ofString "modules_count")] R T.f3 (fun pm cd doc vs hv => ?_) (by decide) rfl rfl rfl fun L cd A' R' => level2 T R' hM h1 hn (INP.add ?_))
  · obtain ⟨v, w, rfl⟩ := len2 hv; rfl
  refine EX.cons (ES.aug (p := .int (lvl1 M n + lvl2 M n)) o3 (by walk_at "sto") (EV.call_fn (b := T.a4) (by walk_at "gl") g4 f4 (h := ?_)))
  refine EVL.cons ?_
  walk_at "nm"
  refine EVL.cons ?_
  walk_at "nm"
  refine EVL.nil (CALL.at [(Str.ofString "modules"), (Str.ofString "modules_count")] R T.f4 (fun pm cd doc vs hv => ?_) (by decide) rfl rfl rfl fun L cd A' R' => level3 T R' hM h1 hn (INP.add ?_))
  · obtain ⟨v, w, rfl⟩ := len2 hv; rfl
  refine EX.cons (ES.aug (p := .int (lvl1 M n + lvl2 M n + lvl3 M n)) o3 (by walk_at "sto") (EV.call_fn (b := T.a5) (by walk_at "gl") g5 f5 (h := ?_)))
  refine EVL.cons ?_
  walk_at "nm"
  refine EVL.cons ?_
  walk_at "nm"
  refine EVL.nil (CALL.at [(Str.ofString "modules"), (Str.ofString "modules_count")] R T.f5 (fun pm cd doc vs hv => ?_) (by decide) rfl rfl rfl fun L cd A' R' => level4 T R' hM h1 hn (INP.add ?_))
  · obtain ⟨v, w, rfl⟩ := len2 hv; rfl
  refine EX.cons (ES.ret ?_)
  walk_at "nm"
  exact hQ more
end Mine
namespace Mine
local macro_rules | `(tactic| walk_at "own") => `(tactic| with_reducible assumption)
local macro_rules | `(tactic| walk_at "dbg") => `(tactic| with_reducible assumption)
local macro_rules | `(tactic| walk_at "sto") => `(tactic| first | (simp only [Sto.set_eq, ne_7, ↓reduceIte, *]; done) | (simp only [Sto.set_eq, ne_7, ↓reduceIte, *]; rfl))
local macro_rules | `(tactic| walk_at "nm") => `(tactic| (refine' EV.name ?o ?d ?s ?_; (case o => walk_at "own"); (case d => walk_at "dbg"); (case s => walk_at "sto")))
local macro_rules | `(tactic| walk_at "bi") => `(tactic| exact nmBi rfl rfl rfl rfl (by decide +kernel) (by with_reducible assumption) (by decide +kernel) (by decide +kernel))
local macro_rules | `(tactic| walk_at "gl") => `(tactic| exact nmGl rfl rfl rfl (by decide +kernel) (by with_reducible assumption))

/-- the law's own state -/
def stPV (xs : List Int) (i : Nat) (s : Int) : MV := .list [.list (xs.map .int), .int i, .int s]
theorem SUBS.st0 {g : G} {A : Around} {mu : Mu} {value slice : Expr} {S : Addr} {xs : List Int} {i : Nat} {s : Int} {Q : PV → Mu → Prop} (hs : PlainSub slice) (hm : mu S = some (stPV xs i s)) (h : Q (.list (xs.map .int)) mu) : SUBS g A value slice mu (.ref S) (.int 0) Q :=
  SUBS.mut hs hm (by decide) (by decide) rfl h
theorem SUBS.st1 {g : G} {A : Around} {mu : Mu} {value slice : Expr} {S : Addr} {xs : List Int} {i : Nat} {s : Int} {Q : PV → Mu → Prop} (hs : PlainSub slice) (hm : mu S = some (stPV xs i s)) (h : Q (.int i) mu) : SUBS g A value slice mu (.ref S) (.int 1) Q :=
  SUBS.mut hs hm (by decide) (by decide) rfl h
theorem SUBS.st2 {g : G} {A : Around} {mu : Mu} {value slice : Expr} {S : Addr} {xs : List Int} {i : Nat} {s : Int} {Q : PV → Mu → Prop} (hs : PlainSub slice) (hm : mu S = some (stPV xs i s)) (h : Q (.int s) mu) : SUBS g A value slice mu (.ref S) (.int 2) Q :=
  SUBS.mut hs hm (by decide) (by decide) rfl h

theorem lawNext {g : G} {A : Around} {L a : Addr} {cd : Value} {mu : Mu} {S : Addr} {xs : List Int} {i : Nat} {s many : Int} {Q : PV → Mu → Prop} (T : Tops g) (R : Room A 1) (hx : xs.length ≤ 100) (hi : i ≤ xs.length) (hmany : 0 < many) (hmb : many < 1073741824)
    (hm : mu S = some (stPV xs i s)) (hQ : ∀ (r : Int) (i' : Nat) (s' : Int), 0 ≤ r → r < many → i' ≤ xs.length → Q (.int r) (mu.set S (stPV xs i' s'))) :
    EX g A (fEnv 7 L a cd) (bindS [(Str.ofString "state"), (Str.ofString "many")] [.ref S, .int many] fun _ => none) mu (fnBody 7) (Ret Q) := by
  obtain ⟨o1, o2, o3⟩ := own_7 L a cd
  obtain ⟨d1, d2, d3⟩ := dbg_7
  have b1 := T.len
  have b2 := T.abs
  have s1 : (bindS [(Str.ofString "state"), (Str.ofString "many")] [.ref S, .int many] fun _ => none) (Str.ofString "state") = some (.ref S) := by simp only [bindS, Sto.set_eq, ne_7, ↓reduceIte]
  have s2 : (bindS [(Str.ofString "state"), (Str.ofString "many")] [.ref S, .int many] fun _ => none) (Str.ofString "many") = some (.int many) := by simp only [bindS, Sto.set_eq, ↓reduceIte]
  generalize (bindS [(Str.ofString "state"), (Str.ofString "many")] [.ref S, .int many] fun _ => none) = σ at s1 s2
  refine EX.cons (ES.if (TR.cmp rfl (EV.sub ?_)))
  walk_at "nm"
  refine EV.c_int (SUBS.st1 (fun _ _ => rfl) hm (EV.call_bi (id := "len") (by walk_at "bi") rfl (h := ?_)))
  refine EVL.cons (EV.sub ?_)
  walk_at "nm"
  refine EV.c_int (SUBS.st0 (fun _ _ => rfl) hm (EVL.nil (CALL.len (by rw [List.length_map, sizeLine_eq]; omega) (CMP.lt_int ⟨_, rfl, ?_⟩))))
  rw [List.length_map]
  have hfd : ∀ x : Int, 0 ≤ x.fmod many ∧ x.fmod many < many := fun x => ⟨Int.fmod_nonneg_of_pos x hmany, Int.fmod_lt_of_pos x hmany⟩
  by_cases hlt : i < xs.length
  · rw [show decide ((i : Int) < (xs.length : Int)) = true from decide_eq_true (by omega)]
    refine iteT (EX.cons (ES.assign o3 (EV.call_bi (id := "abs") (by walk_at "bi") rfl (h := ?_))))
    refine EVL.cons (EV.sub (EV.sub ?_))
    walk_at "nm"
    refine EV.c_int (SUBS.st0 (fun _ _ => rfl) hm (EV.sub ?_))
    walk_at "nm"
    refine EV.c_int (SUBS.st1 (fun _ _ => rfl) hm (SUBS.at i (fun _ _ => rfl) rfl (by omega) (r := .int (xs.getD i 0)) (by simp [List.getD_eq_getElem?_getD, hlt]) (EVL.nil (CALL.abs ?_))))
    generalize (if xs.getD i 0 < 0 then -xs.getD i 0 else xs.getD i 0) = found
    refine EX.cons (ES.assign_sub (EV.binop (EV.sub ?_)))
    walk_at "nm"
    refine EV.c_int (SUBS.st1 (fun _ _ => rfl) hm (EV.c_int (BIN.add ?_)))
    walk_at "nm"
    refine EV.c_int ⟨S, _, 1, rfl, rfl, hm, by decide, by simp, by decide, ?_⟩
    have hm1 : (mu.set S (stPV xs (i + 1) s)) S = some (stPV xs (i + 1) s) := Mu.set_self
    refine EX.cons (ES.assign_sub (EV.binop (EV.binop (EV.binop (EV.sub ?_)))))
    walk_at "nm"
    refine EV.c_int (SUBS.st2 (fun _ _ => rfl) hm1 (EV.c_int (BIN.mul (.of_right (by decide)) ?_)))
    walk_at "nm"
    refine BIN.add (EV.c_int (BIN.mod (by decide) ?_))
    walk_at "nm"
    refine EV.c_int ⟨S, _, 2, rfl, rfl, hm1, by decide, by simp, by decide, ?_⟩
    refine EX.cons (ES.ret (EV.binop ?_))
    walk_at "nm"
    walk_at "nm"
    refine BIN.mod (by omega) ?_
    rw [Mu.set_set]
    exact hQ _ (i + 1) _ (hfd _).1 (hfd _).2 (by omega)
  · rw [show decide ((i : Int) < (xs.length : Int)) = false from decide_eq_false (by omega)]
    refine iteF (EX.nil ?_)
    refine EX.cons (ES.assign_sub (EV.binop (EV.binop (EV.binop (EV.sub ?_)))))
    walk_at "nm"
    refine EV.c_int (SUBS.st2 (fun _ _ => rfl) hm (EV.c_int (BIN.mul (.of_right (by decide)) (EV.c_int (BIN.add (EV.c_int (BIN.mod (by decide) ?_)))))))
    walk_at "nm"
    refine EV.c_int ⟨S, _, 2, rfl, rfl, hm, by decide, by simp, by decide, ?_⟩
    have hm1 : ∀ s', (mu.set S (stPV xs i s')) S = some (stPV xs i s') := fun _ => Mu.set_self
    refine EX.cons (ES.ret (EV.binop (EV.binop (EV.sub ?_))))
    walk_at "nm"
    refine EV.c_int (SUBS.st2 (fun _ _ => rfl) (hm1 _) (EV.c_int (BIN.div (by decide) (PyProof.noPylong_small (by decide)) ?_)))
    walk_at "nm"
    exact BIN.mod (by omega) (hQ _ i _ (hfd _).1 (hfd _).2 hi)
end Mine
namespace Mine
/-- the law's own count of runs -/
def runsGo (r : List Bool) : Nat → Int × Nat
  | 0 => (0, 0)
  | k + 1 => if k + 1 = r.length ∨ r.getD (k + 1) false ≠ r.getD k false then ((runsGo r k).1 + (if (runsGo r k).2 + 1 > 4 then (((runsGo r k).2 : Int) + 1) - 2 else 0), 0) else ((runsGo r k).1, (runsGo r k).2 + 1)
def runsOf (r : List Bool) : Int := (runsGo r r.length).1
theorem runsGo_le (r : List Bool) : ∀ k, (runsGo r k).2 ≤ k
  | 0 => Nat.le_refl _
  | k + 1 => by
    have := runsGo_le r k
    rw [runsGo]
    split
    · exact Nat.zero_le _
    · exact Nat.succ_le_succ this
end Mine
namespace Mine
local macro_rules | `(tactic| walk_at "own") => `(tactic| with_reducible assumption)
local macro_rules | `(tactic| walk_at "dbg") => `(tactic| with_reducible assumption)
local macro_rules | `(tactic| walk_at "sto") => `(tactic| first | (simp only [Sto.set_eq, ne_9, ↓reduceIte, *]; done) | (simp only [Sto.set_eq, ne_9, ↓reduceIte, *]; rfl))
local macro_rules | `(tactic| walk_at "nm") => `(tactic| (refine' EV.name ?o ?d ?s ?_; (case o => walk_at "own"); (case d => walk_at "dbg"); (case s => walk_at "sto")))
local macro_rules | `(tactic| walk_at "bi") => `(tactic| exact nmBi rfl rfl rfl rfl (by decide +kernel) (by with_reducible assumption) (by decide +kernel) (by decide +kernel))

set_option maxHeartbeats 1000000 in
theorem lawRuns {g : G} {A : Around} {L a : Addr} {cd : Value} {mu : Mu} {r : List Bool} {Q : PV → Mu → Prop} (T : Tops g) (R : Room A 1) (hr : r.length ≤ 100) (hQ : Q (.int (runsOf r)) mu) :
    EX g A (fEnv 9 L a cd) (bindS [(Str.ofString "line")] [rowPV r] fun _ => none) mu (fnBody 9) (Ret Q) := by
  obtain ⟨o1, o2, o3, o4⟩ := own_9 L a cd
  obtain ⟨d1, d2, d3, d4⟩ := dbg_9
  have b1 := T.len
  have b2 := T.range
  have s1 : (bindS [(Str.ofString "line")] [rowPV r] fun _ => none) (Str.ofString "line") = some (rowPV r) := by simp only [bindS, Sto.set_eq, ↓reduceIte]
  generalize (bindS [(Str.ofString "line")] [rowPV r] fun _ => none) = σ at s1
  have hlen : (r.map PV.bool).length = r.length := List.length_map ..
  have hcall : ∀ (σ' : Sto) (m' : Mu) (Q' : PV → Mu → Prop), True := fun _ _ _ => trivial
  have hro : ∀ j, j < r.length → (r.map PV.bool)[j]? = some (.bool (r.getD j false)) := fun j hj => by simp [List.getD_eq_getElem?_getD, hj]
  refine EX.cons (ES.assign2 R.h o2 o3 (EV.tuple (EVL.cons (EV.c_int (EVL.cons (EV.c_int (EVL.nil (SEQ.tup ⟨_, _, rfl, ?_⟩ (by decide)))))))) rfl rfl)
  refine EX.cons (ES.for_range (fun k σ m => m = mu ∧ σ (Str.ofString "line") = some (rowPV r) ∧ σ (Str.ofString "told") = some (.int (runsGo r k).1) ∧ σ (Str.ofString "size") = some (.int (runsGo r k).2)) R.h rfl rfl (fun _ => rfl) ?_)
  refine EV.call_ty (T := "range") (by walk_at "bi") rfl (h := ?_)
  refine EVL.cons (EV.call_bi (id := "len") (by walk_at "bi") rfl (h := ?_))
  refine EVL.cons ?_
  walk_at "nm"
  refine EVL.nil (CALL.len (by rw [hlen, sizeLine_eq]; omega) (EVL.nil (CALL.range1 ?_)))
  rw [hlen]
  have hrl : rlen 0 (r.length : Int) = r.length := by unfold rlen; split <;> omega
  refine ⟨0, r.length, rfl, by omega, by omega, ⟨rfl, by walk_at "sto", by walk_at "sto", by walk_at "sto"⟩, ?_, ?_⟩
  · rintro k σ' m' hk ⟨rfl, q1, q2, q3⟩
    have hk' : k < r.length := by rw [hrl] at hk; omega
    rw [Int.zero_add]
    have hle := runsGo_le r k
    refine EX.cons (ES.assign o3 (EV.binop ?_))
    walk_at "nm"
    refine EV.c_int (BIN.add ?_)
    refine EX.cons (ES.if (TR.boolop (ALT.or (TR.cmp rfl (EV.binop ?_)))))
    walk_at "nm"
    refine EV.c_int (BIN.add (EV.call_bi (id := "len") (by walk_at "bi") rfl (h := ?_)))
    refine EVL.cons ?_
    walk_at "nm"
    refine EVL.nil (CALL.len (by rw [hlen, sizeLine_eq]; omega) (CMP.eq_int ⟨_, rfl, ?_⟩))
    rw [hlen]
    have yes : (k + 1 = r.length ∨ r.getD (k + 1) false ≠ r.getD k false) → runsGo r (k + 1) = ((runsGo r k).1 + (if (runsGo r k).2 + 1 > 4 then (((runsGo r k).2 : Int) + 1) - 2 else 0), 0) := fun h => by rw [runsGo, if_pos h]
    have no : ¬ (k + 1 = r.length ∨ r.getD (k + 1) false ≠ r.getD k false) → runsGo r (k + 1) = ((runsGo r k).1, (runsGo r k).2 + 1) := fun h => by rw [runsGo, if_neg h]
    by_cases he : k + 1 = r.length
    · rw [show ((k : Int) + 1 == (r.length : Int)) = true from by simp; omega]
      have e := yes (.inl he)
      clear yes no
      refine iteT (iteT ?_)
      refine EX.cons (ES.assign2s R.h o2 o3 (by simp only [ne_9, ne_eq, not_false_eq_true]) (EV.tuple (EVL.cons (EV.binop ?_))) rfl rfl)
      walk_at "nm"
      refine EV.ifexp (TR.cmp rfl ?_)
      walk_at "nm"
      refine EV.c_int (CMP.gt_int ⟨_, rfl, ?_⟩)
      by_cases h4 : (runsGo r k).2 + 1 > 4
      · rw [if_pos h4] at e
        rw [show decide ((4 : Int) < ((runsGo r k).2 : Int) + 1) = true from decide_eq_true (by omega)]
        refine iteT (EV.binop ?_)
        walk_at "nm"
        refine EV.c_int (BIN.sub (BIN.add (EVL.cons (EV.c_int (EVL.nil (SEQ.tup ⟨_, _, rfl, ?_⟩ (show 2 ≤ sizeLine by rw [sizeLine_eq]; decide)))))))
        refine EX.nil (EX.nil ⟨rfl, by walk_at "sto", ?_, ?_⟩) <;> rw [e] <;> walk_at "sto"
      · rw [if_neg h4] at e
        rw [show decide ((4 : Int) < ((runsGo r k).2 : Int) + 1) = false from decide_eq_false (by omega)]
        refine iteF (EV.c_int (BIN.add (EVL.cons (EV.c_int (EVL.nil (SEQ.tup ⟨_, _, rfl, ?_⟩ (show 2 ≤ sizeLine by rw [sizeLine_eq]; decide)))))))
        refine EX.nil (EX.nil ⟨rfl, by walk_at "sto", ?_, ?_⟩) <;> rw [e] <;> walk_at "sto"
    · rw [show ((k : Int) + 1 == (r.length : Int)) = false from by simp; omega]
      refine iteF (ALT.or (TR.cmp rfl (EV.sub ?_)))
      walk_at "nm"
      refine EV.binop ?_
      walk_at "nm"
      refine EV.c_int (BIN.add (SUBS.at (k + 1) (fun _ _ => rfl) (by omega) (by omega) (hro (k + 1) (by omega)) (EV.sub ?_)))
      walk_at "nm"
      walk_at "nm"
      refine SUBS.at k (fun _ _ => rfl) rfl (by omega) (hro k hk') (CMP.ne_bool ⟨_, rfl, ?_⟩)
      cases hne : (r.getD (k + 1) false != r.getD k false) with
      | true =>
        have e := yes (.inr (by simpa using hne))
        clear yes no hne
        refine iteT (iteT ?_)
        refine EX.cons (ES.assign2s R.h o2 o3 (by simp only [ne_9, ne_eq, not_false_eq_true]) (EV.tuple (EVL.cons (EV.binop ?_))) rfl rfl)
        walk_at "nm"
        refine EV.ifexp (TR.cmp rfl ?_)
        walk_at "nm"
        refine EV.c_int (CMP.gt_int ⟨_, rfl, ?_⟩)
        by_cases h4 : (runsGo r k).2 + 1 > 4
        · rw [if_pos h4] at e
          rw [show decide ((4 : Int) < ((runsGo r k).2 : Int) + 1) = true from decide_eq_true (by omega)]
          refine iteT (EV.binop ?_)
          walk_at "nm"
          refine EV.c_int (BIN.sub (BIN.add (EVL.cons (EV.c_int (EVL.nil (SEQ.tup ⟨_, _, rfl, ?_⟩ (show 2 ≤ sizeLine by rw [sizeLine_eq]; decide)))))))
          refine EX.nil (EX.nil ⟨rfl, by walk_at "sto", ?_, ?_⟩) <;> rw [e] <;> walk_at "sto"
        · rw [if_neg h4] at e
          rw [show decide ((4 : Int) < ((runsGo r k).2 : Int) + 1) = false from decide_eq_false (by omega)]
          refine iteF (EV.c_int (BIN.add (EVL.cons (EV.c_int (EVL.nil (SEQ.tup ⟨_, _, rfl, ?_⟩ (show 2 ≤ sizeLine by rw [sizeLine_eq]; decide)))))))
          refine EX.nil (EX.nil ⟨rfl, by walk_at "sto", ?_, ?_⟩) <;> rw [e] <;> walk_at "sto"
      | false =>
        have e := no (by simp only [bne_eq_false_iff_eq] at hne; exact fun h => h.elim he fun h => h hne)
        clear yes no hne
        refine iteF (ALT.nil (iteF (EX.nil (EX.nil ?_))))
        refine ⟨rfl, by walk_at "sto", ?_, ?_⟩ <;> rw [e] <;> walk_at "sto"
  · rintro σ' m' ⟨rfl, q1, q2, q3⟩
    rw [hrl, Int.toNat_natCast] at q2
    refine EX.cons (ES.ret ?_)
    walk_at "nm"
    exact hQ
end Mine
namespace Mine
theorem Cap.nil {env : Env} {scope : Scope} : Cap env scope [] := ⟨fun x c h => (by cases h), fun x c h => (by cases h), fun x c h => (by cases h), fun x c h => (by cases h)⟩
theorem Cap.one {env : Env} {scope : Scope} {y : Str} {c : Addr} (h1 : env.cells.lookup y = some c) (h2 : (relabel scope env).names.lookup y ≠ some .local) (h3 : (y, NameKind.cell) ∉ scope.names) (h4 : env.kindOf y ≠ some .local) : Cap env scope [(y, c)] := by
  have key : ∀ x d, ([(y, c)] : List (Str × Addr)).lookup x = some d → x = y ∧ d = c := fun x d h => by
    rw [List.lookup_cons] at h
    cases hx : x == y with
    | true => rw [hx] at h; cases h; exact ⟨by simpa using hx, rfl⟩
    | false => rw [hx] at h; cases h
  refine ⟨fun x d h => ?_, fun x d h => ?_, fun x d h => ?_, fun x d h => ?_⟩ <;> (obtain ⟨rfl, rfl⟩ := key x d h; assumption)
theorem capS_nil {σ : Sto} : capS [] σ = fun _ => none := by funext x; rfl
theorem capS_one {σ : Sto} {y : Str} {c : Addr} : capS [(y, c)] σ y = σ y := by unfold capS; rw [if_pos (by simp [List.lookup])]

section
variable {g : G} {A : Around} {env : Env} {σ : Sto} {mu : Mu}
theorem strsAre_of {H : Fz} : ∀ {ys : List Str} {vs : List Value}, RepL H (ys.map .str) vs → StrsAre vs ys
  | [], vs, h => by have : vs = [] := by simpa [RepL] using h
                    subst this; exact .nil
  | y :: ys, vs, h => by
    simp only [List.map_cons] at h
    unfold RepL at h
    obtain ⟨v, vs', rfl, ⟨t, rfl⟩, h2⟩ := h
    exact .cons y t (strsAre_of h2)
/-- sep.join(strs) -/
theorem EV.join {sep : Str} {k : Nat} {p apos pos : Pos} {e : Expr} {Q : PV → Mu → Prop}
    (h : EV g A env σ mu e (fun q m => ∃ ys : List Str, q = .list (ys.map .str) ∧ (ys.map (·.length)).sum + ys.length * sep.length ≤ 16777216 ∧ Q (.str (Txt.join sep ys)) m))
    (hline : (apos.endLine == pos.line) = true) (hse : starEach [e] env = [(false, eval e env)] := by rfl) :
    EV g A env σ mu (.Call (.Attribute (.Constant (.str sep) k p) (Str.ofString "join") apos) [e] [] pos) Q := fun H s I => by
  refine wpAny_Call_method_lateS rfl (by rw [hse]; rfl) hline ?_
  refine Calls.Constant_str ?_
  rw [hse]
  show MethodOnS _ _ _ _ _ _ _ [(false, eval e env)] _ _
  refine SB.join (wpAny_mono (h H _ (I.tok _)) (fun v s₁ h₁ => ?_) fun _ _ x => x)
  obtain ⟨H1, m1, q, l1, I1, R1, ys, rfl, hz, hQ⟩ := h₁
  unfold Rep at R1
  obtain ⟨D, o, vs, rfl, ho, ⟨n, rfl⟩, hr⟩ := R1
  obtain ⟨l, hv, ht⟩ := strsAre_values (strsAre_of hr)
  refine ⟨D, l, rfl, ⟨_, I1.st.sub _ _ ho, rfl, n, by rw [hv]⟩, ys, ht, joinOk_of hz, fun t' k' => ?_⟩
  exact ⟨H1, m1, .str (Txt.join sep ys), l1, I1.tok _, ⟨_, rfl⟩, hQ⟩
end

/-- the row as a text -/
def textOf (r : List Bool) : Str := ⟨(r.map fun b => if b then 49 else 48).toArray⟩
def chOf (b : Bool) : Str := if b then Str.ofString "1" else Str.ofString "0"
theorem chOf_cps (b : Bool) : (chOf b).cps = #[if b then 49 else 48] := by cases b <;> rfl
theorem join_rest : ∀ (r : List Bool) (acc : Array Nat), (r.map chOf).foldl (fun acc p => acc ++ (Str.ofString "").cps ++ p.cps) acc = acc ++ (r.map fun b => if b then 49 else 48).toArray
  | [], acc => by simp
  | b :: r, acc => by
    rw [List.map_cons, List.foldl_cons, join_rest r, chOf_cps]
    show acc ++ #[] ++ _ ++ _ = _
    simp
theorem join_text (r : List Bool) : Txt.join (Str.ofString "") (r.map chOf) = textOf r := by
  unfold Txt.join
  cases r with
  | nil => rfl
  | cons b r =>
    show (⟨(r.map chOf).foldl (fun acc p => acc ++ (Str.ofString "").cps ++ p.cps) (chOf b).cps⟩ : Str) = _
    rw [join_rest, chOf_cps]
    unfold textOf
    simp
theorem textOf_length (r : List Bool) : (textOf r).length = r.length := by
  show (r.map _).toArray.size = _
  simp
end Mine
namespace Mine
local macro_rules | `(tactic| walk_at "own") => `(tactic| with_reducible assumption)
local macro_rules | `(tactic| walk_at "dbg") => `(tactic| with_reducible assumption)
local macro_rules | `(tactic| walk_at "sto") => `(tactic| first | (simp only [Sto.set_eq, ne_10, ↓reduceIte, *]; done) | (simp only [Sto.set_eq, ne_10, ↓reduceIte, *]; rfl))
local macro_rules | `(tactic| walk_at "nm") => `(tactic| (refine' EV.name ?o ?d ?s ?_; (case o => walk_at "own"); (case d => walk_at "dbg"); (case s => walk_at "sto")))
local macro_rules | `(tactic| walk_at "bi") => `(tactic| exact nmBi rfl rfl rfl rfl (by decide +kernel) (by with_reducible assumption) (by decide +kernel) (by decide +kernel))

def pa1 : Str := Str.ofString "10111010000"
def pa2 : Str := Str.ofString "00001011101"
def isMark (r : List Bool) (k : Nat) : Bool := [pa1, pa2].any (· == cutS (textOf r) k (k + 11))
def marksOf (r : List Bool) : Int := 40 * (((List.range (r.length - 10)).filter (isMark r)).length : Int)
theorem nn_free : (some NameKind.free : Option NameKind) ≠ some .local := by decide
theorem nn_cell : (some NameKind.cell : Option NameKind) ≠ some .local := by decide
theorem chOf_sum : ∀ r : List Bool, ((r.map chOf).map fun x => x.length).sum = r.length
  | [] => rfl
  | b :: r => by
    rw [List.map_cons, List.map_cons, List.sum_cons, chOf_sum r, List.length_cons]
    have : (chOf b).length = 1 := by cases b <;> rfl
    omega
def natOf : PV → Nat
  | .int i => i.toNat
  | _ => 0

set_option maxRecDepth 100000 in
set_option maxHeartbeats 1000000 in
theorem lawMarks {g : G} {A : Around} {L a : Addr} {cd : Value} {mu : Mu} {r : List Bool} {Q : PV → Mu → Prop} (T : Tops g) (R : Room A 1) (hr : r.length ≤ 100) (hQ : Q (.int (marksOf r)) mu) :
    EX g A (fEnv 10 L a cd) (bindS [(Str.ofString "line")] [rowPV r] fun _ => none) mu (fnBody 10) (Ret Q) := by
  obtain ⟨o1, o2⟩ := own_10 L a cd
  obtain ⟨d1, d2⟩ := dbg_10
  have b1 := T.len
  have b2 := T.range
  have s1 : (bindS [(Str.ofString "line")] [rowPV r] fun _ => none) (Str.ofString "line") = some (rowPV r) := by simp only [bindS, Sto.set_eq, ↓reduceIte]
  generalize (bindS [(Str.ofString "line")] [rowPV r] fun _ => none) = σ at s1
  have hlen : (r.map PV.bool).length = r.length := List.length_map ..
  refine EX.cons (ES.assign o2 (EV.join (EV.comp (cl := []) (fun _ => true) (fun q => match q with | .bool b => .str (chOf b) | q => q) ⟨rfl, rfl, (by decide), (fun _ => rfl), Cap.nil, (fun C => ⟨rfl, .inl rfl⟩), rfl⟩ ?_) rfl))
  walk_at "nm"
  refine ⟨r.map .bool, ITER.list R.h, by rw [hlen, sizeLine_eq]; omega, fun C i q m' hq hm' => ⟨rfl, fun _ => ?_⟩, r.map chOf, ?_, ?_, ?_⟩
  · rw [List.getElem?_map] at hq
    obtain ⟨b, hb, rfl⟩ := Option.map_eq_some_iff.mp hq
    refine EV.ifexp (TR.of (fun _ => rfl) (EV.name (σ := (capS [] σ).set (Str.ofString "dark") (.bool b)) ⟨rfl, .inl rfl⟩ (by decide +kernel) (p := .bool b) (by unfold Sto.set; rw [if_pos rfl]) ⟨b, rfl, ?_⟩))
    cases b with
    | true => exact iteT (EV.c_str ⟨rfl, rfl⟩)
    | false => exact iteF (EV.c_str ⟨rfl, rfl⟩)
  · rw [List.filter_eq_self.mpr (by simp), List.map_map, List.map_map]; rfl
  · have e : (((r.map chOf).map (·.length)).sum : Nat) = r.length := by
      exact chOf_sum r
    rw [e]
    show r.length + (r.map chOf).length * 0 ≤ _
    omega
  rw [join_text]
  refine EX.cons (ES.ret (EV.binop (EV.c_int (EV.call_bi (id := "len") (by walk_at "bi") rfl (h := ?_)))))
  refine EVL.cons (EV.comp (cl := [(Str.ofString "text", L + 1)]) (fun q => isMark r (natOf q)) (fun q => q) ⟨rfl, rfl, (by decide), (fun _ => rfl), Cap.one rfl nn_cell (by decide) nn_cell, (fun C => ⟨rfl, .inl rfl⟩), rfl⟩ ?_)
  refine EV.call_ty (T := "range") (by walk_at "bi") rfl (h := ?_)
  refine EVL.cons (EV.binop (EV.call_bi (id := "len") (by walk_at "bi") rfl (h := ?_)))
  refine EVL.cons ?_
  walk_at "nm"
  refine EVL.nil (CALL.len (by rw [hlen, sizeLine_eq]; omega) (EV.c_int (BIN.sub (EVL.nil (CALL.range1 ?_)))))
  rw [hlen]
  have hn : rlen 0 ((r.length : Int) - 10) = ((r.length - 10 : Nat) : Int) := by unfold rlen; split <;> omega
  have hri : rangeItems 0 ((r.length : Int) - 10) = (List.range (r.length - 10)).map fun i => PV.int (i : Nat) := by
    unfold rangeItems
    rw [hn, Int.toNat_natCast]
    refine List.map_congr_left fun i _ => ?_
    rw [Int.zero_add]
  refine ⟨rangeItems 0 ((r.length : Int) - 10), ITER.range R.h (by omega) (by omega), by rw [hri, List.length_map, List.length_range, sizeLine_eq]; omega, fun C i q m' hq hm' => ?_, EVL.nil (CALL.len ?_ ?_)⟩
  · rw [hri, List.getElem?_map] at hq
    obtain ⟨j, hj, rfl⟩ := Option.map_eq_some_iff.mp hq
    have hjl : j < r.length - 10 := by
      have := List.mem_of_getElem? hj
      simpa using this
    refine ⟨?_, fun _ => ?_⟩
    · have q1 : ((capS [(Str.ofString "text", L + 1)] (σ.set (Str.ofString "text") (.str (textOf r)))).set (Str.ofString "k") (.int j)) (Str.ofString "text") = some (.str (textOf r)) := by
        rw [Sto.set_ne (by decide), capS_one]; unfold Sto.set; rw [if_pos rfl]
      have q2 : ((capS [(Str.ofString "text", L + 1)] (σ.set (Str.ofString "text") (.str (textOf r)))).set (Str.ofString "k") (.int j)) (Str.ofString "k") = some (.int j) := by unfold Sto.set; rw [if_pos rfl]
      refine TR.cmp rfl (EV.slice_str (fun _ _ => rfl) (EV.name ⟨rfl, .inr ⟨rfl, rfl⟩⟩ (by decide +kernel) q1 (EV.name ⟨rfl, .inl rfl⟩ (by decide +kernel) q2 (EV.binop (EV.name ⟨rfl, .inl rfl⟩ (by decide +kernel) q2 (EV.c_int (BIN.add ⟨textOf r, j, j + 11, rfl, rfl, by push_cast; rfl, by omega, by rw [textOf_length]; omega, by rw [textOf_length, sizeLine_eq]; omega, ?_⟩)))))))
      refine EV.tuple (EVL.cons (EV.c_str (EVL.cons (EV.c_str (EVL.nil (SEQ.tup ?_ (show 2 ≤ sizeLine by rw [sizeLine_eq]; decide)))))))
      exact CMP.in_strs (ys := [pa1, pa2]) ⟨_, rfl, rfl, rfl⟩
    · exact EV.name ⟨rfl, .inl rfl⟩ (by decide +kernel) (p := .int j) (by unfold Sto.set; rw [if_pos rfl]) ⟨rfl, rfl⟩
  · rw [List.length_map, hri]
    refine Nat.le_trans (List.length_filter_le _ _) ?_
    rw [List.length_map, List.length_range, sizeLine_eq]; omega
  · refine BIN.mul (.of_left (by decide)) ?_
    have e : ((((rangeItems 0 ((r.length : Int) - 10)).filter fun q => isMark r (natOf q)).map fun q => q).length : Int) = (((List.range (r.length - 10)).filter (isMark r)).length : Int) := by
      rw [List.length_map, hri, List.filter_map, List.length_map]; rfl
    rw [e]
    exact hQ
end Mine
namespace Mine
section
variable {g : G} {A : Around} {env : Env} {σ : Sto} {mu : Mu}
theorem EV.neg {x : Expr} {pos : Pos} {Q : PV → Mu → Prop} (h : EV g A env σ mu x (fun p m => ∃ i, p = .int i ∧ Q (.int (-i)) m)) : EV g A env σ mu (.UnaryOp .USub x pos) Q := fun H s I => by
  refine PySem.wpAny_UnaryOp (wpAny_mono (h H s I) (fun v s₁ h₁ => ?_) fun _ _ x => x)
  obtain ⟨H1, m1, p, l1, I1, ⟨t, rfl⟩, i, rfl, hq⟩ : ∃ H1 m1 p, Fz.le H H1 ∧ Inv g env σ m1 H1 s₁ ∧ (∃ t, v = .int p t) ∧ ∃ i, p = i ∧ Q (.int (-i)) m1 := by
    obtain ⟨H1, m1, p, l1, I1, R1, i, rfl, hq⟩ := h₁
    exact ⟨H1, m1, i, l1, I1, R1, i, rfl, hq⟩
  exact PyProof.Rows.neg_int ⟨H1, m1, .int (-p), l1, I1.tok _, ⟨_, rfl⟩, hq⟩

/-- a call of _law_next -/
theorem EV.next {f e : Expr} {x : Str} {px pos : Pos} {S : Addr} {xs : List Int} {i : Nat} {s many : Int} {Q : PV → Mu → Prop} (T : Tops g) (R : Room A 2) (hN : NAME g env f (.ref T.a7)) (ox : Own env x) (dx : (x == ("__debug__" : Str)) = false) (hσ : σ x = some (.ref S))
    (hx : xs.length ≤ 100) (hi : i ≤ xs.length) (hm : mu S = some (stPV xs i s)) (h0 : 0 < many) (h1 : many < 1073741824) (he : ∀ Q' : PV → Mu → Prop, Q' (.int many) mu → EV g A env σ mu e Q')
    (h : ∀ (r : Int) (i' : Nat) (s' : Int), 0 ≤ r → r < many → i' ≤ xs.length → Q (.int r) (mu.set S (stPV xs i' s')))
    (hev : eval (.Call f [.Name x px, e] [] pos) env = (do callWith pos (← eval f env) [] (backTo pos (starEach [.Name x px, e] env)) (backToKw pos (keywordEach [] env))) := by rfl)
    (hs2 : starEach [e] env = (false, eval e env) :: starEach [] env := by rfl) : EV g A env σ mu (.Call f [.Name x px, e] [] pos) Q := by
  obtain ⟨o7, pm7, cd7, doc7, g7, f7, c7⟩ := T.f7.ex
  refine EV.call_fn (b := T.a7) hN g7 f7 hev (h := ?_)
  refine EVL.cons (EV.name ox dx hσ (EVL.cons (he _ (EVL.nil (CALL.at [(Str.ofString "state"), (Str.ofString "many")] R T.f7 (fun pm cd doc vs hv => ?_) (by decide) rfl rfl rfl fun L cd A' R' => ?_))) hs2))
  · obtain ⟨v, w, rfl⟩ := len2 hv; rfl
  · exact lawNext T R' hx hi h0 h1 hm h
end
local macro_rules | `(tactic| walk_at "own") => `(tactic| with_reducible assumption)
local macro_rules | `(tactic| walk_at "dbg") => `(tactic| with_reducible assumption)
local macro_rules | `(tactic| walk_at "sto") => `(tactic| first | (simp only [Sto.set_eq, ne_8, ↓reduceIte, *]; done) | (simp only [Sto.set_eq, ne_8, ↓reduceIte, *]; rfl))
local macro_rules | `(tactic| walk_at "nm") => `(tactic| (refine' EV.name ?o ?d ?s ?_; (case o => walk_at "own"); (case d => walk_at "dbg"); (case s => walk_at "sto")))
local macro_rules | `(tactic| walk_at "bi") => `(tactic| exact nmBi rfl rfl rfl rfl (by decide +kernel) (by with_reducible assumption) (by decide +kernel) (by decide +kernel))
local macro_rules | `(tactic| walk_at "gl") => `(tactic| exact nmGl rfl rfl rfl (by decide +kernel) (by with_reducible assumption))

/-- the columns -/
def tr (M : List (List Bool)) (n : Nat) : List (List Bool) := (List.range n).map fun k => M.map fun row => row.getD k false
theorem tr_sq {M : List (List Bool)} {n : Nat} (h : M.length = n) : Sq (tr M n) n := ⟨by simp [tr], fun r hr => by
  unfold tr at hr
  obtain ⟨k, _, rfl⟩ := List.mem_map.mp hr
  rw [List.length_map, h]⟩
def intOf : PV → Int
  | .int j => j
  | _ => 0
set_option maxRecDepth 100000 in
set_option maxHeartbeats 2000000 in
theorem lawSquare {g : G} {A : Around} {L a : Addr} {cd : Value} {mu : Mu} {S : Addr} {xs : List Int} {i0 : Nat} {s0 : Int} {Q : PV → Mu → Prop} (T : Tops g) (R : Room A 3) (hx : xs.length ≤ 100) (hi : i0 ≤ xs.length)
    (hm : mu S = some (stPV xs i0 s0)) (hQ : ∀ (M : List (List Bool)) (n : Nat) (i' : Nat) (s' : Int), 2 ≤ n → n ≤ 13 → Sq M n → Q (matPV M) (mu.set S (stPV xs i' s'))) :
    EX g A (fEnv 8 L a cd) (bindS [(Str.ofString "state")] [.ref S] fun _ => none) mu (fnBody 8) (Ret Q) := by
  obtain ⟨o1, o2, o3, o4, o5, o6, o7, o8, o9⟩ := own_8 L a cd
  obtain ⟨d1, d2, d3, d4, d5, d6, d7, d8, d9⟩ := dbg_8
  have b1 := T.range
  have b2 := T.n7
  have R2 : Room A 2 := R.le (by decide)
  have s1 : (bindS [(Str.ofString "state")] [.ref S] fun _ => none) (Str.ofString "state") = some (.ref S) := by simp only [bindS, Sto.set_eq, ↓reduceIte]
  generalize (bindS [(Str.ofString "state")] [.ref S] fun _ => none) = σ at s1
  refine EX.cons (ES.assign o2 (EV.sub (EV.list ?_)))
  refine EVL.cons (EV.c_int (EVL.cons (EV.c_int (EVL.cons (EV.c_int (EVL.cons (EV.binop (EV.c_int ?_))))))))
  refine EV.next (many := 9) T R2 (by walk_at "gl") o1 d1 (by walk_at "sto") hx hi hm (by decide) (by decide) (fun Q' hq => EV.c_int hq) fun r1 i1 z1 hr1 hr1' hi1 => ?_
  refine BIN.add (EVL.cons (EV.binop (EV.c_int ?_)))
  refine EV.next (many := 6) T R2 (by walk_at "gl") o1 d1 (by walk_at "sto") hx hi1 Mu.set_self (by decide) (by decide) (fun Q' hq => EV.c_int hq) fun r2 i2 z2 hr2 hr2' hi2 => ?_
  rw [Mu.set_set]
  refine BIN.add (EVL.nil (SEQ.list ?_ (show 5 ≤ sizeLine by rw [sizeLine_eq]; decide)))
  refine EV.next (many := 5) T R2 (by walk_at "gl") o1 d1 (by walk_at "sto") hx hi2 Mu.set_self (by decide) (by decide) (fun Q' hq => EV.c_int hq) fun r3 i3 z3 hr3 hr3' hi3 => ?_
  rw [Mu.set_set]
  obtain ⟨side, hside, h2, h13⟩ : ∃ side : Nat, [PV.int 13, .int 11, .int 12, .int (5 + r1), .int (2 + r2)][r3.toNat]? = some (.int side) ∧ 2 ≤ side ∧ side ≤ 13 := by
    have : r3 = 0 ∨ r3 = 1 ∨ r3 = 2 ∨ r3 = 3 ∨ r3 = 4 := by omega
    rcases this with rfl | rfl | rfl | rfl | rfl
    · exact ⟨13, rfl, by decide, by decide⟩
    · exact ⟨11, rfl, by decide, by decide⟩
    · exact ⟨12, rfl, by decide, by decide⟩
    · exact ⟨(5 + r1).toNat, by rw [Int.toNat_of_nonneg (by omega)]; rfl, by omega, by omega⟩
    · exact ⟨(2 + r2).toNat, by rw [Int.toNat_of_nonneg (by omega)]; rfl, by omega, by omega⟩
  refine SUBS.list (fun _ _ => rfl) hr3 (by omega) hside ?_
  clear hside hr1 hr1' hr2 hr2' hr3 hr3'
  refine EX.cons (ES.assign o3 (EV.list (EVL.nil (SEQ.list ?_ (by decide)))))
  have hrl : rlen 0 (side : Int) = side := by unfold rlen; split <;> omega
  refine EX.cons (ES.for_range (fun k σ m => ∃ (i : Nat) (z : Int) (ls : List (List Bool)), m = mu.set S (stPV xs i z) ∧ i ≤ xs.length ∧ σ (Str.ofString "state") = some (.ref S) ∧ σ (Str.ofString "side") = some (.int side) ∧
    σ (Str.ofString "lines") = some (matPV ls) ∧ ls.length = k ∧ ∀ r ∈ ls, r.length = side) R.h rfl rfl (fun _ => rfl) ?_)
  refine EV.call_ty (T := "range") (by walk_at "bi") rfl (h := ?_)
  refine EVL.cons ?_
  walk_at "nm"
  refine EVL.nil (CALL.range1 ?_)
  refine ⟨0, side, rfl, by omega, by omega, ⟨i3, z3, [], rfl, hi3, by walk_at "sto", by walk_at "sto", by walk_at "sto", rfl, fun r h => by cases h⟩, ?_, ?_⟩
  · clear s1 hm hi hi1 hi2 hi3
    rintro k σ' m' hk ⟨i, z, ls, rfl, hi, q1, q2, q3, hls, hrows⟩
    have hk' : k < side := by rw [hrl] at hk; omega
    refine EX.cons (ES.assign2 R.h o5 o6 (EV.tuple (EVL.cons ?_)) rfl rfl)
    refine EV.next (many := 7) T R2 (by walk_at "gl") o1 d1 (by walk_at "sto") hx hi Mu.set_self (by decide) (by decide) (fun Q' hq => EV.c_int hq) fun way i1 z1 hw0 hw7 hi1 => ?_
    rw [Mu.set_set]
    refine EVL.cons ?_
    refine EV.next (many := 8192) T R2 (by walk_at "gl") o1 d1 (by walk_at "sto") hx hi1 Mu.set_self (by decide) (by decide) (fun Q' hq => EV.binop (EV.c_int (EV.c_int (BIN.pow (by decide) (by decide) (by decide) hq)))) fun fig i2 z2 hf0 hf8 hi2 => ?_
    rw [Mu.set_set]
    refine EVL.nil (SEQ.tup ⟨_, _, rfl, ?_⟩ (show 2 ≤ sizeLine by rw [sizeLine_eq]; decide))
    clear hi hi1
    have f1 : (((σ'.set (Str.ofString "_") (.int (0 + (k : Nat)))).set (Str.ofString "way") (.int way)).set (Str.ofString "figure") (.int fig)) (Str.ofString "state") = some (.ref S) := by walk_at "sto"
    have f2 : (((σ'.set (Str.ofString "_") (.int (0 + (k : Nat)))).set (Str.ofString "way") (.int way)).set (Str.ofString "figure") (.int fig)) (Str.ofString "side") = some (.int side) := by walk_at "sto"
    have f3 : (((σ'.set (Str.ofString "_") (.int (0 + (k : Nat)))).set (Str.ofString "way") (.int way)).set (Str.ofString "figure") (.int fig)) (Str.ofString "lines") = some (matPV ls) := by walk_at "sto"
    have f4 : (((σ'.set (Str.ofString "_") (.int (0 + (k : Nat)))).set (Str.ofString "way") (.int way)).set (Str.ofString "figure") (.int fig)) (Str.ofString "way") = some (.int way) := by simp only [Sto.set_eq, ne_8, ↓reduceIte]
    have f5 : (((σ'.set (Str.ofString "_") (.int (0 + (k : Nat)))).set (Str.ofString "way") (.int way)).set (Str.ofString "figure") (.int fig)) (Str.ofString "figure") = some (.int fig) := by simp only [Sto.set_eq, ne_8, ↓reduceIte]
    clear q1 q2 q3
    generalize (((σ'.set (Str.ofString "_") (.int (0 + (k : Nat)))).set (Str.ofString "way") (.int way)).set (Str.ofString "figure") (.int fig)) = σ1 at f1 f2 f3 f4 f5
    generalize hmm : mu.set S (stPV xs i2 z2) = m
    have stored : ∀ r : List Bool, (σ1.set (Str.ofString "line") (rowPV r)) (Str.ofString "line") = some (rowPV r) := fun r => by simp only [Sto.set_eq, ↓reduceIte]
    have others : ∀ (p : PV) y, y ≠ (Str.ofString "line") → (σ1.set (Str.ofString "line") p) y = σ1 y := fun p y hy => by unfold Sto.set; rw [if_neg hy]
    refine EX.cons (ES.mono (Q := fun fl σ2 m2 => fl = .next ∧ m2 = m ∧ ∃ r : List Bool, r.length = side ∧ σ2 (Str.ofString "line") = some (rowPV r) ∧ ∀ y, y ≠ (Str.ofString "line") → σ2 y = σ1 y) ?_ ?_)
    · refine ES.if (TR.mono (Q := fun b m' => m' = m ∧ (b = true → ls ≠ [])) (TR.boolop (ALT.and (TR.cmp rfl ?_))) ?_)
      · walk_at "nm"
        refine EV.c_int (CMP.eq_int ⟨_, rfl, ?_⟩)
        cases (way == 1) with
        | false => exact iteF ⟨rfl, fun h => by cases h⟩
        | true =>
          refine iteT (ALT.and (TR.cmp rfl ?_))
          walk_at "nm"
          refine EV.list (EVL.nil (SEQ.list (CMP.ne_nil (by have := R.u; omega) ⟨_, rfl, ?_⟩) (by decide)))
          cases ls with
          | nil => exact iteF ⟨rfl, fun h => by cases h⟩
          | cons l ls => exact iteT (ALT.nil ⟨rfl, fun _ h => by cases h⟩)
      · rintro b m' ⟨rfl, hb⟩
        cases b with
        | true =>
          refine iteT (EX.cons (ES.assign o7 (EV.sub ?_)))
          walk_at "nm"
          have hne := hb rfl
          have hpos : 0 < ls.length := List.length_pos_iff.mpr hne
          have hlast : (ls.map rowPV)[((-1 : Int) + ((ls.map rowPV).length : Nat)).toNat]? = some (rowPV (ls.getLast hne)) := by
            have e : ((-1 : Int) + ((ls.map rowPV).length : Nat)).toNat = ls.length - 1 := by rw [List.length_map]; omega
            rw [e, List.getElem?_map, List.getLast_eq_getElem, List.getElem?_eq_getElem (by omega)]; rfl
          refine EV.neg (EV.c_int ⟨1, rfl, SUBS.listneg (fun _ _ => rfl) (by decide) (by rw [List.length_map]; omega) (by decide) hlast ?_⟩)
          exact EX.nil ⟨rfl, rfl, ls.getLast hne, hrows _ (List.getLast_mem hne), stored _, others _⟩
        | false =>
          refine iteF (EX.cons (ES.if (TR.cmp rfl ?_)))
          walk_at "nm"
          refine EV.c_int (CMP.eq_int ⟨_, rfl, ?_⟩)
          cases (way == 2) with
          | true =>
            refine iteT (EX.cons (ES.assign o7 (EV.binop (EV.list (EVL.cons (EV.cmp rfl (EV.binop ?_)))))))
            walk_at "nm"
            refine EV.c_int (BIN.mod (by decide) (EV.c_int (CMP.eq_int (EVL.nil (SEQ.list ?_ (show 1 ≤ sizeLine by rw [sizeLine_eq]; decide))))))
            walk_at "nm"
            refine BIN.rep (by omega) (by omega) ?_
            rw [Int.toNat_natCast]
            refine EX.nil (EX.nil ⟨rfl, rfl, List.replicate side (fig.fmod 2 == 1), by simp, ?_, others _⟩)
            rw [← stored]
            simp only [rowPV, List.map_replicate]
          | false =>
            refine iteF (EX.cons (ES.if (TR.cmp rfl ?_)))
            walk_at "nm"
            refine EV.c_int (CMP.eq_int ⟨_, rfl, ?_⟩)
            have hri : rangeItems 0 (side : Int) = (List.range side).map fun i => PV.int (i : Nat) := by
              unfold rangeItems
              rw [hrl, Int.toNat_natCast]
              exact List.map_congr_left fun i _ => by rw [Int.zero_add]
            cases (way == 3) with
            | true =>
              refine iteT ?_
              refine EX.cons (ES.assign_comp (cl := [(Str.ofString "figure", L + 2)]) (fun _ => true) (fun q => .bool (((intOf q + fig).fdiv 2).fmod 2 == 1)) o7 rfl ⟨rfl, rfl, (by decide), (fun _ => rfl), Cap.one rfl nn_cell (by decide) nn_cell, (fun C => ⟨rfl, .inl rfl⟩), rfl⟩ ?_)
              refine EV.call_ty (T := "range") (by walk_at "bi") rfl (h := ?_)
              refine EVL.cons ?_
              walk_at "nm"
              refine EVL.nil (CALL.range1 ⟨rangeItems 0 side, ITER.range R.h (by omega) (by omega), by rw [hri, List.length_map, List.length_range, sizeLine_eq]; omega, fun C i q m' hq hm' => ⟨rfl, fun _ => ?_⟩, ?_⟩)
              · rw [hri, List.getElem?_map] at hq
                obtain ⟨j, hj, rfl⟩ := Option.map_eq_some_iff.mp hq
                have hjl : j < side := by
                  have := List.mem_of_getElem? hj
                  simpa using this
                have q1 : ((capS [(Str.ofString "figure", L + 2)] σ1).set (Str.ofString "k") (.int j)) (Str.ofString "figure") = some (.int fig) := by
                  rw [Sto.set_ne (by decide), capS_one]; exact f5
                have q2 : ((capS [(Str.ofString "figure", L + 2)] σ1).set (Str.ofString "k") (.int j)) (Str.ofString "k") = some (.int j) := by unfold Sto.set; rw [if_pos rfl]
                exact EV.cmp rfl (EV.binop (EV.binop (EV.binop (EV.name ⟨rfl, .inl rfl⟩ (by decide +kernel) q2 (EV.name ⟨rfl, .inr ⟨rfl, rfl⟩⟩ (by decide +kernel) q1 (BIN.add (EV.c_int (BIN.div (by decide) (PyProof.noPylong_small (by decide)) (EV.c_int (BIN.mod (by decide) (EV.c_int (CMP.eq_int ⟨rfl, rfl⟩))))))))))))
              · refine EX.nil (EX.nil (EX.nil ⟨rfl, rfl, (List.range side).map fun j => (fun q => ((intOf q + fig).fdiv 2).fmod 2 == 1) (.int (j : Nat)), by simp, ?_, others _⟩))
                rw [← stored, List.filter_eq_self.mpr (by simp), hri, List.map_map, rowPV, List.map_map]; rfl
            | false =>
              refine iteF ?_
              refine EX.cons (ES.assign_comp (cl := [(Str.ofString "figure", L + 2)]) (fun _ => true) (fun q => .bool ((fig.fdiv (2 ^ (intOf q).toNat)).fmod 2 == 1)) o7 rfl ⟨rfl, rfl, (by decide), (fun _ => rfl), Cap.one rfl nn_cell (by decide) nn_cell, (fun C => ⟨rfl, .inl rfl⟩), rfl⟩ ?_)
              refine EV.call_ty (T := "range") (by walk_at "bi") rfl (h := ?_)
              refine EVL.cons ?_
              walk_at "nm"
              refine EVL.nil (CALL.range1 ⟨rangeItems 0 side, ITER.range R.h (by omega) (by omega), by rw [hri, List.length_map, List.length_range, sizeLine_eq]; omega, fun C i q m' hq hm' => ⟨rfl, fun _ => ?_⟩, ?_⟩)
              · rw [hri, List.getElem?_map] at hq
                obtain ⟨j, hj, rfl⟩ := Option.map_eq_some_iff.mp hq
                have hjl : j < side := by
                  have := List.mem_of_getElem? hj
                  simpa using this
                have q1 : ((capS [(Str.ofString "figure", L + 2)] σ1).set (Str.ofString "k") (.int j)) (Str.ofString "figure") = some (.int fig) := by
                  rw [Sto.set_ne (by decide), capS_one]; exact f5
                have q2 : ((capS [(Str.ofString "figure", L + 2)] σ1).set (Str.ofString "k") (.int j)) (Str.ofString "k") = some (.int j) := by unfold Sto.set; rw [if_pos rfl]
                have hp2 : (2 : Int) ^ ((j : Nat) : Int).toNat = ((2 ^ j : Nat) : Int) := by rw [Int.toNat_natCast]; push_cast; rfl
                have hp3 : 2 ^ j ≤ 2 ^ 13 := Nat.pow_le_pow_right (by decide) (by omega)
                have hp4 : 0 < 2 ^ j := Nat.pos_of_ne_zero (by simp)
                exact EV.cmp rfl (EV.binop (EV.binop (EV.name ⟨rfl, .inr ⟨rfl, rfl⟩⟩ (by decide +kernel) q1 (EV.binop (EV.c_int (EV.name ⟨rfl, .inl rfl⟩ (by decide +kernel) q2 (BIN.pow (by omega) (by omega) (by decide) (BIN.div (by rw [hp2]; omega) (PyProof.noPylong_small (by rw [hp2]; omega)) (EV.c_int (BIN.mod (by decide) (EV.c_int (CMP.eq_int ⟨rfl, rfl⟩))))))))))))
              · refine EX.nil (EX.nil (EX.nil ⟨rfl, rfl, (List.range side).map fun j => (fun q => (fig.fdiv (2 ^ (intOf q).toNat)).fmod 2 == 1) (.int (j : Nat)), by simp, ?_, others _⟩))
                rw [← stored, List.filter_eq_self.mpr (by simp), hri, List.map_map, rowPV, List.map_map]; rfl
    · rintro fl σ2 m2 ⟨rfl, rfl, r, hr, g1, g2⟩
      have h1 : σ2 (Str.ofString "state") = some (.ref S) := by rw [g2 _ (by simp only [ne_8, ne_eq, not_false_eq_true])]; exact f1
      have h2' : σ2 (Str.ofString "side") = some (.int side) := by rw [g2 _ (by simp only [ne_8, ne_eq, not_false_eq_true])]; exact f2
      have h3 : σ2 (Str.ofString "lines") = some (matPV ls) := by rw [g2 _ (by simp only [ne_8, ne_eq, not_false_eq_true])]; exact f3
      have h4 : σ2 (Str.ofString "way") = some (.int way) := by rw [g2 _ (by simp only [ne_8, ne_eq, not_false_eq_true])]; exact f4
      have h5 : σ2 (Str.ofString "figure") = some (.int fig) := by rw [g2 _ (by simp only [ne_8, ne_eq, not_false_eq_true])]; exact f5
      clear f1 f2 f3 f4 f5 g2 stored others
      refine EX.cons (ES.mono (Q := fun fl σ3 m3 => fl = .next ∧ m3 = m2 ∧ ∃ r : List Bool, r.length = side ∧ σ3 (Str.ofString "line") = some (rowPV r) ∧ ∀ y, y ≠ (Str.ofString "line") → y ≠ (Str.ofString "at") → y ≠ (Str.ofString "mark") → σ3 y = σ2 y) ?_ ?_)
      · refine ES.if (TR.mono (Q := fun b m' => m' = m2 ∧ (b = true → 10 < side)) (TR.boolop (ALT.and (TR.cmp rfl ?_))) ?_)
        · walk_at "nm"
          refine EV.c_int (CMP.gt_int ⟨_, rfl, ?_⟩)
          cases (decide (4 < way)) with
          | false => exact iteF ⟨rfl, fun h => by cases h⟩
          | true =>
            refine iteT (ALT.and (TR.cmp rfl ?_))
            walk_at "nm"
            refine EV.c_int (CMP.gt_int ⟨_, rfl, ?_⟩)
            cases hd : (decide ((10 : Int) < (side : Int))) with
            | false => exact iteF ⟨rfl, fun h => by cases h⟩
            | true => exact iteT (ALT.nil ⟨rfl, fun _ => by have := of_decide_eq_true hd; omega⟩)
        · rintro b m' ⟨rfl, hb⟩
          cases b with
          | false => exact iteF (EX.nil ⟨rfl, rfl, r, hr, g1, fun _ _ _ _ => rfl⟩)
          | true =>
            have hs10 := hb rfl
            refine iteT (EX.cons (ES.assign o8 (EV.binop (EV.binop ?_))))
            walk_at "nm"
            refine EV.c_int (BIN.div (by decide) (PyProof.noPylong_small (by decide)) (EV.binop ?_))
            walk_at "nm"
            refine EV.c_int (BIN.sub (BIN.mod (by omega) ?_))
            obtain ⟨at', hat, hat2⟩ : ∃ n : Nat, (fig.fdiv 16).fmod ((side : Int) - 10) = n ∧ n < side - 10 := by
              have e1 := Int.fmod_nonneg_of_pos (fig.fdiv 16) (b := (side : Int) - 10) (by omega)
              have e2 := Int.fmod_lt_of_pos (fig.fdiv 16) (b := (side : Int) - 10) (by omega)
              exact ⟨((fig.fdiv 16).fmod ((side : Int) - 10)).toNat, by omega, by omega⟩
            rw [hat]
            clear hat
            refine EX.cons (ES.assign o9 (EV.mono (Q := fun p m'' => m'' = m' ∧ ∃ mk : Str, mk.length = 11 ∧ p = .str mk) (EV.ifexp (TR.cmp rfl ?_)) ?_))
            · walk_at "nm"
              refine EV.c_int (CMP.eq_int ⟨_, rfl, ?_⟩)
              cases (way == 5) with
              | true => exact iteT (EV.c_str ⟨rfl, pa1, rfl, rfl⟩)
              | false => exact iteF (EV.c_str ⟨rfl, pa2, rfl, rfl⟩)
            · rintro p m'' ⟨rfl, mk, hmk, rfl⟩
              have hlen : (r.map PV.bool).length = side := by rw [List.length_map, hr]
              have hsl : (strItems mk).length = 11 := by unfold strItems; rw [List.length_map]; exact hmk
              refine EX.cons (ES.assign o7 (EV.binop (EV.binop (EV.slice (fun _ _ => rfl) ?_))))
              walk_at "nm"
              show EV _ _ _ _ _ _ _
              refine EV.name o8 d8 (by simp only [Sto.set_eq, ne_8, ↓reduceIte]) ⟨at', rfl, r.map .bool, rfl, by rw [hlen, sizeLine_eq]; omega, .inl rfl, ?_⟩
              refine EV.comp (cl := []) (fun _ => true) (fun q => .bool (match q with | .str s => s == Str.ofString "1" | _ => false)) ⟨rfl, rfl, (by decide), (fun _ => rfl), Cap.nil, (fun C => ⟨rfl, .inl rfl⟩), rfl⟩ ?_
              refine EV.name o9 d9 (p := .str mk) (by simp only [Sto.set_eq, ↓reduceIte]) ?_
              refine ⟨strItems mk, ITER.str R.h, by rw [hsl, sizeLine_eq]; decide, fun C i q m' hq hm' => ⟨rfl, fun _ => ?_⟩, ?_⟩
              · unfold strItems at hq
                rw [List.getElem?_map] at hq
                obtain ⟨c, hc, rfl⟩ := Option.map_eq_some_iff.mp hq
                exact EV.cmp rfl (EV.name ⟨rfl, .inl rfl⟩ (by decide +kernel) (p := .str ⟨#[c]⟩) (by unfold Sto.set; rw [if_pos rfl]) (EV.c_str (CMP.eq_str ⟨rfl, rfl⟩)))
              · rw [List.filter_eq_self.mpr (by simp)]
                have hml : ((strItems mk).map fun q => PV.bool (match q with | .str s => s == Str.ofString "1" | _ => false)).length = 11 := by rw [List.length_map, hsl]
                have hcut : (cutL (r.map PV.bool) none (some at')).length = at' := by unfold cutL; rw [List.length_take, hlen]; omega
                refine BIN.cat (by rw [hcut, hml, sizeLine_eq]; omega) (EV.slice (fun _ _ => rfl) ?_)
                walk_at "nm"
                show EV _ _ _ _ _ _ _
                refine EV.binop (EV.name o8 d8 (p := .int at') (by simp only [Sto.set_eq, ne_8, ↓reduceIte]) (EV.c_int (BIN.add ⟨at' + 11, rfl, ?_⟩)))
                have hcut2 : (cutL (r.map PV.bool) (some (at' + 11)) none).length = side - (at' + 11) := by unfold cutL; rw [List.length_drop, hlen]
                refine ⟨r.map .bool, rfl, by rw [hlen, sizeLine_eq]; omega, .inr rfl, BIN.cat (by rw [List.length_append, hcut, hml, hcut2, sizeLine_eq]; omega) ?_⟩
                refine EX.nil ⟨rfl, rfl, r.take at' ++ ((strItems mk).map fun q => (match q with | .str s => s == Str.ofString "1" | _ => false)) ++ r.drop (at' + 11), ?_, ?_, ?_⟩
                · rw [List.length_append, List.length_append, List.length_take, List.length_map, List.length_drop, hsl, hr]; omega
                · simp only [Sto.set_eq, ↓reduceIte, rowPV, List.map_append, List.map_map, List.map_take, List.map_drop, cutL]; rfl
                · intro y y1 y2 y3
                  unfold Sto.set; rw [if_neg y1, if_neg y3, if_neg y2]
      · rintro fl σ3 m3 ⟨rfl, rfl, r, hr, g1, g2⟩
        have k1 : σ3 (Str.ofString "state") = some (.ref S) := by rw [g2 _ (by simp only [ne_8, ne_eq, not_false_eq_true]) (by simp only [ne_8, ne_eq, not_false_eq_true]) (by simp only [ne_8, ne_eq, not_false_eq_true])]; exact h1
        have k2 : σ3 (Str.ofString "side") = some (.int side) := by rw [g2 _ (by simp only [ne_8, ne_eq, not_false_eq_true]) (by simp only [ne_8, ne_eq, not_false_eq_true]) (by simp only [ne_8, ne_eq, not_false_eq_true])]; exact h2'
        have k3 : σ3 (Str.ofString "lines") = some (matPV ls) := by rw [g2 _ (by simp only [ne_8, ne_eq, not_false_eq_true]) (by simp only [ne_8, ne_eq, not_false_eq_true]) (by simp only [ne_8, ne_eq, not_false_eq_true])]; exact h3
        clear h1 h2' h3 h4 h5 g2
        refine EX.cons (ES.assign o3 (EV.binop ?_))
        walk_at "nm"
        refine EV.list (EVL.cons ?_)
        walk_at "nm"
        refine EVL.nil (SEQ.list (BIN.cat (by rw [List.length_map, sizeLine_eq]; simp only [List.length_cons, List.length_nil]; omega) ?_) (show 1 ≤ sizeLine by rw [sizeLine_eq]; decide))
        refine EX.nil ⟨i2, z2, ls ++ [r], hmm.symm, hi2, by walk_at "sto", by walk_at "sto", ?_, by simp [hls], ?_⟩
        · simp only [Sto.set_eq, ↓reduceIte, matPV, List.map_append, List.map_cons, List.map_nil]
        · intro q hq
          rcases List.mem_append.mp hq with hq | hq
          · exact hrows q hq
          · rw [List.mem_singleton.mp hq]; exact hr
  · clear s1 hm hi hi1 hi2 hi3
    rintro σ' m' ⟨i, z, ls, rfl, hi, q1, q2, q3, hls, hrows⟩
    rw [hrl, Int.toNat_natCast] at hls
    have hSq : Sq ls side := ⟨hls, hrows⟩
    refine EX.cons (ES.ret (EV.ifexp (TR.cmp rfl ?_)))
    refine EV.next (many := 2) T R2 (by walk_at "gl") o1 d1 (by walk_at "sto") hx hi Mu.set_self (by decide) (by decide) (fun Q' hq => EV.c_int hq) fun way i1 z1 hw0 hw7 hi1 => ?_
    rw [Mu.set_set]
    refine EV.c_int (CMP.eq_int ⟨_, rfl, ?_⟩)
    cases (way == 0) with
    | true =>
      refine iteT ?_
      walk_at "nm"
      exact hQ ls side i1 z1 h2 h13 hSq
    | false =>
      refine iteF ?_
      have hri : rangeItems 0 (side : Int) = (List.range side).map fun i => PV.int (i : Nat) := by
        unfold rangeItems
        rw [hrl, Int.toNat_natCast]
        exact List.map_congr_left fun i _ => by rw [Int.zero_add]
      refine EV.comp (cl := [(Str.ofString "lines", L + 1)]) (fun _ => true) (fun q => .list (ls.map fun row => .bool (row.getD (natOf q) false))) ⟨rfl, rfl, (by decide), (fun _ => rfl), Cap.one rfl nn_cell (by decide) nn_cell, (fun C => ⟨rfl, .inr ⟨rfl, rfl⟩⟩), rfl⟩ ?_
      refine EV.call_ty (T := "range") (by walk_at "bi") rfl (h := ?_)
      refine EVL.cons ?_
      walk_at "nm"
      refine EVL.nil (CALL.range1 ⟨rangeItems 0 side, ITER.range R.h (by omega) (by omega), by rw [hri, List.length_map, List.length_range, sizeLine_eq]; omega, fun C i q m' hq hm' => ⟨rfl, fun _ => ?_⟩, ?_⟩)
      · rw [hri, List.getElem?_map] at hq
        obtain ⟨j, hj, rfl⟩ := Option.map_eq_some_iff.mp hq
        have hjl : j < side := by
          have := List.mem_of_getElem? hj
          simpa using this
        have q4 : ((capS [(Str.ofString "lines", L + 1)] σ').set (Str.ofString "k") (.int j)) (Str.ofString "lines") = some (matPV ls) := by
          rw [Sto.set_ne (by decide), capS_one]; exact q3
        have q5 : ((capS [(Str.ofString "lines", L + 1)] σ').set (Str.ofString "k") (.int j)) (Str.ofString "k") = some (.int j) := by unfold Sto.set; rw [if_pos rfl]
        generalize ((capS [(Str.ofString "lines", L + 1)] σ').set (Str.ofString "k") (.int j)) = σc at q4 q5
        refine EV.comp (cl := [(Str.ofString "k", C + 1)]) (fun _ => true) (fun q => match q with | .list xs => xs.getD j .none | q => q) ⟨rfl, rfl, (by decide), (fun _ => rfl), Cap.one rfl nn_cell (by decide) nn_cell, (fun C => ⟨rfl, .inl rfl⟩), rfl⟩ ?_
        refine EV.name ⟨rfl, .inr ⟨rfl, rfl⟩⟩ (by decide +kernel) q4 ⟨ls.map rowPV, ITER.list R.h, by rw [List.length_map, hls, sizeLine_eq]; omega, fun C2 i q m2 hq2 hm2 => ⟨rfl, fun _ => ?_⟩, ?_, rfl⟩
        · rw [List.getElem?_map] at hq2
          obtain ⟨row, hrow, rfl⟩ := Option.map_eq_some_iff.mp hq2
          have hrl2 := hrows row (List.mem_of_getElem? hrow)
          have q6 : ((capS [(Str.ofString "k", C + 1)] σc).set (Str.ofString "line") (rowPV row)) (Str.ofString "k") = some (.int j) := by
            rw [Sto.set_ne (by decide), capS_one]; exact q5
          have hget : (row.map PV.bool)[j]? = some (.bool (row.getD j false)) := by
            rw [List.getElem?_map, List.getD_eq_getElem?_getD, List.getElem?_eq_getElem (by omega)]; rfl
          refine EV.sub (EV.name ⟨rfl, .inl rfl⟩ (by decide +kernel) (p := rowPV row) (by unfold Sto.set; rw [if_pos rfl]) (EV.name ⟨rfl, .inr ⟨rfl, rfl⟩⟩ (by decide +kernel) q6 (SUBS.at j (fun _ _ => rfl) rfl (by omega) hget ⟨?_, rfl⟩)))
          show PV.bool (row.getD j false) = (row.map PV.bool).getD j .none
          rw [List.getD_eq_getElem?_getD (l := row.map PV.bool), hget]; rfl
        · rw [List.filter_eq_self.mpr (by simp), List.map_map]
          congr 1
          refine List.map_congr_left fun row hrow => ?_
          have hrl2 := hrows row hrow
          show (row.map PV.bool).getD j .none = PV.bool (row.getD j false)
          rw [List.getD_eq_getElem?_getD (l := row.map PV.bool), List.getElem?_map, List.getD_eq_getElem?_getD, List.getElem?_eq_getElem (by omega)]; rfl
      · have e : (PV.list ((((rangeItems 0 (side : Int)).filter fun _ => true)).map fun q => PV.list (ls.map fun row => PV.bool (row.getD (natOf q) false)))) = matPV (tr ls side) := by
          rw [List.filter_eq_self.mpr (by simp), hri, List.map_map]
          unfold tr
          rw [matPV, List.map_map]
          congr 1
          refine List.map_congr_left fun k _ => ?_
          show PV.list (ls.map fun row => PV.bool (row.getD k false)) = PV.list ((ls.map fun row => row.getD k false).map PV.bool)
          rw [List.map_map]; rfl
        rw [e]
        exact hQ _ side i1 z1 h2 h13 (tr_sq hls)
end Mine
namespace Mine
theorem compTurn_two0 (elt t1 i1 t2 i2 : Expr) (ifs : List Expr) (scope : Scope) (pos : Pos) (it acc : Value) (env : Env) :
    compTurn (.ListComp elt [⟨t1, i1, [], 0⟩, ⟨t2, i2, ifs, 0⟩] scope pos) 0 it acc env = (do
      standAt i1.pos
      match ← pyNext it with
      | none => pure (.done .next)
      | some v =>
        letOwnedTupleGo t1 it v
        PySem.assign t1 env v
        let x ← eval i2 env
        standAt i2.pos
        let x ← foldedSetIterable i2 env x
        let i ← holding [x] (pyIter x)
        let _ ← runOwn (.compStart (.ListComp elt [⟨t1, i1, [], 0⟩, ⟨t2, i2, ifs, 0⟩] scope pos) 1 i acc env) env
        again (.compLoop (.ListComp elt [⟨t1, i1, [], 0⟩, ⟨t2, i2, ifs, 0⟩] scope pos) 0 it acc env)) := by rfl
theorem compTurn_two1 (elt t1 i1 t2 i2 : Expr) (ifs : List Expr) (scope : Scope) (pos : Pos) (it acc : Value) (env : Env) :
    compTurn (.ListComp elt [⟨t1, i1, [], 0⟩, ⟨t2, i2, ifs, 0⟩] scope pos) 1 it acc env = (do
      standAt i2.pos
      match ← pyNext it with
      | none => pure (.done .next)
      | some v =>
        letOwnedTupleGo t2 it v
        PySem.assign t2 env v
        let mut ok := true
        for c in ifs do
          if ok then ok ← isTrue c env (eval c env)
        if ok then
          (do let _ ← call (.builtin "list.append") [acc, ← eval elt env])
        again (.compLoop (.ListComp elt [⟨t1, i1, [], 0⟩, ⟨t2, i2, ifs, 0⟩] scope pos) 1 it acc env)) := by rfl

section
variable {g : G} {A : Around} {env : Env} {σ : Sto} {mu : Mu} {R : Result → Shared → Prop} {s : Shared}
theorem nb {α : Type} {t : Sem α} {K : α → Shared → Prop} {s : Shared} {E' : Value → Shared → Prop} (h : wpAny g.M A t K NoE s) : wpAny g.M A t K E' s := wpAny_mono h (fun _ _ x => x) fun _ _ f => f.elim

theorem loop_two1 {elt t1 i1 t2 i2 : Expr} {ifs : List Expr} {scope : Scope} {pos : Pos} {it acc : Value} (I : Nat → Shared → Prop)
    (turn : ∀ n s, I n s → wpAny g.M A (pyNext it) (fun r s₁ => match r with
      | none => R (.ok .next) s₁
      | some v => wpAny g.M A (PySem.assign t2 env v) (fun _ s₂ =>
          wpAny g.M A (forIn ifs true fun c r => if r = true then do let ok ← isTrue c env (eval c env); pure (ForInStep.yield ok) else pure (ForInStep.yield r)) (fun ok s₃ =>
            if ok = true then wpAny g.M A (eval elt env) (fun x s₄ =>
              wpAny g.M A (call (.builtin "list.append") [acc, x]) (fun _ s₅ => ∃ m, m < n ∧ I m s₅) NoE s₄) NoE s₃
            else ∃ m, m < n ∧ I m s₃) NoE s₂) NoE s₁) NoE s)
    (n : Nat) (h : I n s) (ht : ∀ v, letOwnedTupleGo t2 it v = pure () := by intro _; rfl) :
    codeAny g.M A (.compLoop (.ListComp elt [⟨t1, i1, [], 0⟩, ⟨t2, i2, ifs, 0⟩] scope pos) 1 it acc env) R s := by
  refine codeAny_loop rfl I (fun n s hI => ?_) n h
  show wpAny _ A ((compTurn (.ListComp elt [⟨t1, i1, [], 0⟩, ⟨t2, i2, ifs, 0⟩] scope pos) 1 it acc env).onRaise (fun x => do noteFrame x env; theTreesLotGoes x)) _ _ s
  refine wpAny_noted ?_
  rw [compTurn_two1]
  refine wpAny_bind (wpAny_standAt (wpAny_bind (nb (wpAny_mono (turn n s hI) (fun r s₁ h₁ => ?_) fun _ _ h' => h'))))
  cases r with
  | none => exact wpAny_pure h₁
  | some v =>
    refine wpAny_bind (wpAny_of_eq (ht v) ?_)
    refine wpAny_bind (nb (wpAny_mono h₁ (fun _ s₂ h₂ => wpAny_bind (nb (wpAny_mono h₂ (fun ok s₃ h₃ => ?_) fun _ _ h' => h'))) fun _ _ h' => h'))
    cases ok with
    | false => exact wpAny_pure ⟨rfl, h₃⟩
    | true =>
      exact wpAny_bind (wpAny_bind (nb (wpAny_mono h₃ (fun x s₄ h₄ => wpAny_bind (nb (wpAny_mono h₄ (fun _ s₅ h₅ => wpAny_pure (wpAny_pure ⟨rfl, h₅⟩)) fun _ _ h' => h'))) fun _ _ h' => h')))

theorem loop_two0 {elt t1 i1 t2 i2 : Expr} {ifs : List Expr} {scope : Scope} {pos : Pos} {it acc : Value} (I : Nat → Shared → Prop) (hf : ∀ x, foldedSetIterable i2 env x = pure x)
    (turn : ∀ n s, I n s → wpAny g.M A (pyNext it) (fun r s₁ => match r with
      | none => R (.ok .next) s₁
      | some v => wpAny g.M A (PySem.assign t1 env v) (fun _ s₂ =>
          wpAny g.M A (eval i2 env) (fun x s₃ => wpAny g.M A (pyIter x) (fun i s₄ =>
            codeAny g.M A (.compStart (.ListComp elt [⟨t1, i1, [], 0⟩, ⟨t2, i2, ifs, 0⟩] scope pos) 1 i acc env) (fun r s₅ => (∃ fl, r = .ok fl) ∧ ∃ m, m < n ∧ I m s₅) s₄) NoE s₃) NoE s₂) NoE s₁) NoE s)
    (n : Nat) (h : I n s) (ht : ∀ v, letOwnedTupleGo t1 it v = pure () := by intro _; rfl) :
    codeAny g.M A (.compLoop (.ListComp elt [⟨t1, i1, [], 0⟩, ⟨t2, i2, ifs, 0⟩] scope pos) 0 it acc env) R s := by
  refine codeAny_loop rfl I (fun n s hI => ?_) n h
  show wpAny _ A ((compTurn (.ListComp elt [⟨t1, i1, [], 0⟩, ⟨t2, i2, ifs, 0⟩] scope pos) 0 it acc env).onRaise (fun x => do noteFrame x env; theTreesLotGoes x)) _ _ s
  refine wpAny_noted ?_
  rw [compTurn_two0]
  refine wpAny_bind (wpAny_standAt (wpAny_bind (nb (wpAny_mono (turn n s hI) (fun r s₁ h₁ => ?_) fun _ _ h' => h'))))
  cases r with
  | none => exact wpAny_pure h₁
  | some v =>
    refine wpAny_bind (wpAny_of_eq (ht v) ?_)
    refine wpAny_bind (nb (wpAny_mono h₁ (fun _ s₂ h₂ => ?_) fun _ _ h' => h'))
    refine wpAny_bind (nb (wpAny_mono h₂ (fun x s₃ h₃ => ?_) fun _ _ h' => h'))
    refine wpAny_bind (wpAny_standAt (wpAny_bind (wpAny_of_eq (hf x) ?_)))
    refine wpAny_bind (wpAny_holding (nb (wpAny_mono h₃ (fun i s₄ h₄ => ?_) fun _ _ h' => h')))
    refine wpAny_bind (wpAny_runOwn ?_)
    rw [Around.mark_none]
    refine codeAny_mono h₄ fun r s₅ h₅ => ?_
    obtain ⟨⟨fl, rfl⟩, m, hm, hI⟩ := h₅
    exact wpAny_pure ⟨rfl, m, hm, hI⟩

theorem compStart_two1 {elt t1 i1 t2 i2 : Expr} {ifs : List Expr} {scope : Scope} {pos : Pos} {it acc : Value}
    (h0 : codeAny g.M A (.compLoop (.ListComp elt [⟨t1, i1, [], 0⟩, ⟨t2, i2, ifs, 0⟩] scope pos) 1 it acc env) R s)
    (h : wpAny g.M A (pyIter it) (fun it' s' => codeAny g.M A (.compLoop (.ListComp elt [⟨t1, i1, [], 0⟩, ⟨t2, i2, ifs, 0⟩] scope pos) 1 it' acc env) R s') NoE s) :
    codeAny g.M A (.compStart (.ListComp elt [⟨t1, i1, [], 0⟩, ⟨t2, i2, ifs, 0⟩] scope pos) 1 it acc env) R s := by
  refine codeAny_of_tree ?_
  show wpAny _ _ ((compStart (.ListComp elt [⟨t1, i1, [], 0⟩, ⟨t2, i2, ifs, 0⟩] scope pos) 1 it acc env).onRaise (fun x => do noteFrame x env; standAt theWindowsPlace)) _ _ s
  refine wpAny_notedAt ?_
  unfold compStart
  show wpAny _ _ (ask >>= _) _ _ s
  refine wpAny_bind (wpAny_askSetting (wpAny_ite ?_))
  split
  · first
      | exact wpAny_bind (wpAny_pure (wpAny_pure (And.intro rfl h0)))
      | exact wpAny_pure (And.intro rfl h0)
  · first
      | exact wpAny_bind (wpAny_rule (wpAny_bind (wpAny_standAt (wpAny_bind (nb (wpAny_mono h (fun it' s' h' => wpAny_pure (And.intro rfl h')) fun _ _ x => x))))))
      | (refine wpAny_bind (wpAny_rule ?_); show wpAny _ _ (standAt i2.pos >>= _) _ _ s; exact wpAny_bind (wpAny_standAt (wpAny_bind (nb (wpAny_mono h (fun it' s' h' => wpAny_pure (And.intro rfl h')) fun _ _ x => x)))))
end
end Mine
namespace Mine
abbrev lstObj (vs : List Value) (e : Nat) : Obj := { cls := .type "list", data := .seq (List.toArray vs) e }
section
variable {g : G} {A : Around} {env : Env} {σ : Sto} {mu : Mu} {scope : Scope} {cl : List (Str × Addr)}

theorem inner_two {elt t1 i1 i2 : Expr} {y : Str} {py : Pos} {ifs : List Expr} {sc : Scope} {pos : Pos} {RR : Result → Shared → Prop} {items ps0 : List PV} {t : PV → Bool} {f : PV → PV} {I0 D : Addr} {H0 : Fz} {S : Nat → Heap → Prop} {s : Shared} {vs0 : List Value} {e0 : Nat}
    (src : Src g A H0 items I0 S) (I : Inv g env σ mu H0 s) (hHI : H0 I0 = none) (hHD : H0 D = none) (hmI : mu I0 = none) (hmD : mu D = none) (hID : I0 ≠ D) (hIL : I0 ≠ env.locals) (hDL : D ≠ env.locals)
    (hIC : ∀ x c, env.cells.lookup x = some c → c ≠ I0) (hDC : ∀ x c, env.cells.lookup x = some c → c ≠ D) (hS : S 0 s.heap) (gD : s.heap.get? D = some (lstObj vs0 e0)) (hrep : RepL H0 ps0 vs0) (hz : ps0.length + items.length ≤ sizeLine) (hy : Own env y) (hyσ : σ y = none)
    (turn : ∀ (i : Nat) (q : PV) (m' : Mu), items[i]? = some q → MuLe mu m' → TST g A env (σ.set y q) m' ifs (t q) ∧ (t q = true → EV g A env (σ.set y q) m' elt (fun r m'' => r = f q ∧ m'' = m')))
    (hR : ∀ H' s' vs e, Fz.le H0 H' → Inv g env σ mu H' s' → H' D = none → s'.heap.get? D = some (lstObj vs e) → RepL H' (ps0 ++ (items.filter t).map f) vs → RR (.ok .next) s') :
    codeAny g.M A (.compLoop (.ListComp elt [⟨t1, i1, [], 0⟩, ⟨.Name y py, i2, ifs, 0⟩] sc pos) 1 (.ref I0) (.ref D) env) RR s := by
  refine loop_two1 (fun n s' => ∃ i H' vs e, n = items.length + 1 - i ∧ i ≤ items.length ∧ Fz.le H0 H' ∧ Inv g env σ mu H' s' ∧ H' I0 = none ∧ H' D = none ∧ S i s'.heap ∧
        s'.heap.get? D = some (lstObj vs e) ∧ RepL H' (ps0 ++ ((items.take i).filter t).map f) vs) ?_ (items.length + 1)
      ⟨0, H0, vs0, e0, rfl, Nat.zero_le _, Fz.le_refl _, I, hHI, hHD, hS, gD, by simpa using hrep⟩
  rintro n s' ⟨i, H', vs, e, rfl, hi, le', I', hHI, hHD, hS, gD, hrep⟩
  by_cases hlt : i < items.length
  · refine (src.mono le').item hlt hS fun v q h₁ tk hq hRq hS₁ hk₁ => ?_
    have I1 := I'.sameBut hHI hmI hIL hIC hk₁ tk
    have gD1 : h₁.get? D = some (lstObj vs e) := hk₁ _ _ (Ne.symm hID) gD
    obtain ⟨oI1, gI1, hoI1⟩ := src.obj _ _ hS₁
    have I2 := (I1.addMu (o := oI1) gI1 hoI1 hHI).addMu (o := lstObj vs e) gD1 rfl hHD
    have mle : MuLe mu ((mu.set I0 (.obj oI1)).set D (.obj (lstObj vs e))) := (MuLe.set hmI).trans (MuLe.set (by rw [Mu.set_ne (Ne.symm hID)]; exact hmD))
    refine wpAny_assign_Name (store_own I2 hy hRq fun s2 I3 => ?_)
    obtain ⟨ht, he⟩ := turn i q _ hq mle
    have post : ∀ H5 s5, Fz.le H' H5 → Inv g env (σ.set y q) ((mu.set I0 (.obj oI1)).set D (.obj (lstObj vs e))) H5 s5 →
        Inv g env σ mu H5 s5 ∧ H5 I0 = none ∧ H5 D = none ∧ S (i + 1) s5.heap ∧ s5.heap.get? D = some (lstObj vs e) := fun H5 s5 l5 I5 => by
      have mI := I5.st.mus I0 (.obj oI1) (by rw [Mu.set_ne hID, Mu.set_self])
      have mD := I5.st.mus D _ Mu.set_self
      refine ⟨(I5.muLe mle).sto fun z p hz => ?_, mI.1, mD.1, (src.mono le').frame hS₁ (fun a o e => I1.st.sub a o e) (fun a o e => I5.st.sub a o (l5 a o e)) (fun o e => by rw [gI1] at e; cases e; exact mI.2.1), mD.2.1⟩
      have hzy : z ≠ y := by rintro rfl; rw [hyσ] at hz; cases hz
      rw [Sto.set_ne hzy]; exact hz
    refine ht.run I3 fun H4 s4 l4 I4' => ?_
    obtain ⟨J4, a4, b4, c4, d4⟩ := post H4 s4 l4 I4'
    have tk := take_succ_fm items i q t f hq
    cases htq : t q with
    | false =>
      rw [if_neg Bool.false_ne_true]
      refine ⟨items.length + 1 - (i + 1), by omega, i + 1, H4, vs, e, rfl, hlt, Fz.le_trans le' l4, J4, a4, b4, c4, d4, ?_⟩
      rw [tk, htq]
      simpa using hrep.mono l4
    | true =>
      rw [if_pos rfl]
      refine wpAny_mono (he htq H4 s4 I4') (fun r s5 h5 => ?_) fun _ _ x => x
      obtain ⟨H5, m5, r', l5, I5, R5, rfl, rfl⟩ := h5
      obtain ⟨J5, a5, b5, c5, d5⟩ := post H5 s5 (Fz.le_trans l4 l5) I5
      have hvs : vs.length ≤ sizeLine := by
        rw [hrep.length]
        refine Nat.le_trans ?_ hz
        simp only [List.length_append, List.length_map]
        exact Nat.add_le_add_left (Nat.le_trans (List.length_filter_le _ _) (by simp [List.length_take]; omega)) _
      refine wpAny_list_append_plain (items := List.toArray vs) ⟨e, d5⟩ (fun h6 hp6 hs6 => ?_) (by simpa using hvs)
      obtain ⟨e6, g6⟩ := hp6
      have J6 := J5.sameBut b5 hmD hDL hDC (fun b o hb eb => (hs6.2 b hb).trans eb) s5.toks
      refine ⟨items.length + 1 - (i + 1), by omega, i + 1, H5, vs ++ [r], e6, rfl, hlt, Fz.le_trans le' (Fz.le_trans l4 l5), J6, a5, b5, ?_, by rw [g6]; simp, ?_⟩
      · exact (src.mono (Fz.le_trans le' (Fz.le_trans l4 l5))).frame c5 J5.st.sub J6.st.sub fun o eo => (hs6.2 _ hID).trans eo
      · rw [tk, htq, if_pos rfl, ← List.append_assoc]
        exact (hrep.mono (Fz.le_trans l4 l5)).snoc R5
  · have hin : i = items.length := by omega
    subst hin
    refine (src.mono le').done hS fun h₁ tk hk₁ => ?_
    have I1 := I'.sameBut hHI hmI hIL hIC hk₁ tk
    rw [List.take_length] at hrep
    exact hR H' _ vs e le' I1 hHD (hk₁ _ _ (Ne.symm hID) gD) hrep
end
end Mine
namespace Mine
section
variable {g : G} {A : Around} {env : Env} {σ : Sto} {mu : Mu} {scope : Scope} {cl : List (Str × Addr)}
theorem comp2_core {elt iter i2 : Expr} {x y : Str} {px py : Pos} {ifs : List Expr} {pos : Pos} {H s₁ p xv} {items : List PV} (inn : PV → List PV) (t : PV → Bool) (f : PV → PV) {RR : Value → Addr → Result → Shared → Prop}
    (K : Cap env scope cl) (I : Inv g env σ mu H s₁) (Rx : Rep H p xv) (hit : ITER g A p items) (hown : ∀ C, Own (cEnv scope cl env C) x) (hcx : cl.lookup x = none) (hz : (items.flatMap inn).length ≤ sizeLine) (hown2 : ∀ C, Own (cEnv scope cl env C) y) (hcy : cl.lookup y = none) (hxy : y ≠ x) (hfold : ∀ C v, foldedSetIterable i2 (cEnv scope cl env C) v = pure v)
    (turn : ∀ (C : Addr) (i : Nat) (q : PV) (m' : Mu), items[i]? = some q → MuLe mu m' → EV g A (cEnv scope cl env C) ((capS cl σ).set x q) m' i2 (fun r m'' => m'' = m' ∧ ITER g A r (inn q)))
    (turn2 : ∀ (C : Addr) (i : Nat) (q r : PV) (j : Nat) (m' : Mu), items[i]? = some q → (inn q)[j]? = some r → MuLe mu m' → TST g A (cEnv scope cl env C) (((capS cl σ).set x q).set y r) m' ifs (t r) ∧ (t r = true → EV g A (cEnv scope cl env C) (((capS cl σ).set x q).set y r) m' elt (fun z m'' => z = f r ∧ m'' = m')))
    (hR : ∀ (D C : Addr) (H' : Fz) (s' : Shared) (vs : List Value) (n : Nat) (m : Str → Option Value), s₁.heap.objs.size ≤ D → s₁.heap.objs.size ≤ C → D ≠ C → Fz.le H H' → Inv g env σ mu H' s' → H' D = none → H' C = none → mu D = none → mu C = none → s'.heap.get? D = some { cls := .type "list", data := .seq (List.toArray vs) n } →
      RepL H' (((items.flatMap inn).filter t).map f) vs → s'.heap.Ns C m → RR (.ref D) C (.ok .next) s') :
    wpAny g.M A (pyIter xv) (fun it s₂ => wpAny g.M A (newList []) (fun acc s₃ => wpAny g.M A (newFunctionEnv scope env.globals cl [] env.qual none .none (some env)) (fun cenv s₄ =>
      codeAny g.M A (.compStart (.ListComp elt [⟨.Name x px, iter, [], 0⟩, ⟨.Name y py, i2, ifs, 0⟩] scope pos) 0 it acc { cenv with scope := relabel scope env }) (RR acc cenv.locals) s₄) NoE s₃) NoE s₂) NoE s₁ := by
  refine hit _ mu s₁ xv _ (cap_st I K) (Rx.mono (cap_le I K)) fun oI S src hfr hod hS0 => ?_
  generalize hI0 : s₁.heap.objs.size = I0 at src
  refine wpAny_newObj_type ?_
  refine newCompEnv ?_
  dsimp only
  generalize hD : (({ s₁ with heap := s₁.heap.push oI } : Shared).heap.objs.size) = D
  have hDI : D = I0 + 1 := by rw [← hD, ← hI0]; exact Heap.size_push ..
  generalize hs3 : ({ s₁ with heap := (s₁.heap.push oI).push { cls := .type "list", dict := none, data := .seq ([] : List Value).toArray } } : Shared) = s3
  have hC : s3.heap.objs.size = D + 1 := by rw [← hs3, ← hD]; exact Heap.size_push ..
  have k3 : Kp s₁.heap s3.heap := by rw [← hs3]; exact fun b o e => Heap.get?_push_of_some _ (Heap.get?_push_of_some _ e)
  have S3 : St g mu (capF cl mu s₁.heap) s3 := by
    have := (cap_st I K).keeps k3 s₁.toks
    rw [← hs3] at this ⊢; exact this
  have I4 := cap_enter I K S3 k3
  have gD3 : s3.heap.get? D = some { cls := .type "list", dict := none, data := .seq ([] : List Value).toArray } := by rw [← hs3, ← hD]; exact Heap.get?_push_size _ rfl
  have gI3 : s3.heap.get? I0 = some oI := by rw [← hs3, ← hI0]; exact Heap.get?_push_of_some _ (Heap.get?_push_size _ hfr)
  have hne : I0 ≠ D := by rw [hDI]; exact Nat.ne_of_lt (Nat.lt_succ_self _)
  have hIC : I0 ≠ s3.heap.objs.size := by rw [hC, hDI]; exact Nat.ne_of_lt (Nat.lt_succ_of_lt (Nat.lt_succ_self _))
  have hDC : D ≠ s3.heap.objs.size := by rw [hC]; exact Nat.ne_of_lt (Nat.lt_succ_self _)
  have hcI : capF cl mu s₁.heap I0 = none := (cap_st I K).none_of_size (Nat.le_of_eq hI0)
  have hcD : capF cl mu s₁.heap D = none := (cap_st I K).none_of_size (by rw [hI0, hDI]; exact Nat.le_succ _)
  have hmI : mu I0 = none := I.st.mu_none_of_size (Nat.le_of_eq hI0)
  have hmD : mu D = none := I.st.mu_none_of_size (by rw [hI0, hDI]; exact Nat.le_succ _)
  have kc : Kp s3.heap (pushCells (s3.heap.push { cls := .type "dict", data := .dict #[] }) scope.names) := fun b o e => pushCells_keeps _ _ b o (Heap.get?_push_of_some _ e)
  -- cells of the comprehension's are neither I0 nor D
  have cellNe : ∀ y c, (cEnv scope cl env s3.heap.objs.size).cells.lookup y = some c → c ≠ I0 ∧ c ≠ D := fun y c hc => by
    obtain ⟨vo, ⟨o, ho, hd⟩, _⟩ := I4.fr.cells y c hc
    constructor
    · rintro rfl
      have := kc _ _ gI3
      rw [ho] at this; cases this
      unfold isDat at hod; rw [hd] at hod; cases hod
    · rintro rfl
      have := kc _ _ gD3
      rw [ho] at this; cases this
      cases hd
  have loop : codeAny g.M A (.compLoop (.ListComp elt [⟨.Name x px, iter, [], 0⟩, ⟨.Name y py, i2, ifs, 0⟩] scope pos) 0 (.ref I0) (.ref D) (cEnv scope cl env s3.heap.objs.size)) (RR (.ref D) s3.heap.objs.size)
      { s3 with heap := pushCells (s3.heap.push { cls := .type "dict", data := .dict #[] }) scope.names } := by
    refine loop_two0
      (fun n s' => ∃ i H' vs e, n = items.length + 1 - i ∧ i ≤ items.length ∧ Fz.le (capF cl mu s₁.heap) H' ∧ Inv g (cEnv scope cl env s3.heap.objs.size) (capS cl σ) mu H' s' ∧ H' I0 = none ∧ H' D = none ∧ S i s'.heap ∧
        s'.heap.get? D = some { cls := .type "list", data := .seq (List.toArray vs) e } ∧ RepL H' ((((items.take i).flatMap inn).filter t).map f) vs) (hfold _) ?_ (items.length + 1)
      ⟨0, _, [], 0, rfl, Nat.zero_le _, Fz.le_refl _, I4, hcI, hcD, src.frame (H := capF cl mu s₁.heap) hS0 (fun a o e => Heap.get?_push_of_some _ ((cap_st I K).sub a o e)) (fun a o e => kc _ _ (S3.sub a o e)) (fun o e => kc _ _ (by
        rw [← hI0, Heap.get?_push_size _ hfr] at e; cases e; exact gI3)), kc _ _ gD3, by simpa using RepL.nil⟩
    rintro n s' ⟨i, H', vs, e, rfl, hi, le', I', hHI, hHD, hS, gD, hrep⟩
    by_cases hlt : i < items.length
    · refine ((src.mono le').item hlt hS fun v q h₁ tk hq hRq hS₁ hk₁ => ?_)
      have I1 := I'.sameBut hHI hmI hIC (fun y c hc => (cellNe y c hc).1) hk₁ tk
      have gD1 : h₁.get? D = some { cls := .type "list", data := .seq (List.toArray vs) e } := hk₁ _ _ (Ne.symm hne) gD
      obtain ⟨oI1, gI1, hoI1⟩ := src.obj _ _ hS₁
      have I2 := (I1.addMu (o := oI1) gI1 hoI1 hHI).addMu (o := { cls := .type "list", data := .seq (List.toArray vs) e }) gD1 rfl hHD
      have mle : MuLe mu ((mu.set I0 (.obj oI1)).set D (.obj { cls := .type "list", data := .seq (List.toArray vs) e })) := (MuLe.set hmI).trans (MuLe.set (by rw [Mu.set_ne (Ne.symm hne)]; exact hmD))
      refine wpAny_assign_Name (store_own I2 (hown _) hRq fun s2 I3 => ?_)
      refine wpAny_mono (turn s3.heap.objs.size i q _ hq mle H' s2 I3) (fun xv2 s4 h4 => ?_) fun _ _ x => x
      obtain ⟨H4, m4, r, l4, I4', R4, rfl, hitr⟩ := h4
      have mle2 : MuLe ((mu.set I0 (.obj oI1))) ((mu.set I0 (.obj oI1)).set D (.obj (lstObj vs e))) := MuLe.set (by rw [Mu.set_ne (Ne.symm hne)]; exact hmD)
      have gD4 : s4.heap.get? D = some (lstObj vs e) := (I4'.st.mus D _ Mu.set_self).2.1
      have hHD4 : H4 D = none := (I4'.st.mus D _ Mu.set_self).1
      have I5 := I4'.muLe mle2
      have hmD1 : (mu.set I0 (.obj oI1)) D = none := by rw [Mu.set_ne (Ne.symm hne)]; exact hmD
      refine hitr H4 (mu.set I0 (.obj oI1)) s4 xv2 _ I5.st R4 fun o2 S2 src2 hf2 hd2 hS20 => ?_
      have I6 : Inv g (cEnv scope cl env s3.heap.objs.size) ((capS cl σ).set x q) (mu.set I0 (.obj oI1)) H4 { s4 with heap := s4.heap.push o2 } := I5.keeps (fun _ _ e => Heap.get?_push_of_some _ e) _
      have hI20 : H4 s4.heap.objs.size = none := I5.st.none_of_size (Nat.le_refl _)
      have hI2m : (mu.set I0 (.obj oI1)) s4.heap.objs.size = none := I5.st.mu_none_of_size (Nat.le_refl _)
      have hDlt : D < s4.heap.objs.size := Heap.lt_size gD4
      have hLlt : (cEnv scope cl env s3.heap.objs.size).locals < s4.heap.objs.size := I5.L_lt
      have hClt : ∀ z c, (cEnv scope cl env s3.heap.objs.size).cells.lookup z = some c → c < s4.heap.objs.size := fun z c hc => I5.C_lt hc
      have hi' : i + 1 ≤ items.length := hlt
      have tkf : (items.take (i + 1)).flatMap inn = (items.take i).flatMap inn ++ inn q := by
        rw [List.take_add_one, hq]; simp [List.flatMap_append]
      have hyσ : ((capS cl σ).set x q) y = none := by
        rw [Sto.set_ne hxy]; unfold capS; rw [if_neg (by rw [hcy]; exact Bool.false_ne_true)]
      have hlen : (((((items.take i).flatMap inn).filter t).map f).length + (inn q).length) ≤ sizeLine := by
        refine Nat.le_trans ?_ hz
        have e1 : (items.flatMap inn) = (items.take (i + 1)).flatMap inn ++ (items.drop (i + 1)).flatMap inn := by rw [← List.flatMap_append, List.take_append_drop]
        rw [e1, tkf, List.length_append, List.length_append, List.length_map]
        have := List.length_filter_le t ((items.take i).flatMap inn)
        omega
      have key : ∀ it', it' = Value.ref s4.heap.objs.size → codeAny g.M A (.compLoop (.ListComp elt [⟨.Name x px, iter, [], 0⟩, ⟨.Name y py, i2, ifs, 0⟩] scope pos) 1 it' (.ref D) (cEnv scope cl env s3.heap.objs.size))
          (fun r s₅ => (∃ fl, r = .ok fl) ∧ ∃ m, m < items.length + 1 - i ∧ ∃ i H' vs e, m = items.length + 1 - i ∧ i ≤ items.length ∧ Fz.le (capF cl mu s₁.heap) H' ∧ Inv g (cEnv scope cl env s3.heap.objs.size) (capS cl σ) mu H' s₅ ∧ H' I0 = none ∧ H' D = none ∧ S i s₅.heap ∧
            s₅.heap.get? D = some { cls := .type "list", data := .seq (List.toArray vs) e } ∧ RepL H' ((((items.take i).flatMap inn).filter t).map f) vs) { s4 with heap := s4.heap.push o2 } := by
        rintro it' rfl
        refine inner_two (t := t) (f := f) src2 I6 hI20 hHD4 hI2m hmD1 (Nat.ne_of_gt hDlt) (Nat.ne_of_gt hLlt) hDC (fun z c hc => Nat.ne_of_lt (hClt z c hc)) (fun z c hc => (cellNe z c hc).2) hS20 (Heap.get?_push_of_some _ gD4) (hrep.mono l4) hlen (hown2 _) hyσ
          (fun j r m' hr hm' => turn2 _ i q r j m' hq hr ((MuLe.set hmI).trans hm')) ?_
        intro H7 s7 vs7 e7 l7 I7 hHD7 gD7 hrep7
        have mI := I7.st.mus I0 (.obj oI1) Mu.set_self
        refine ⟨⟨_, rfl⟩, items.length + 1 - (i + 1), by omega, i + 1, H7, vs7, e7, rfl, hi', Fz.le_trans le' (Fz.le_trans l4 l7), (I7.muLe (MuLe.set hmI)).sto (fun z p hz => ?_), mI.1, hHD7, (src.mono le').frame hS₁ (fun a o e => I1.st.sub a o e) (fun a o e => I7.st.sub a o (l7 a o (l4 a o e))) (fun o e => by rw [gI1] at e; cases e; exact mI.2.1), gD7, ?_⟩
        · have hzx : z ≠ x := by
            rintro rfl
            unfold capS at hz
            rw [hcx] at hz; cases hz
          rw [Sto.set_ne hzx]; exact hz
        · rw [tkf, List.filter_append, List.map_append]; exact hrep7
      obtain ⟨fp2, P2, W2, _⟩ := src2.W
      exact compStart_two1 (key _ rfl) (W2.self 0 _ _ _ hS20 (key _ rfl))
    · have hin : i = items.length := by omega
      subst hin
      refine ((src.mono le').done hS fun h₁ tk hk₁ => ?_)
      have I1 := I'.sameBut hHI hmI hIC (fun y c hc => (cellNe y c hc).1) hk₁ tk
      obtain ⟨H'', w1, w2, w3, w4⟩ := cap_leave I K le' I1
      rw [List.take_length] at hrep
      obtain ⟨m, hm, _⟩ := I1.fr.ns
      refine hR D s3.heap.objs.size H'' _ vs e m (by rw [hI0, hDI]; exact Nat.le_succ _) (by rw [hC, hDI, hI0]; exact Nat.le_succ_of_le (Nat.le_succ _)) hDC w1 w2 (w3 _ hHD) (w3 _ I1.fr.offL) hmD I1.muL (hk₁ _ _ (Ne.symm hne) gD) ?_ hm
      have : Rep H' (.list (((items.flatMap inn).filter t).map f)) (.ref D) → Rep H'' (.list (((items.flatMap inn).filter t).map f)) (.ref D) := w4 _ _
      -- items one by one
      have go : ∀ (ps : List PV) (us : List Value), RepL H' ps us → RepL H'' ps us := by
        intro ps
        induction ps with
        | nil => intro us h; unfold RepL at h ⊢; exact h
        | cons p ps ih =>
          intro us h
          unfold RepL at h ⊢
          obtain ⟨v, us', rfl, h1, h2⟩ := h
          exact ⟨v, us', rfl, w4 _ _ h1, ih us' h2⟩
      exact go _ _ hrep
  obtain ⟨fp, P, W, _⟩ := src.W
  have hSs : S 0 (pushCells (s3.heap.push { cls := .type "dict", data := .dict #[] }) scope.names) := src.frame (H := capF cl mu s₁.heap) hS0 (fun a o e => Heap.get?_push_of_some _ ((cap_st I K).sub a o e)) (fun a o e => kc _ _ (S3.sub a o e)) (fun o e => kc _ _ (by
        rw [← hI0, Heap.get?_push_size _ hfr] at e; cases e; exact gI3))
  subst hs3
  exact codeAny_compStart_list loop (W.self 0 _ _ _ hSs loop)
end
end Mine
namespace Mine
section
variable {g : G} {A : Around} {env : Env} {σ : Sto} {mu : Mu} {scope : Scope} {cl : List (Str × Addr)}
theorem EV.comp2 {elt iter i2 : Expr} {x y : Str} {px py : Pos} {ifs : List Expr} {pos : Pos} {Q} (inn : PV → List PV) (t : PV → Bool) (f : PV → PV) (ok : CompOk env scope cl x iter)
    (hown2 : ∀ C, Own (cEnv scope cl env C) y) (hcy : cl.lookup y = none) (hxy : y ≠ x) (hfold : ∀ C v, foldedSetIterable i2 (cEnv scope cl env C) v = pure v)
    (h : EV g A env σ mu iter (fun p m => ∃ items, ITER g A p items ∧ (items.flatMap inn).length ≤ sizeLine ∧
      (∀ (C : Addr) (i : Nat) (q : PV) (m' : Mu), items[i]? = some q → MuLe m m' → EV g A (cEnv scope cl env C) ((capS cl σ).set x q) m' i2 (fun r m'' => m'' = m' ∧ ITER g A r (inn q))) ∧
      (∀ (C : Addr) (i : Nat) (q r : PV) (j : Nat) (m' : Mu), items[i]? = some q → (inn q)[j]? = some r → MuLe m m' → TST g A (cEnv scope cl env C) (((capS cl σ).set x q).set y r) m' ifs (t r) ∧ (t r = true → EV g A (cEnv scope cl env C) (((capS cl σ).set x q).set y r) m' elt (fun z m'' => z = f r ∧ m'' = m'))) ∧
      Q (.list (((items.flatMap inn).filter t).map f)) m)) : EV g A env σ mu (.ListComp elt [⟨.Name x px, iter, [], 0⟩, ⟨.Name y py, i2, ifs, 0⟩] scope pos) Q := fun H s I => by
  rw [eval_ListComp]
  refine wpAny_comprehension_free (use := none) rfl ok.fold ok.clos ok.kind ok.names (wpAny_mono (h H s I) (fun xv s₁ h₁ => ?_) fun _ _ e => e)
  obtain ⟨H1, m1, p, l1, I1, R1, items, hit, hz, turn, turn2, hQ⟩ := h₁
  refine comp2_core (RR := fun acc C r s' => compPost g.M A NoE none (IPost g env σ H Q) acc C r s') inn t f ok.cap I1 R1 hit ok.own ok.notx hz hown2 hcy hxy hfold turn turn2 ?_
  intro D C H' s' vs n m hD hC hDC le I' hHD hHC hmD hmC gD hrep hn
  refine ⟨m, hn, fun h' hs' => ?_⟩
  have hL : env.locals < D := Nat.lt_of_lt_of_le I1.L_lt hD
  have hLC : env.locals < C := Nat.lt_of_lt_of_le I1.L_lt hC
  obtain ⟨a1, a2, a3⟩ := I'.addList gD hHD hmD hL (fun x c hc => Nat.lt_of_lt_of_le (I1.C_lt hc) hD) hrep
  have a4 := a2.sameBut (a := C) (h' := h') (by unfold Fz.add; rw [if_neg (Ne.symm hDC)]; exact hHC) hmC (Nat.ne_of_gt hLC) (fun x c hc => Nat.ne_of_lt (Nat.lt_of_lt_of_le (I1.C_lt hc) hC)) (fun b o hb e => (hs'.2 b hb).trans e) s'.toks
  exact ⟨_, m1, .list (((items.flatMap inn).filter t).map f), Fz.le_trans l1 (Fz.le_trans le a1), a4, a3, hQ⟩

def CHAIN (g : G) (A : Around) (env : Env) (σ : Sto) (mu : Mu) (pos : Pos) (p : PV) (ops : List CmpOp) (rs : List Expr) (Q : Bool → Mu → Prop) : Prop :=
  ∀ H s a, Inv g env σ mu H s → Rep H p a → wpAny g.M A (testChain pos a ops (evalEach rs env)) (BPost g env σ H Q) NoE s
theorem CHAIN.last {pos : Pos} {p : PV} {op : CmpOp} {r : Expr} {Q : Bool → Mu → Prop} (h : EV g A env σ mu r (fun q m => CMP g A op m p q (fun c m' => ∃ b, c = .bool b ∧ Q b m'))) : CHAIN g A env σ mu pos p [op] [r] Q := fun H s a I Ra => by
  show wpAny g.M A (testChain pos a [op] [eval r env]) _ _ _
  refine test_last (wpAny_mono (h H s I) (fun b s₁ h₁ => ?_) fun _ _ x => x)
  obtain ⟨H1, m1, q, l1, I1, R1, h1⟩ := h₁
  exact wpAny_mono (I1.step l1 (fun H' l3 => h1 H' a b (Ra.mono (Fz.le_trans l1 l3)) (R1.mono l3)) fun _ _ x => x) (fun c s₃ h₃ => truthB h₃) fun _ _ x => x
theorem CHAIN.link {pos : Pos} {p : PV} {op op' : CmpOp} {ops : List CmpOp} {r r' : Expr} {rs : List Expr} {Q : Bool → Mu → Prop}
    (h : EV g A env σ mu r (fun q m => CMP g A op m p q (fun c m' => ∃ b, c = .bool b ∧ (if b then CHAIN g A env σ m' pos q (op' :: ops) (r' :: rs) Q else Q false m')))) : CHAIN g A env σ mu pos p (op :: op' :: ops) (r :: r' :: rs) Q := fun H s a I Ra => by
  show wpAny g.M A (testChain pos a (op :: op' :: ops) (eval r env :: eval r' env :: evalEach rs env)) _ _ _
  refine test_link (wpAny_mono (h H s I) (fun b s₁ h₁ => ?_) fun _ _ x => x)
  obtain ⟨H1, m1, q, l1, I1, R1, h1⟩ := h₁
  refine wpAny_mono (I1.step (Fz.le_refl _) (fun H' l3 => h1 H' a b (Ra.mono (Fz.le_trans l1 l3)) (R1.mono l3)) fun _ _ x => x) (fun c s₃ h₃ => ?_) fun _ _ x => x
  refine wpAny_mono (truthB h₃) (fun t s₄ h₄ => ?_) fun _ _ x => x
  obtain ⟨H4, m4, l4, I4, hq⟩ := h₄
  cases t with
  | false => rw [if_neg Bool.false_ne_true] at hq ⊢; exact ⟨H4, m4, Fz.le_trans l1 l4, I4, hq⟩
  | true =>
    rw [if_pos rfl] at hq ⊢
    refine wpAny_mono (hq H4 s₄ b I4 (R1.mono l4)) (fun t s₅ h₅ => ?_) fun _ _ x => x
    obtain ⟨H5, m5, l5, I5, hq5⟩ := h₅
    exact ⟨H5, m5, Fz.le_trans l1 (Fz.le_trans l4 l5), I5, hq5⟩
theorem TR.chain {l r₁ r₂ : Expr} {op₁ op₂ : CmpOp} {ops : List CmpOp} {rs : List Expr} {pos : Pos} {Q : Bool → Mu → Prop} (hm : lastMarks (op₁ :: op₂ :: ops) (r₁ :: r₂ :: rs) = false)
    (h : EV g A env σ mu l (fun p m => CHAIN g A env σ m pos p (op₁ :: op₂ :: ops) (r₁ :: r₂ :: rs) Q)) : TR g A env σ mu (.Compare l (op₁ :: op₂ :: ops) (r₁ :: r₂ :: rs) pos) Q := fun H s I => by
  refine isTrue_chain (hm := hm) (wpAny_mono (h H s I) (fun a s₁ h₁ => ?_) fun _ _ x => x)
  obtain ⟨H1, m1, p, l1, I1, R1, h1⟩ := h₁
  refine wpAny_mono (h1 H1 s₁ a I1 R1) (fun t s₂ h₂ => ?_) fun _ _ x => x
  obtain ⟨H2, m2, l2, I2, hq⟩ := h₂
  exact ⟨H2, m2, Fz.le_trans l1 l2, I2, hq⟩
end
end Mine
namespace Mine
local macro_rules | `(tactic| walk_at "own") => `(tactic| with_reducible assumption)
local macro_rules | `(tactic| walk_at "dbg") => `(tactic| with_reducible assumption)
local macro_rules | `(tactic| walk_at "sto") => `(tactic| first | (simp only [Sto.set_eq, ne_11, ↓reduceIte, *]; done) | (simp only [Sto.set_eq, ne_11, ↓reduceIte, *]; rfl))
local macro_rules | `(tactic| walk_at "nm") => `(tactic| (refine' EV.name ?o ?d ?s ?_; (case o => walk_at "own"); (case d => walk_at "dbg"); (case s => walk_at "sto")))
local macro_rules | `(tactic| walk_at "bi") => `(tactic| exact nmBi rfl rfl rfl rfl (by decide +kernel) (by with_reducible assumption) (by decide +kernel) (by decide +kernel))
local macro_rules | `(tactic| walk_at "gl") => `(tactic| exact nmGl rfl rfl rfl (by decide +kernel) (by with_reducible assumption))

def lineSum (r : List Bool) : Int := runsOf r + marksOf r
def toldLines (M : List (List Bool)) (n : Nat) : Int := ((M ++ tr M n).map lineSum).sum
def rowOf : PV → List Bool
  | .list xs => xs.map fun p => match p with | .bool b => b | _ => false
  | _ => []
theorem rowOf_row (r : List Bool) : rowOf (rowPV r) = r := by
  show (r.map PV.bool).map _ = r
  rw [List.map_map]
  exact (List.map_congr_left fun _ _ => rfl).trans (List.map_id r)
def awayOf (d : Int) (n : Nat) : Int := if (n : Int) * n - 2 * d > 2 * d - (n : Int) * n then (n : Int) * n - 2 * d else 2 * d - (n : Int) * n
def lawSays (M : List (List Bool)) (n : Nat) : Int := toldLines M n + lvl2 M n + 10 * (10 * awayOf (M.map cnt).sum n).fdiv ((n : Int) * n)

def innOf : PV → List PV
  | .list xs => xs
  | _ => []
def tOf : PV → Bool
  | .bool b => b
  | _ => false
theorem flat_len : ∀ (M : List (List Bool)), (∀ r ∈ M, r.length ≤ 13) → ((M.map rowPV).flatMap innOf).length ≤ M.length * 13
  | [], _ => Nat.le_refl _
  | r :: M, h => by
    have ih := flat_len M fun q hq => h q (List.mem_cons_of_mem _ hq)
    have hr := h r List.mem_cons_self
    rw [List.map_cons, List.flatMap_cons, List.length_append, List.length_cons]
    have : (innOf (rowPV r)).length = r.length := by show (r.map PV.bool).length = _; rw [List.length_map]
    omega
theorem row_sum : ∀ r : List Bool, (((r.map PV.bool).filter tOf).map fun _ => (1 : Int)).sum = cnt r
  | [] => rfl
  | b :: r => by
    have ih := row_sum r
    unfold cnt at ih ⊢
    rw [List.map_cons, List.map_cons, List.sum_cons]
    cases b with
    | true => rw [List.filter_cons_of_pos rfl, List.map_cons, List.sum_cons, ih]; rfl
    | false => rw [List.filter_cons_of_neg (by simp [tOf]), ih]; simp
theorem dark_sum : ∀ M : List (List Bool), ((((M.map rowPV).flatMap innOf).filter tOf).map fun _ => (1 : Int)).sum = (M.map cnt).sum
  | [] => rfl
  | r :: M => by
    rw [List.map_cons, List.flatMap_cons, List.filter_append, List.map_append, List.sum_append, dark_sum M, List.map_cons, List.sum_cons]
    have e : innOf (rowPV r) = r.map PV.bool := rfl
    rw [e, row_sum]

set_option maxRecDepth 100000 in
set_option maxHeartbeats 4000000 in
theorem lawBody {g : G} {A : Around} {L a : Addr} {cd : Value} {mu : Mu} {ns : List Int} {Q : PV → Mu → Prop} (T : Tops g) (R : Room A 4) (hns : ns.length ≤ 63)
    (hpo : mu T.P2 = some (.obj (tabObj #[]))) (hQ : ∀ M n more, 2 ≤ n → n ≤ 13 → Sq M n → Q (.bool (pts4 M n == lawSays M n)) (mu.set T.P2 (.obj (tabObj more)))) :
    EX g A (fEnv 11 L a cd) (bindS [(Str.ofString "script")] [.list (ns.map .int)] fun _ => none) mu (fnBody 11) (Ret Q) := by
  obtain ⟨o1, o2, o3, o4, o5, o6, o7, o8, o9⟩ := own_11 L a cd
  obtain ⟨d1, d2, d3, d4, d5, d6, d7, d8, d9⟩ := dbg_11
  have b1 := T.range
  have b2 := T.len
  have b3 := T.sum
  have b4 := T.max
  have b5 := T.n8
  have b6 := T.n9
  have b7 := T.n10
  have b8 := T.n1
  have R3 : Room A 3 := R.le (by decide)
  have s1 : (bindS [(Str.ofString "script")] [.list (ns.map .int)] fun _ => none) (Str.ofString "script") = some (.list (ns.map .int)) := by simp only [bindS, Sto.set_eq, ↓reduceIte]
  generalize (bindS [(Str.ofString "script")] [.list (ns.map .int)] fun _ => none) = σ at s1
  refine EX.frame3 (mu0 := fun more => mu.set T.P2 (.obj (tabObj more))) ?_
  obtain ⟨x8, pm8, cd8, doc8, g8, f8, c8⟩ := T.f8.ex
  obtain ⟨x9, pm9, cd9, doc9, g9, f9, c9⟩ := T.f9.ex
  obtain ⟨x10, pm10, cd10, doc10, g10, f10, c10⟩ := T.f10.ex
  obtain ⟨x1, pm1, cd1, doc1, g1, f1, c1⟩ := T.f1.ex
  refine EX.cons (ES.assign o2 (EV.call_fn (b := T.a8) (by walk_at "gl") g8 f8 (h := ?_)))
  refine EVL.cons (EV.list (EVL.cons (EV.slice (fun _ _ => rfl) ?_)))
  walk_at "nm"
  show EV _ _ _ _ _ _ _
  refine EV.c_int ⟨60, rfl, ns.map .int, rfl, by rw [List.length_map, sizeLine_eq]; omega, .inl rfl, ?_⟩
  refine EVL.cons (EV.c_int (EVL.cons (EV.c_int (EVL.nil (SEQ.listM (fun S hS => ?_) (show 3 ≤ sizeLine by rw [sizeLine_eq]; decide))))))
  have est : MV.list [PV.list (cutL (ns.map PV.int) none (some 60)), .int 0, .int 17] = stPV (ns.take 60) 0 17 := by
    unfold stPV cutL; rw [List.map_take]; rfl
  rw [est]
  refine EVL.nil (CALL.at [(Str.ofString "state")] R T.f8 (fun pm cd doc vs hv => ?_) (by decide) rfl rfl rfl fun L' cd' A' R' => lawSquare T R' (xs := ns.take 60) (by rw [List.length_take]; omega) (Nat.zero_le _) Mu.set_self fun M n i' s' h2 h13 hM => ?_)
  · obtain ⟨v, rfl⟩ := len1 hv; rfl
  rw [Mu.set_set]
  have hSP : S ≠ T.P2 := by rintro rfl; rw [hpo] at hS; cases hS
  generalize hm1 : mu.set S (stPV (ns.take 60) i' s') = m1
  have hpo1 : m1 T.P2 = some (.obj (tabObj #[])) := by rw [← hm1, Mu.set_ne (Ne.symm hSP)]; exact hpo
  have hle1 : ∀ more, MuLe (mu.set T.P2 (.obj (tabObj more))) (m1.set T.P2 (.obj (tabObj more))) := by
    intro more b v hb
    by_cases hbP : b = T.P2
    · subst hbP; rw [Mu.set_self] at hb ⊢; exact hb
    · rw [Mu.set_ne hbP] at hb ⊢
      rw [← hm1, Mu.set_ne (by rintro rfl; rw [hS] at hb; cases hb)]
      exact hb
  clear hm1 hS hSP est
  have hlen : (M.map rowPV).length = n := by rw [List.length_map, hM.len]
  refine EX.cons (ES.assign o3 (EV.call_bi (id := "len") (by walk_at "bi") rfl (h := ?_)))
  refine EVL.cons ?_
  walk_at "nm"
  refine EVL.nil (CALL.len (by rw [hlen, sizeLine_eq]; omega) ?_)
  rw [hlen]
  have hrl : rlen 0 (n : Int) = n := by unfold rlen; split <;> omega
  have hri : rangeItems 0 (n : Int) = (List.range n).map fun i => PV.int (i : Nat) := by
    unfold rangeItems
    rw [hrl, Int.toNat_natCast]
    exact List.map_congr_left fun i _ => by rw [Int.zero_add]
  -- columns
  refine EX.cons (ES.assign_comp (cl := [(Str.ofString "square", L + 1)]) (fun _ => true) (fun q => .list (M.map fun row => .bool (row.getD (natOf q) false))) o4 rfl ⟨rfl, rfl, (by decide), (fun _ => rfl), Cap.one rfl nn_cell (by decide) nn_cell, (fun C => ⟨rfl, .inr ⟨rfl, rfl⟩⟩), rfl⟩ ?_)
  refine EV.call_ty (T := "range") (by walk_at "bi") rfl (h := ?_)
  refine EVL.cons ?_
  walk_at "nm"
  have etr : (PV.list ((((rangeItems 0 (n : Int)).filter fun _ => true)).map fun q => PV.list (M.map fun row => PV.bool (row.getD (natOf q) false)))) = matPV (tr M n) := by
    rw [List.filter_eq_self.mpr (by simp), hri, List.map_map]
    unfold tr
    rw [matPV, List.map_map]
    congr 1
    refine List.map_congr_left fun k _ => ?_
    show PV.list (M.map fun row => PV.bool (row.getD k false)) = PV.list ((M.map fun row => row.getD k false).map PV.bool)
    rw [List.map_map]; rfl
  have sq1 : ((σ.set (Str.ofString "square") (matPV M)).set (Str.ofString "side") (.int n)) (Str.ofString "square") = some (matPV M) := by simp only [Sto.set_eq, ne_11, ↓reduceIte]
  have sq2 : ((σ.set (Str.ofString "square") (matPV M)).set (Str.ofString "side") (.int n)) (Str.ofString "side") = some (.int n) := by simp only [Sto.set_eq, ↓reduceIte]
  generalize ((σ.set (Str.ofString "square") (matPV M)).set (Str.ofString "side") (.int n)) = σ1 at sq1 sq2
  clear s1
  refine EVL.nil (CALL.range1 ⟨rangeItems 0 n, ITER.range R.h (by omega) (by omega), by rw [hri, List.length_map, List.length_range, sizeLine_eq]; omega, fun C i q m' hq hm' => ⟨rfl, fun _ => ?_⟩, ?_⟩)
  · rw [hri, List.getElem?_map] at hq
    obtain ⟨j, hj, rfl⟩ := Option.map_eq_some_iff.mp hq
    have hjl : j < n := by
      have := List.mem_of_getElem? hj
      simpa using this
    have q4 : ((capS [(Str.ofString "square", L + 1)] σ1).set (Str.ofString "k") (.int j)) (Str.ofString "square") = some (matPV M) := by
      rw [Sto.set_ne (by decide), capS_one]; exact sq1
    have q5 : ((capS [(Str.ofString "square", L + 1)] σ1).set (Str.ofString "k") (.int j)) (Str.ofString "k") = some (.int j) := by unfold Sto.set; rw [if_pos rfl]
    generalize ((capS [(Str.ofString "square", L + 1)] σ1).set (Str.ofString "k") (.int j)) = σc at q4 q5
    refine EV.comp (cl := [(Str.ofString "k", C + 1)]) (fun _ => true) (fun q => match q with | .list xs => xs.getD j .none | q => q) ⟨rfl, rfl, (by decide), (fun _ => rfl), Cap.one rfl nn_cell (by decide) nn_cell, (fun C => ⟨rfl, .inl rfl⟩), rfl⟩ ?_
    refine EV.name ⟨rfl, .inr ⟨rfl, rfl⟩⟩ (by decide +kernel) q4 ⟨M.map rowPV, ITER.list R.h, by rw [hlen, sizeLine_eq]; omega, fun C2 i q m2 hq2 hm2 => ⟨rfl, fun _ => ?_⟩, ?_, rfl⟩
    · rw [List.getElem?_map] at hq2
      obtain ⟨row, hrow, rfl⟩ := Option.map_eq_some_iff.mp hq2
      have hrl2 := hM.rows row (List.mem_of_getElem? hrow)
      have q6 : ((capS [(Str.ofString "k", C + 1)] σc).set (Str.ofString "line") (rowPV row)) (Str.ofString "k") = some (.int j) := by
        rw [Sto.set_ne (by decide), capS_one]; exact q5
      have hget : (row.map PV.bool)[j]? = some (.bool (row.getD j false)) := by
        rw [List.getElem?_map, List.getD_eq_getElem?_getD, List.getElem?_eq_getElem (by omega)]; rfl
      refine EV.sub (EV.name ⟨rfl, .inl rfl⟩ (by decide +kernel) (p := rowPV row) (by unfold Sto.set; rw [if_pos rfl]) (EV.name ⟨rfl, .inr ⟨rfl, rfl⟩⟩ (by decide +kernel) q6 (SUBS.at j (fun _ _ => rfl) rfl (by omega) hget ⟨?_, rfl⟩)))
      show PV.bool (row.getD j false) = (row.map PV.bool).getD j .none
      rw [List.getD_eq_getElem?_getD (l := row.map PV.bool), hget]; rfl
    · rw [List.filter_eq_self.mpr (by simp), List.map_map]
      congr 1
      refine List.map_congr_left fun row hrow => ?_
      have hrl2 := hM.rows row hrow
      show (row.map PV.bool).getD j .none = PV.bool (row.getD j false)
      rw [List.getD_eq_getElem?_getD (l := row.map PV.bool), List.getElem?_map, List.getD_eq_getElem?_getD, List.getElem?_eq_getElem (by omega)]; rfl
  rw [etr]
  -- told
  have hT : Sq (tr M n) n := tr_sq hM.len
  have hcols : ((tr M n).map rowPV).length = n := by rw [List.length_map, hT.len]
  refine EX.cons (ES.assign o5 (EV.call_bi (id := "sum") (by walk_at "bi") rfl (h := ?_)))
  refine EVL.cons (EV.comp (cl := []) (fun _ => true) (fun q => .int (lineSum (rowOf q))) ⟨rfl, rfl, (by decide), (fun _ => rfl), Cap.nil, (fun C => ⟨rfl, .inl rfl⟩), rfl⟩ (EV.binop ?_))
  walk_at "nm"
  walk_at "nm"
  refine BIN.cat (by rw [hlen, hcols, sizeLine_eq]; omega) ⟨_, ITER.list R.h, by rw [List.length_append, hlen, hcols, sizeLine_eq]; omega, fun C i q m' hq hm' => ⟨rfl, fun _ => ?_⟩, ?_⟩
  · rw [← List.map_append, List.getElem?_map] at hq
    obtain ⟨row, hrow, rfl⟩ := Option.map_eq_some_iff.mp hq
    have hrl2 : row.length = n := by
      rcases List.mem_append.mp (List.mem_of_getElem? hrow) with h | h
      · exact hM.rows row h
      · exact hT.rows row h
    have q6 : ((capS [] (σ1.set (Str.ofString "columns") (matPV (tr M n)))).set (Str.ofString "line") (rowPV row)) (Str.ofString "line") = some (rowPV row) := by unfold Sto.set; rw [if_pos rfl]
    generalize ((capS [] (σ1.set (Str.ofString "columns") (matPV (tr M n)))).set (Str.ofString "line") (rowPV row)) = σc at q6
    refine EV.binop (EV.call_fn (b := T.a9) (by walk_at "gl") g9 f9 (h := ?_))
    refine EVL.cons (EV.name ⟨rfl, .inl rfl⟩ (by decide +kernel) q6 (EVL.nil (CALL.at [(Str.ofString "line")] (R.le (by decide : 2 ≤ 4)) T.f9 (fun pm cd doc vs hv => ?_) (by decide) rfl rfl rfl fun L' cd' A' R' => lawRuns T R' (by omega) ?_)))
    · obtain ⟨v, rfl⟩ := len1 hv; rfl
    refine EV.call_fn (b := T.a10) (by walk_at "gl") g10 f10 (h := ?_)
    refine EVL.cons (EV.name ⟨rfl, .inl rfl⟩ (by decide +kernel) q6 (EVL.nil (CALL.at [(Str.ofString "line")] (R.le (by decide : 2 ≤ 4)) T.f10 (fun pm cd doc vs hv => ?_) (by decide) rfl rfl rfl fun L' cd' A' R' => lawMarks T R' (by omega) ?_)))
    · obtain ⟨v, rfl⟩ := len1 hv; rfl
    exact BIN.add ⟨by rw [rowOf_row]; rfl, rfl⟩
  have esum : (((M.map rowPV ++ (tr M n).map rowPV).filter fun _ => true).map fun q => PV.int (lineSum (rowOf q))) = ((M ++ tr M n).map lineSum).map .int := by
    rw [List.filter_eq_self.mpr (by simp), ← List.map_append, List.map_map, List.map_map]
    exact List.map_congr_left fun r _ => by show PV.int (lineSum (rowOf (rowPV r))) = _; rw [rowOf_row]; rfl
  rw [esum]
  refine EVL.nil (CALL.sum_ints R.h ?_)
  -- two by two
  have hrs : rlen 0 ((n : Int) - 1) = ((n - 1 : Nat) : Int) := by unfold rlen; split <;> omega
  have e1 : ((σ1.set (Str.ofString "columns") (matPV (tr M n))).set (Str.ofString "told") (.int ((M ++ tr M n).map lineSum).sum)) (Str.ofString "square") = some (matPV M) := by walk_at "sto"
  have e2 : ((σ1.set (Str.ofString "columns") (matPV (tr M n))).set (Str.ofString "told") (.int ((M ++ tr M n).map lineSum).sum)) (Str.ofString "side") = some (.int n) := by walk_at "sto"
  have e3 : ((σ1.set (Str.ofString "columns") (matPV (tr M n))).set (Str.ofString "told") (.int ((M ++ tr M n).map lineSum).sum)) (Str.ofString "told") = some (.int (toldLines M n)) := by simp only [Sto.set_eq, ↓reduceIte]; rfl
  generalize ((σ1.set (Str.ofString "columns") (matPV (tr M n))).set (Str.ofString "told") (.int ((M ++ tr M n).map lineSum).sum)) = σ2 at e1 e2 e3
  clear sq1 sq2 etr esum hri
  refine EX.cons (ES.for_range (fun i σ m => m = m1 ∧ σ (Str.ofString "square") = some (matPV M) ∧ σ (Str.ofString "side") = some (.int n) ∧ σ (Str.ofString "told") = some (.int (toldLines M n + sumTo (fun r => sumTo (blk M r) (n - 1)) i))) R.h rfl rfl (fun _ => rfl) ?_)
  refine EV.call_ty (T := "range") (by walk_at "bi") rfl (h := ?_)
  refine EVL.cons (EV.binop ?_)
  walk_at "nm"
  refine EV.c_int (BIN.sub (EVL.nil (CALL.range1 ?_)))
  refine ⟨0, (n : Int) - 1, rfl, by omega, by omega, ⟨rfl, by walk_at "sto", by walk_at "sto", ?_⟩, ?_, ?_⟩
  · rw [e3, sumTo, Int.add_zero]
  · clear e1 e2 e3
    rintro i σ' m' hi ⟨rfl, q1, q2, q3⟩
    have hi' : i + 1 < n := by rw [hrs] at hi; omega
    rw [Int.zero_add]
    refine EX.cons (ES.for_range (fun k σ m => m = m' ∧ σ (Str.ofString "square") = some (matPV M) ∧ σ (Str.ofString "side") = some (.int n) ∧ σ (Str.ofString "r") = some (.int i) ∧
      σ (Str.ofString "told") = some (.int (toldLines M n + sumTo (fun r => sumTo (blk M r) (n - 1)) i + sumTo (blk M i) k))) R.h rfl rfl (fun _ => rfl) ?_)
    refine EV.call_ty (T := "range") (by walk_at "bi") rfl (h := ?_)
    refine EVL.cons (EV.binop ?_)
    walk_at "nm"
    refine EV.c_int (BIN.sub (EVL.nil (CALL.range1 ?_)))
    refine ⟨0, (n : Int) - 1, rfl, by omega, by omega, ⟨rfl, by walk_at "sto", by walk_at "sto", by simp only [Sto.set_eq, ↓reduceIte], ?_⟩, ?_, ?_⟩
    · simp only [Sto.set_eq, ne_11, ↓reduceIte, q3, sumTo, Int.add_zero]
    · clear q1 q2 q3
      rintro k σ'' m'' hk ⟨rfl, q1, q2, q3, q4⟩
      have hk' : k + 1 < n := by rw [hrs] at hk; omega
      rw [Int.zero_add]
      refine EX.cons (ES.if (TR.mono (Q := fun b m => m = m'' ∧ b = ((cell M i k == cell M i (k + 1)) && ((cell M i (k + 1) == cell M (i + 1) k) && (cell M (i + 1) k == cell M (i + 1) (k + 1))))) (TR.chain rfl (EV.sub (EV.sub ?_))) ?_))
      · walk_at "nm"; walk_at "nm"
        refine SUBS.at i (fun _ _ => rfl) rfl (by omega) (mat_get hM (by omega)) ?_
        walk_at "nm"
        refine SUBS.at k (fun _ _ => rfl) rfl (by omega) (row_get hM (by omega) (by omega)) (CHAIN.link (EV.sub (EV.sub ?_)))
        walk_at "nm"; walk_at "nm"
        refine SUBS.at i (fun _ _ => rfl) rfl (by omega) (mat_get hM (by omega)) (EV.binop ?_)
        walk_at "nm"
        refine EV.c_int (BIN.add (SUBS.at (k + 1) (fun _ _ => rfl) (by omega) (by omega) (row_get hM (by omega) (by omega)) (CMP.eq_bool ⟨_, rfl, ?_⟩)))
        cases (cell M i k == cell M i (k + 1)) with
        | false => exact iteF ⟨rfl, rfl⟩
        | true =>
          refine iteT (CHAIN.link (EV.sub (EV.sub ?_)))
          walk_at "nm"
          refine EV.binop ?_
          walk_at "nm"
          refine EV.c_int (BIN.add (SUBS.at (i + 1) (fun _ _ => rfl) (by omega) (by omega) (mat_get hM (by omega)) ?_))
          walk_at "nm"
          refine SUBS.at k (fun _ _ => rfl) rfl (by omega) (row_get hM (by omega) (by omega)) (CMP.eq_bool ⟨_, rfl, ?_⟩)
          cases (cell M i (k + 1) == cell M (i + 1) k) with
          | false => exact iteF ⟨rfl, rfl⟩
          | true =>
            refine iteT (CHAIN.last (EV.sub (EV.sub ?_)))
            walk_at "nm"
            refine EV.binop ?_
            walk_at "nm"
            refine EV.c_int (BIN.add (SUBS.at (i + 1) (fun _ _ => rfl) (by omega) (by omega) (mat_get hM (by omega)) (EV.binop ?_)))
            walk_at "nm"
            exact EV.c_int (BIN.add (SUBS.at (k + 1) (fun _ _ => rfl) (by omega) (by omega) (row_get hM (by omega) (by omega)) (CMP.eq_bool ⟨_, rfl, rfl, by simp⟩)))
      · rintro b m ⟨rfl, hb⟩
        have hblk : blk M i k = if b then 3 else 0 := by
          rw [hb]; unfold blk
          cases cell M i k <;> cases cell M i (k + 1) <;> cases cell M (i + 1) k <;> cases cell M (i + 1) (k + 1) <;> rfl
        clear hb
        cases b with
        | true =>
          refine iteT (EX.cons (ES.assign o5 (EV.binop ?_)))
          walk_at "nm"
          refine EV.c_int (BIN.add (EX.nil (EX.nil ⟨rfl, by walk_at "sto", by walk_at "sto", by walk_at "sto", ?_⟩)))
          simp only [Sto.set_eq, ↓reduceIte, sumTo_succ, hblk, Int.add_assoc]
        | false =>
          refine iteF (EX.nil (EX.nil ⟨rfl, by walk_at "sto", by walk_at "sto", by walk_at "sto", ?_⟩))
          simp only [Sto.set_eq, ne_11, ↓reduceIte, sumTo_succ, hblk, q4, Bool.false_eq_true, Int.add_zero]
    · clear q1 q2 q3
      rintro σ'' m'' ⟨rfl, q1, q2, q3, q4⟩
      rw [hrs, Int.toNat_natCast] at q4
      refine EX.nil ⟨rfl, q1, q2, ?_⟩
      rw [q4, sumTo_succ, Int.add_assoc]
  · clear e1 e2 e3
    rintro σ' m' ⟨rfl, q1, q2, q3⟩
    rw [hrs, Int.toNat_natCast] at q3
    refine EX.cons (ES.assign o8 (EV.call_bi (id := "sum") (by walk_at "bi") rfl (h := ?_)))
    refine EVL.cons (EV.comp2 (cl := []) innOf tOf (fun _ => .int 1) ⟨rfl, rfl, (by decide), (fun _ => rfl), Cap.nil, (fun C => ⟨rfl, .inl rfl⟩), rfl⟩ (fun C => ⟨rfl, .inl rfl⟩) rfl (by decide) (fun _ _ => rfl) ?_)
    walk_at "nm"
    have hfl := flat_len M (fun r hr => by rw [hM.rows r hr]; exact h13)
    refine ⟨M.map rowPV, ITER.list R.h, by rw [sizeLine_eq]; have := hM.len; omega, fun C i q m2 hq hm2 => ?_, fun C i q r j m2 hq hr hm2 => ?_, EVL.nil ?_⟩
    · rw [List.getElem?_map] at hq
      obtain ⟨row, hrow, rfl⟩ := Option.map_eq_some_iff.mp hq
      exact EV.name ⟨rfl, .inl rfl⟩ (by decide +kernel) (p := rowPV row) (by unfold Sto.set; rw [if_pos rfl]) ⟨rfl, ITER.list R.h⟩
    · rw [List.getElem?_map] at hq
      obtain ⟨row, hrow, rfl⟩ := Option.map_eq_some_iff.mp hq
      have hr : (row.map PV.bool)[j]? = some r := hr
      rw [List.getElem?_map] at hr
      obtain ⟨bb, hbb, rfl⟩ := Option.map_eq_some_iff.mp hr
      refine ⟨?_, fun _ => EV.c_int ⟨rfl, rfl⟩⟩
      exact TR.of (fun _ => rfl) (EV.name ⟨rfl, .inl rfl⟩ (by decide +kernel) (p := .bool bb) (by unfold Sto.set; rw [if_pos rfl]) ⟨bb, rfl, rfl, rfl⟩)
    have el : ((((M.map rowPV).flatMap innOf).filter tOf).map fun _ => PV.int 1) = (((((M.map rowPV).flatMap innOf).filter tOf).map fun _ => (1 : Int)).map .int) := by rw [List.map_map]; rfl
    rw [el]
    refine CALL.sum_ints R.h ?_
    rw [dark_sum]
    have hn2 : (n : Int) * n ≤ 169 := Int.le_trans (Int.mul_le_mul (by omega : (n : Int) ≤ 13) (by omega : (n : Int) ≤ 13) (by omega) (by omega)) (by decide)
    have hn0 : 0 < (n : Int) * n := Int.mul_pos (by omega) (by omega)
    have hnb : IntMulOk (n : Int) n := .of_left (intBits_le_64 (by omega) (by omega))
    generalize hdk : (M.map cnt).sum = dk
    refine EX.cons (ES.assign o9 (EV.call_bi (id := "max") (by walk_at "bi") rfl (h := ?_)))
    refine EVL.cons (EV.binop (EV.binop (EV.c_int ?_)))
    walk_at "nm"
    refine BIN.mul (.of_left (by decide)) (EV.binop ?_)
    walk_at "nm"; walk_at "nm"
    refine BIN.mul hnb (BIN.sub (EVL.cons (EV.binop (EV.binop ?_))))
    walk_at "nm"; walk_at "nm"
    refine BIN.mul hnb (EV.binop (EV.c_int ?_))
    walk_at "nm"
    refine BIN.mul (.of_left (by decide)) (BIN.sub (EVL.nil (CALL.max2 R.h ?_)))
    have haw : (if (n : Int) * n - 2 * dk > 2 * dk - (n : Int) * n then (n : Int) * n - 2 * dk else 2 * dk - (n : Int) * n) = awayOf dk n := rfl
    rw [haw]
    refine EX.cons (ES.ret (EV.cmp rfl (EV.call_fn (b := T.a1) (by walk_at "gl") g1 f1 (h := ?_))))
    refine EVL.cons ?_
    walk_at "nm"
    refine EVL.nil (CALL.at [(Str.ofString "modules")] (R.le (by decide : 3 ≤ 4)) T.f1 (fun pm cd doc vs hv => ?_) (by decide) rfl rfl rfl fun L' cd' A' R' => lostPoint T R' hM (by omega) (by omega) hpo1 fun more => EV.binop ?_)
    · obtain ⟨v, rfl⟩ := len1 hv; rfl
    walk_at "nm"
    refine EV.binop (EV.c_int (EV.binop (EV.binop (EV.c_int ?_))))
    walk_at "nm"
    refine BIN.mul (.of_left (by decide)) (EV.binop ?_)
    walk_at "nm"; walk_at "nm"
    refine BIN.mul hnb (BIN.div (by omega) (PyProof.noPylong_small (by omega)) (BIN.mul (.of_left (by decide)) (BIN.add (CMP.eq_int ⟨more, hle1 more, ?_⟩))))
    have fin := hQ M n more h2 h13 hM
    unfold lawSays at fin
    rw [hdk] at fin
    exact fin
end Mine
namespace Mine
-- the box of runs
def W (n : Nat) (cs : List Int) : Int := preSum (fun i => cs.getD (5 + i) 0 * (((5 + i : Nat) : Int) - 2)) (n + 1 - 5)
def gap (l : Nat) : Int := if 5 ≤ l then (l : Int) - 2 else 0
theorem preSum_upd {f h : Nat → Int} {d : Int} {j : Nat} : ∀ {m : Nat}, (∀ i, i ≠ j → h i = f i) → h j = f j + d → preSum h m = preSum f m + (if j < m then d else 0)
  | 0, _, _ => by simp [preSum]
  | m + 1, e, ej => by
    rw [preSum, preSum, preSum_upd e ej]
    by_cases hm : m = j
    · subst hm; rw [ej, if_neg (Nat.lt_irrefl _), if_pos (Nat.lt_succ_self _)]; omega
    · rw [e m hm]
      by_cases h1 : j < m
      · rw [if_pos h1, if_pos (Nat.lt_succ_of_lt h1)]; omega
      · rw [if_neg h1, if_neg (by omega)]; omega
theorem W_bump {n l : Nat} {cs : List Int} (hc : cs.length = n + 1) (hl : l ≤ n) : W n (bump l cs) = W n cs + gap l := by
  unfold bump gap
  by_cases h5 : 5 ≤ l
  · rw [if_pos h5, if_pos h5]
    unfold W
    rw [preSum_upd (f := fun i => cs.getD (5 + i) 0 * (((5 + i : Nat) : Int) - 2)) (d := (l : Int) - 2) (j := l - 5), if_pos (by omega)]
    · intro i hi
      have : l ≠ 5 + i := by omega
      have e : (cs.set l (cs.getD l 0 + 1)).getD (5 + i) 0 = cs.getD (5 + i) 0 := by
        rw [List.getD_eq_getElem?_getD, List.getElem?_set_ne this, List.getD_eq_getElem?_getD]
      show _ * _ = _ * _
      rw [e]
    · have e : 5 + (l - 5) = l := by omega
      have e2 : (cs.set l (cs.getD l 0 + 1)).getD l 0 = cs.getD l 0 + 1 := by
        rw [List.getD_eq_getElem?_getD, List.getElem?_set_self (by omega)]; rfl
      show (cs.set l (cs.getD l 0 + 1)).getD (5 + (l - 5)) 0 * (((5 + (l - 5) : Nat) : Int) - 2) = cs.getD (5 + (l - 5)) 0 * (((5 + (l - 5) : Nat) : Int) - 2) + ((l : Int) - 2)
      rw [e, e2, Int.add_mul, Int.one_mul]
  · rw [if_neg h5, if_neg h5, Int.add_zero]

theorem runs_go {f : Nat → Bool} {r : List Bool} {n : Nat} {cs : List Int} (hr : r.length = n) (hf : ∀ k, f k = r.getD k false) (hc : cs.length = n + 1) :
    ∀ k, k + 1 ≤ n → (lineGo f cs (k + 1)).p = f k ∧
      runsGo r (k + 1) = (if k + 1 = n ∨ f (k + 1) ≠ f k then (W n (lineGo f cs (k + 1)).cs - W n cs + gap (lineGo f cs (k + 1)).l, 0) else (W n (lineGo f cs (k + 1)).cs - W n cs, (lineGo f cs (k + 1)).l)) := by
  intro k
  induction k with
  | zero =>
    intro hk
    have e : lineGo f cs 1 = ⟨f 0, 1, cs⟩ := by
      show (lineGo f cs 0).step (f 0) = _
      unfold LS.step lineGo
      rw [if_pos rfl]
    rw [e]
    refine ⟨rfl, ?_⟩
    show runsGo r 1 = _
    unfold runsGo
    rw [hr, ← hf, ← hf]
    by_cases h : 0 + 1 = n ∨ f (0 + 1) ≠ f 0
    · rw [if_pos h, if_pos h]; simp [runsGo, gap]
    · rw [if_neg h, if_neg h]; simp [runsGo]
  | succ k ih =>
    intro hk
    obtain ⟨hp, hg⟩ := ih (by omega)
    have hl := lineGo_l f cs (k + 1)
    have hcl := lineGo_length f cs (k + 1)
    have estep : lineGo f cs (k + 1 + 1) = (lineGo f cs (k + 1)).step (f (k + 1)) := rfl
    generalize lineGo f cs (k + 1) = s at hp hg hl hcl estep
    rw [estep]
    have erun : runsGo r (k + 1 + 1) = if k + 1 + 1 = r.length ∨ r.getD (k + 1 + 1) false ≠ r.getD (k + 1) false then ((runsGo r (k + 1)).1 + (if (runsGo r (k + 1)).2 + 1 > 4 then (((runsGo r (k + 1)).2 : Int) + 1) - 2 else 0), 0) else ((runsGo r (k + 1)).1, (runsGo r (k + 1)).2 + 1) := rfl
    rw [erun, hr, ← hf, ← hf]
    by_cases hs : f (k + 1) = f k
    · have hcond : ¬ (k + 1 = n ∨ f (k + 1) ≠ f k) := fun h => h.elim (fun h => by omega) (fun h => h hs)
      rw [if_neg hcond] at hg
      have e : s.step (f (k + 1)) = ⟨s.p, s.l + 1, s.cs⟩ := by unfold LS.step; rw [if_pos (by rw [hs, hp])]
      rw [e, hg]
      refine ⟨by rw [hp, hs], ?_⟩
      by_cases h : k + 1 + 1 = n ∨ f (k + 1 + 1) ≠ f (k + 1)
      · rw [if_pos h, if_pos h]
        show (_, _) = (_, _)
        congr 1
      · rw [if_neg h, if_neg h]
    · have hcond : (k + 1 = n ∨ f (k + 1) ≠ f k) := .inr hs
      rw [if_pos hcond] at hg
      have e : s.step (f (k + 1)) = ⟨f (k + 1), 1, bump s.l s.cs⟩ := by unfold LS.step; rw [if_neg (by rw [hp]; exact hs)]
      rw [e, hg]
      refine ⟨rfl, ?_⟩
      have hW := W_bump (n := n) (l := s.l) (cs := s.cs) (by rw [hcl, hc]) (by omega)
      by_cases h : k + 1 + 1 = n ∨ f (k + 1 + 1) ≠ f (k + 1)
      · rw [if_pos h, if_pos h]
        show (_, _) = (_, _)
        congr 1
        show W n s.cs - W n cs + gap s.l + _ = W n (bump s.l s.cs) - W n cs + gap 1
        rw [hW]
        simp [gap]
        omega
      · rw [if_neg h, if_neg h]
        show (_, _) = (_, _)
        congr 1
        show W n s.cs - W n cs + gap s.l = W n (bump s.l s.cs) - W n cs
        rw [hW]; omega
theorem W_line {f : Nat → Bool} {r : List Bool} {n : Nat} {cs : List Int} (h1 : 1 ≤ n) (hr : r.length = n) (hf : ∀ k, f k = r.getD k false) (hc : cs.length = n + 1) :
    W n (lineEnd f n cs) = W n cs + runsOf r := by
  obtain ⟨k, rfl⟩ : ∃ k, n = k + 1 := ⟨n - 1, by omega⟩
  obtain ⟨_, hg⟩ := runs_go hr hf hc k (Nat.le_refl _)
  rw [if_pos (.inl rfl)] at hg
  unfold lineEnd runsOf
  have hl := lineGo_l f cs (k + 1)
  have hcl := lineGo_length f cs (k + 1)
  rw [W_bump (by rw [hcl, hc]) hl, hr, hg]
  show _ = W (k + 1) cs + (W (k + 1) _ - W (k + 1) cs + gap _)
  omega
theorem W_lines {F : Nat → Nat → Bool} {rs : Nat → List Bool} {n : Nat} {cs : List Int} (h1 : 1 ≤ n) (hr : ∀ i, i < n → (rs i).length = n) (hf : ∀ i, i < n → ∀ k, F i k = (rs i).getD k false) (hc : cs.length = n + 1) :
    ∀ i, i ≤ n → W n (linesGo F n cs i) = W n cs + sumTo (fun i => runsOf (rs i)) i
  | 0, _ => by simp [linesGo, sumTo]
  | i + 1, h => by
    rw [linesGo, W_line h1 (hr i h) (hf i h) (by rw [linesGo_length, hc]), W_lines h1 hr hf hc i (by omega), sumTo, Int.add_assoc]
theorem W_zero (n : Nat) : W n (List.replicate (n + 1) 0) = 0 := by
  unfold W
  have : ∀ m, preSum (fun i => (List.replicate (n + 1) (0 : Int)).getD (5 + i) 0 * (((5 + i : Nat) : Int) - 2)) m = 0 := by
    intro m
    induction m with
    | zero => rfl
    | succ m ih =>
      rw [preSum, ih]
      have e : (List.replicate (n + 1) (0 : Int)).getD (5 + m) 0 = 0 := by
        rw [List.getD_eq_getElem?_getD, List.getElem?_replicate]
        split <;> rfl
      rw [e]; simp
  exact this _
def colOf (M : List (List Bool)) (k : Nat) : List Bool := M.map fun row => row.getD k false
theorem colOf_get (M : List (List Bool)) (k r : Nat) : cell M r k = (colOf M k).getD r false := by
  unfold cell colOf
  rw [List.getD_eq_getElem?_getD (l := M.map _), List.getElem?_map, List.getD_eq_getElem?_getD (l := M)]
  cases M[r]? with
  | none => simp
  | some row => rfl
theorem lvl1_eq {M : List (List Bool)} {n : Nat} (h1 : 1 ≤ n) (hM : Sq M n) : lvl1 M n = sumTo (fun i => runsOf (M.getD i [])) n + sumTo (fun k => runsOf (colOf M k)) n := by
  show W n (boxes M n) = _
  unfold boxes
  rw [W_lines (rs := fun k => colOf M k) h1 (fun i hi => by rw [colOf, List.length_map, hM.len]) (fun i hi k => colOf_get M i k) (by rw [linesGo_length, List.length_replicate]) n (Nat.le_refl _),
    W_lines (F := fun i c => cell M i c) (rs := fun i => M.getD i []) h1 (fun i hi => hM.rowLen hi) (fun i hi k => rfl) (by rw [List.length_replicate]) n (Nat.le_refl _), W_zero, Int.zero_add]
end Mine
namespace Mine
def chN (b : Bool) : Nat := if b then 49 else 48
def patB (b0 b1 b2 b3 b4 b5 b6 b7 b8 b9 b10 : Bool) : Bool :=
  !b1 && (b4 && (!b5 && (b6 && (!b9 &&
    (((b0 && (b2 && (b3 && (!b7 && (!b8 && (!b10 && true)))))) ||
     ((!b0 && (!b2 && (!b3 && (b7 && (b8 && (b10 && true)))))) || false)) && true)))))
theorem pa1_cps : pa1.cps.toList = [49, 48, 49, 49, 49, 48, 49, 48, 48, 48, 48] := by decide +kernel
theorem pa2_cps : pa2.cps.toList = [48, 48, 48, 48, 49, 48, 49, 49, 49, 48, 49] := by decide +kernel
theorem str_eq (x y : Str) : (x == y) = decide (x.cps.toList = y.cps.toList) := by
  rw [Bool.eq_iff_iff]
  simp only [beq_iff_eq, decide_eq_true_eq]
  constructor
  · rintro rfl; rfl
  · intro h
    cases x; cases y
    simp only [Array.toList_inj] at h
    rw [h]
theorem list_pat : ∀ b0 b1 b2 b3 b4 b5 b6 b7 b8 b9 b10 : Bool,
    (decide ([49, 48, 49, 49, 49, 48, 49, 48, 48, 48, 48] = [chN b0, chN b1, chN b2, chN b3, chN b4, chN b5, chN b6, chN b7, chN b8, chN b9, chN b10]) ||
      (decide ([48, 48, 48, 48, 49, 48, 49, 49, 49, 48, 49] = [chN b0, chN b1, chN b2, chN b3, chN b4, chN b5, chN b6, chN b7, chN b8, chN b9, chN b10]) || false)) = patB b0 b1 b2 b3 b4 b5 b6 b7 b8 b9 b10 := by
  decide +kernel
theorem drop11 {r : List Bool} {k : Nat} (h : k + 11 ≤ r.length) : ((r.map chN).drop k).take 11 =
    [chN (r.getD k false), chN (r.getD (k + 1) false), chN (r.getD (k + 2) false), chN (r.getD (k + 3) false), chN (r.getD (k + 4) false), chN (r.getD (k + 5) false), chN (r.getD (k + 6) false), chN (r.getD (k + 7) false), chN (r.getD (k + 8) false), chN (r.getD (k + 9) false), chN (r.getD (k + 10) false)] := by
  have g : ∀ j, k + j < r.length → (r.map chN)[k + j]? = some (chN (r.getD (k + j) false)) := fun j hj => by
    rw [List.getElem?_map, List.getD_eq_getElem?_getD, List.getElem?_eq_getElem hj]; rfl
  apply List.ext_getElem?
  intro i
  rw [List.getElem?_take]
  by_cases hi : i < 11
  · rw [if_pos hi, List.getElem?_drop, g i (by omega)]
    match i, hi with
    | 0, _ => rfl
    | 1, _ => rfl
    | 2, _ => rfl
    | 3, _ => rfl
    | 4, _ => rfl
    | 5, _ => rfl
    | 6, _ => rfl
    | 7, _ => rfl
    | 8, _ => rfl
    | 9, _ => rfl
    | 10, _ => rfl
    | n + 11, h => exact absurd h (by omega)
  · rw [if_neg hi]
    exact (List.getElem?_eq_none (by simp; omega)).symm
theorem isMark_eq {r : List Bool} {k : Nat} (h : k + 11 ≤ r.length) : isMark r k = pat (fun c => r.getD c false) k := by
  unfold isMark
  show (pa1 == cutS (textOf r) k (k + 11) || (pa2 == cutS (textOf r) k (k + 11) || false)) = _
  have ec : (cutS (textOf r) k (k + 11)).cps.toList = ((r.map chN).drop k).take 11 := by
    unfold cutS textOf
    show ((((r.map _).toArray).toList.drop k).take (k + 11 - k)).toArray.toList = _
    rw [Nat.add_sub_cancel_left]; rfl
  rw [str_eq, str_eq, ec, pa1_cps, pa2_cps, drop11 h, list_pat]
  rfl
theorem filter_sum (p : Nat → Bool) : ∀ m, (40 * (((List.range m).filter p).length : Int)) = sumTo (fun k => if p k then 40 else 0) m
  | 0 => rfl
  | m + 1 => by
    rw [List.range_succ, List.filter_append, List.length_append, sumTo, ← filter_sum p m]
    cases hp : p m with
    | true => rw [List.filter_cons_of_pos hp]; simp; omega
    | false => rw [List.filter_cons_of_neg (by rw [hp]; exact Bool.false_ne_true)]; simp
theorem marks_eq {r : List Bool} {n : Nat} (hr : r.length = n) : marksOf r = sumTo (pts fun c => r.getD c false) (n - 10) := by
  unfold marksOf
  rw [filter_sum, hr]
  refine sumTo_congr fun k hk => ?_
  unfold pts
  rw [isMark_eq (by omega)]
theorem list_sum (h : List Bool → Int) {M : List (List Bool)} {n : Nat} (hM : M.length = n) : (M.map h).sum = sumTo (fun i => h (M.getD i [])) n := by
  subst hM
  have key : ∀ k, k ≤ M.length → ((M.take k).map h).sum = sumTo (fun i => h (M.getD i [])) k := by
    intro k
    induction k with
    | zero => intro _; rfl
    | succ k ih =>
      intro hk
      rw [List.take_succ_eq_append_getElem (by omega), List.map_append, List.sum_append, ih (by omega), sumTo]
      congr 1
      have : M.getD k [] = M[k] := by rw [List.getD_eq_getElem?_getD, List.getElem?_eq_getElem (by omega)]; rfl
      rw [this]; simp
  have := key M.length (Nat.le_refl _)
  rwa [List.take_length] at this
theorem tr_get {M : List (List Bool)} {n k : Nat} (hk : k < n) : (tr M n).getD k [] = colOf M k := by
  unfold tr colOf
  rw [List.getD_eq_getElem?_getD, List.getElem?_map, List.getElem?_range hk]; rfl
theorem sumTo_add (f h : Nat → Int) : ∀ n, sumTo (fun i => f i + h i) n = sumTo f n + sumTo h n
  | 0 => rfl
  | n + 1 => by rw [sumTo, sumTo, sumTo, sumTo_add f h n]; omega
theorem told_eq {M : List (List Bool)} {n : Nat} (h1 : 1 ≤ n) (hM : Sq M n) : toldLines M n = lvl1 M n + lvl3 M n := by
  unfold toldLines
  have hT : Sq (tr M n) n := tr_sq hM.len
  rw [List.map_append, List.sum_append, list_sum lineSum hM.len, list_sum lineSum hT.len, lvl1_eq h1 hM]
  have e1 : sumTo (fun i => lineSum (M.getD i [])) n = sumTo (fun i => runsOf (M.getD i [])) n + sumTo (fun r => sumTo (pts fun c => cell M r c) (n - 10)) n := by
    rw [← sumTo_add]
    refine sumTo_congr fun i hi => ?_
    show runsOf _ + marksOf _ = _
    rw [marks_eq (hM.rowLen hi)]; rfl
  have e2 : sumTo (fun i => lineSum ((tr M n).getD i [])) n = sumTo (fun k => runsOf (colOf M k)) n + sumTo (fun c => sumTo (pts fun r => cell M r c) (n - 10)) n := by
    rw [← sumTo_add]
    refine sumTo_congr fun i hi => ?_
    rw [tr_get hi]
    show runsOf _ + marksOf _ = _
    rw [marks_eq (by rw [colOf, List.length_map, hM.len])]
    congr 1
    refine sumTo_congr fun k _ => ?_
    have : (fun r => cell M r i) = fun c => (colOf M i).getD c false := by funext r; exact colOf_get M i r
    rw [this]
  rw [e1, e2]
  unfold lvl3
  omega
theorem lvl4_eq {M : List (List Bool)} {n : Nat} : lvl4 M n = 10 * (10 * awayOf (M.map cnt).sum n).fdiv ((n : Int) * n) := by
  unfold lvl4
  have : absI (20 * (M.map cnt).sum - 10 * ((n : Int) * n)) = 10 * awayOf (M.map cnt).sum n := by
    unfold absI awayOf
    generalize (n : Int) * n = z
    split <;> split <;> omega
  rw [this, Int.mul_comm]
theorem law_true {M : List (List Bool)} {n : Nat} (h2 : 2 ≤ n) (hM : Sq M n) : (pts4 M n == lawSays M n) = true := by
  have : pts4 M n = lawSays M n := by
    unfold pts4 lawSays
    rw [told_eq (by omega) hM, lvl4_eq]
    omega
  rw [this]; simp
end Mine
namespace Mine
def goneObj : Obj := { cls := .none, data := .freed }
/-- the heap without one object -/
def without (h : Heap) (P : Addr) : Heap := h.update P fun _ => goneObj
theorem without_ne {h : Heap} {P b : Addr} (hb : b ≠ P) : (without h P).get? b = h.get? b := Heap.get?_update_other _ _ (Ne.symm hb)
theorem without_self {h : Heap} {P : Addr} : (without h P).get? P = none := by
  cases e : (without h P).get? P with
  | none => rfl
  | some o =>
    obtain ⟨e1, e2⟩ := Heap.get?_some_iff.mp e
    exfalso
    unfold without Heap.update at e1
    simp only [Array.getElem?_modify, if_true] at e1
    cases h1 : h.objs[P]? with
    | none => rw [h1] at e1; cases e1
    | some x =>
      rw [h1] at e1
      have : goneObj = o := Option.some.inj e1
      rw [← this] at e2
      cases e2
theorem without_le {h : Heap} {P b : Addr} {o : Obj} (e : (without h P).get? b = some o) : b ≠ P ∧ h.get? b = some o := by
  have hb : b ≠ P := by rintro rfl; rw [without_self] at e; cases e
  exact ⟨hb, by rw [without_ne hb] at e; exact e⟩
theorem ns_ne {h : Heap} {a P : Addr} {m : Str → Option Value} {ps : Array Value} (n : h.Ns a m) (hP : h.get? P = some (tabObj ps)) : a ≠ P := by
  rintro rfl
  obtain ⟨o, es, ep, ho, hd, _⟩ := n
  rw [hP] at ho; cases ho; cases hd

def recAt (p : Program) (i : Nat) : Prop := ∃ d ∈ recsOf p, d.name = fnName i ∧ d.params = fnArgs i ∧ d.body = fnBody i ∧ d.scope = fnScope i
section
variable {p : Program} {loose : List Str} {mean : ExcName → Option Value} {mg mb : Str → Option Value} {h : Heap} {P : Addr}
theorem topRead_without (T : Top p loose mean mg mb h) (hP : h.get? P = some (tabObj #[])) : TopRead p loose mg mb (without h P) where
  g := T.g.at' fun o e => (without_ne (ns_ne T.g hP)).trans e
  b := T.b.at' fun o e => (without_ne (ns_ne T.b hP)).trans e
  nolimit := let ⟨mc, hn, hm⟩ := T.nolimit; ⟨mc, hn.at' fun o e => (without_ne (ns_ne hn hP)).trans e, hm⟩
  builtins := T.builtins
  free := T.free
theorem fnAt_of {g : G} (T : Top p loose mean mg mb h) (hP : h.get? P = some (tabObj #[])) (hB : g.B = without h P) {i : Nat} (hr : recAt p i) : ∃ a, mg (fnName i) = some (.ref a) ∧ FnAt g a i := by
  obtain ⟨d, hd, h1, h2, h3, h4⟩ := hr
  obtain ⟨a, o, pm, code, doc, e1, e2, e3, e4⟩ := T.fn d hd
  rw [h1] at e1
  refine ⟨a, e1, ⟨o, pm, code, doc, ?_, by rw [e3, h1, h2, h3, h4]; rfl, ?_⟩⟩
  · have : a ≠ P := by rintro rfl; rw [hP] at e2; cases e2; cases e3
    rw [hB, without_ne this]; exact e2
  · obtain ⟨c, oc, vs, t, rfl, k1, k2, k3⟩ := e4
    refine ⟨c, oc, vs, t, rfl, ?_, k2, by rw [← h1]; exact k3⟩
    have : c ≠ P := by
      rintro rfl
      rw [hP] at k1; cases k1
      have k2 : Data.fields #[] = Data.fields vs := k2
      cases k2
      simp at k3
    rw [hB, without_ne this]; exact k1

theorem tops_of (prog : Program) (w : World) (os : OsState) (T : Top p loose mean mg mb h) (hr : ∀ i, i ∈ [1, 2, 3, 4, 5, 7, 8, 9, 10] → recAt p i)
    (hf : ∀ x, x ∈ [Str.ofString "len", Str.ofString "range", Str.ofString "sum", Str.ofString "max", Str.ofString "abs", Str.ofString "iter", Str.ofString "next", Str.ofString "map"] → mg x = none) :
    ∃ P, h.get? P = some (tabObj #[]) ∧ isCodeTable h P ∧ ∃ g : G, g.prog = prog ∧ g.w = w ∧ g.os = os ∧ g.B = without h P ∧ g.mg = mg ∧ ∃ T : Tops g, T.P2 = P := by
  obtain ⟨d, hd, h1, h2, h3, h4⟩ := hr 2 (by decide)
  obtain ⟨a, o, fd, c, P, e1, e2, e3, e4, e5, e6⟩ := T.tab d hd
  rw [h1] at e1
  have hP : h.get? P = some (tabObj #[]) := e6.2
  refine ⟨P, hP, e6.isCodeTable, ⟨prog, w, without h P, p, loose, mg, mb, os, topRead_without T hP⟩, rfl, rfl, rfl, rfl, rfl, ?_⟩
  obtain ⟨a1, n1, f1⟩ := fnAt_of (g := ⟨prog, w, without h P, p, loose, mg, mb, os, topRead_without T hP⟩) T hP rfl (hr 1 (by decide))
  obtain ⟨a2, n2, f2⟩ := fnAt_of (g := ⟨prog, w, without h P, p, loose, mg, mb, os, topRead_without T hP⟩) T hP rfl (hr 2 (by decide))
  obtain ⟨a3, n3, f3⟩ := fnAt_of (g := ⟨prog, w, without h P, p, loose, mg, mb, os, topRead_without T hP⟩) T hP rfl (hr 3 (by decide))
  obtain ⟨a4, n4, f4⟩ := fnAt_of (g := ⟨prog, w, without h P, p, loose, mg, mb, os, topRead_without T hP⟩) T hP rfl (hr 4 (by decide))
  obtain ⟨a5, n5, f5⟩ := fnAt_of (g := ⟨prog, w, without h P, p, loose, mg, mb, os, topRead_without T hP⟩) T hP rfl (hr 5 (by decide))
  obtain ⟨a7, n7, f7⟩ := fnAt_of (g := ⟨prog, w, without h P, p, loose, mg, mb, os, topRead_without T hP⟩) T hP rfl (hr 7 (by decide))
  obtain ⟨a8, n8, f8⟩ := fnAt_of (g := ⟨prog, w, without h P, p, loose, mg, mb, os, topRead_without T hP⟩) T hP rfl (hr 8 (by decide))
  obtain ⟨a9, n9, f9⟩ := fnAt_of (g := ⟨prog, w, without h P, p, loose, mg, mb, os, topRead_without T hP⟩) T hP rfl (hr 9 (by decide))
  obtain ⟨a10, n10, f10⟩ := fnAt_of (g := ⟨prog, w, without h P, p, loose, mg, mb, os, topRead_without T hP⟩) T hP rfl (hr 10 (by decide))
  rw [n2] at e1
  cases e1
  have haP : a ≠ P := by rintro rfl; rw [hP] at e2; cases e2; cases e3
  refine ⟨⟨hf _ (by simp), hf _ (by simp), hf _ (by simp), hf _ (by simp), hf _ (by simp), hf _ (by simp), hf _ (by simp), hf _ (by simp),
    a1, a, a3, a4, a5, a7, a8, a9, a10, n1, n2, n3, n4, n5, n7, n8, n9, n10, ?_, c, P, ⟨o, fd, (without_ne haP).trans e2, e3, e4⟩, ?_, f1, f2, f3, f4, f5, f7, f8, f9, f10⟩, rfl⟩
  · obtain ⟨bm, ob, k1, k2, k3, k4, k5, k6⟩ := T.bmain
    have : bm ≠ P := by rintro rfl; rw [hP] at k3; cases k3; cases k6
    exact ⟨bm, ob, (topRead_without T hP).g, k1, k2, (without_ne this).trans k3, k4, k5, k6⟩
  · obtain ⟨oc, vs, file, tf, flags, tg, inF, text, tt, op, x1, x2, x3, x4, x5, x6, x7, x8, x9, x10, x11⟩ := e5
    obtain ⟨⟨oc', vs', y1, y2, y3, y4⟩, _⟩ := e6
    rw [x1] at y1; cases y1
    rw [x2] at y3; cases y3
    exact ⟨oc, vs, file, tf, flags, tg, inF, text, tt, (without_ne x11).trans x1, x2, x3, x4, x5, x6, x7, x11, y2, y4⟩
end
end Mine
namespace Mine
theorem repL_ints {H : Fz} : ∀ {vs : List Value} {ns : List Int}, IntsAre vs ns → RepL H (ns.map .int) vs
  | _, _, .nil => .nil
  | _, _, .cons n t r => .cons ⟨t, rfl⟩ (repL_ints r)
theorem plain_of_well {P : Params} {h : Heap} {l : Addr} {xs : List WData} (w : Well P h (.ref l) (.list xs)) : ∃ vs : List Value, h.get? l = some { cls := .type "list", data := .seq vs.toArray } := by
  cases w with
  | list h1 h2 => exact ⟨_, h1⟩

theorem law_call {g : G} {h : Heap} {s : Shared} {fa l : Addr} {vs : List Value} {ns : List Int} {n0 : Nat} (T : Tops g) (F : FnAt g fa 11) (hB : g.B = without s.heap T.P2) (hos : g.os = s.os) (hgens : AllBare s.gens) (hP : s.heap.get? T.P2 = some (tabObj #[])) (hT : isCodeTable s.heap T.P2)
    (hl : s.heap.get? l = some { cls := .type "list", data := .seq vs.toArray }) (hI : IntsAre vs ns) (hns : ns.length ≤ 63) :
    wpAny g.M callerA (call (.ref fa) [.ref l]) (fun v s' => v = .bool true ∧ OldK s.heap s'.heap ∧ s'.os = s.os ∧ AllBare s'.gens) NoE s := by
  have hlP : l ≠ T.P2 := by
    rintro rfl
    rw [hP] at hl
    have := Option.some.inj hl
    have h2 : (tabObj #[]).cls = Value.type "list" := by rw [this]
    cases h2
  have R : Room callerA 5 := ⟨rfl, by decide, by decide⟩
  let H : Fz := fun a => if a = T.P2 then none else s.heap.get? a
  let mu : Mu := fun a => if a = T.P2 then some (.obj (tabObj #[])) else none
  have S : St g mu H s := by
    refine ⟨fun a o e => ?_, fun a o e => ?_, fun a v e => ?_, hos.symm, hgens⟩
    · show s.heap.get? a = some o
      by_cases ha : a = T.P2
      · rw [show H a = none from if_pos ha] at e; cases e
      · rw [show H a = s.heap.get? a from if_neg ha] at e; exact e
    · rw [hB] at e
      obtain ⟨h1, h2⟩ := without_le e
      show (if a = T.P2 then none else s.heap.get? a) = some o
      rw [if_neg h1]; exact h2
    · by_cases ha : a = T.P2
      · rw [show mu a = some (.obj (tabObj #[])) from if_pos ha] at e
        cases e
        subst ha
        exact ⟨if_pos rfl, hP, rfl⟩
      · rw [show mu a = none from if_neg ha] at e; cases e
  have RL : RepL H [.list (ns.map .int)] [.ref l] := by
    refine .cons ?_ .nil
    unfold Rep
    have hHl : H l = some { cls := .type "list", data := .seq vs.toArray } := by
      show (if l = T.P2 then none else s.heap.get? l) = _
      rw [if_neg hlP]; exact hl
    exact ⟨l, _, vs, rfl, hHl, ⟨_, rfl⟩, repL_ints hI⟩
  have C : CALL g callerA (.ref fa) mu [.list (ns.map .int)] (fun p m => ∃ more, p = .bool true ∧ m = mu.set T.P2 (.obj (tabObj more))) := by
    refine CALL.at [(Str.ofString "script")] R F (fun pm cd doc vs hv => ?_) (by decide) rfl rfl rfl fun L cd A' R' => lawBody T R' hns (if_pos rfl) fun M n more h2 h13 hM => ?_
    · obtain ⟨v, rfl⟩ := len1 hv; rfl
    · exact ⟨more, by rw [law_true h2 hM], rfl⟩
  refine wpAny_mono (C H [.ref l] RL s S) (fun v s' hp => ?_) fun _ _ x => x
  obtain ⟨H', mu', p, le, S', R', more, rfl, rfl⟩ := hp
  have hv : v = .bool true := R'
  have gP := (S'.mus T.P2 _ Mu.set_self).2.1
  refine ⟨hv, ⟨fun b o e => ?_, fun b o e => ?_⟩, S'.os.trans hos, S'.gens⟩
  · by_cases hb : b = T.P2
    · subst hb
      rw [hP] at e; cases e
      exact .inr (.inl ⟨hT, rfl, #[], more, rfl, by rw [gP, Array.empty_append]; rfl⟩)
    · exact .inl (S'.sub b o (le b o (by show (if b = T.P2 then none else s.heap.get? b) = _; rw [if_neg hb]; exact e)))
  · by_cases hb : b = T.P2
    · subst hb; exact ⟨_, gP⟩
    · exact ⟨o, S'.sub b o (le b o (by show (if b = T.P2 then none else s.heap.get? b) = _; rw [if_neg hb]; exact e))⟩
end Mine
set_option maxRecDepth 100000 in
set_option maxHeartbeats 8000000 in
theorem PySem.Challenge.cw_bj0059_01_holds : PySem.Challenge.rw_bj0059_01.Holds := by
  w_on
  o_law
  k_head
  (case hw => w_witness2)
  k_fill
  intro w s₀ s₁ mg mb G Y fa o pm cd doc dV kV ho hd hcd hD hmg hg args vals as hpre hlay hrd hwl hlo
  refine Ground.open G ?_
  intro T B D TE TW
  have hn : mg (Mine.fnName 11) = some (.ref fa) := hmg
  clear hd hcd hD hmg Y TE TW D B
  wrow_args hpre hlay hrd hwl hlo
  rename_i ns _ _ _ _ _ _ _ l vs _ hL _ w1 _ hI _ hlen _
  obtain ⟨us, hl⟩ := Mine.plain_of_well w1
  have hus : us.toArray = vs.toArray := by
    obtain ⟨ob, hob, _, n, hdd⟩ := hL
    rw [hl] at hob
    cases hob
    cases hdd
    rfl
  rw [hus] at hl
  obtain ⟨P, hP, hT, g, e1, e2, e3, e4, e5, TT, e6⟩ := Mine.tops_of (Challenge.rw_bj0059_01.row.prog) w s₁.os T (by
    intro i hi
    simp only [List.mem_cons, List.not_mem_nil, or_false] at hi
    rcases hi with rfl | rfl | rfl | rfl | rfl | rfl | rfl | rfl | rfl
    · exact ⟨_, List.mem_of_getElem? (i := 0) rfl, rfl, rfl, rfl, rfl⟩
    · exact ⟨_, List.mem_of_getElem? (i := 1) rfl, rfl, rfl, rfl, rfl⟩
    · exact ⟨_, List.mem_of_getElem? (i := 2) rfl, rfl, rfl, rfl, rfl⟩
    · exact ⟨_, List.mem_of_getElem? (i := 3) rfl, rfl, rfl, rfl, rfl⟩
    · exact ⟨_, List.mem_of_getElem? (i := 4) rfl, rfl, rfl, rfl, rfl⟩
    · exact ⟨_, List.mem_of_getElem? (i := 5) rfl, rfl, rfl, rfl, rfl⟩
    · exact ⟨_, List.mem_of_getElem? (i := 6) rfl, rfl, rfl, rfl, rfl⟩
    · exact ⟨_, List.mem_of_getElem? (i := 7) rfl, rfl, rfl, rfl, rfl⟩
    · exact ⟨_, List.mem_of_getElem? (i := 8) rfl, rfl, rfl, rfl, rfl⟩) (by
    intro x hx
    simp only [List.mem_cons, List.not_mem_nil, or_false] at hx
    rcases hx with rfl | rfl | rfl | rfl | rfl | rfl | rfl | rfl <;> exact T.free _ (by decide +kernel) (by decide +kernel) (by decide +kernel) (by decide +kernel) (by decide +kernel))
  subst e6
  obtain ⟨a, na, Fa⟩ := Mine.fnAt_of (g := g) T hP e4 (i := 11) ⟨_, List.mem_of_getElem? (i := 9) rfl, rfl, rfl, rfl, rfl⟩
  rw [hn] at na
  cases na
  have run := Mine.law_call (s := s₁) (l := l) (vs := vs) (ns := ns) (h := s₁.heap) (n0 := 0) TT Fa e4 e3 (.of_eq hg) hP hT hl hI (by omega)
  rw [show g.M = model Challenge.rw_bj0059_01.row.prog w by unfold Mine.G.M; rw [e1, e2]] at run
  refine wpAny_mono run (fun v s' hv => ?_) fun _ _ x => x.elim
  obtain ⟨rfl, hold, hos, hb⟩ := hv
  exact ⟨.inl ⟨_, _, [], rfl, (fun _ => rfl), ReadsW.bool true, (by first | rfl | wrow_post), fun _ => ⟨List.nodup_nil, fun _ hm => (nomatch hm)⟩⟩, hold, hos, hb⟩
