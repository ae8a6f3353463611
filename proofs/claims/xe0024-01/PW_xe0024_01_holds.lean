import PyProof.Rows.All
import Wide.All
import OpenK.AllK
import Wide.FinOn
import Lean
import PySem.Challenge.RW_xe0024_01
set_option Elab.async false
set_option maxRecDepth 100000
set_option linter.unusedVariables false

namespace Mine
open PySem PySem.W PySem.Spec PySem.Calls PyProof.Rows

/-! the heap relations -/

/-- one table of code objects: the places of the lambdas that were made -/
def TabOk (P : Addr) (qual : Str) (n0 : Nat) (h : Heap) : Prop :=
  ∃ ps : Array Value, h.get? P = some (tabObj ps) ∧ TriplesOk ps.toList ∧
    ∀ pos cv, codeAmong pos ps.toList = some cv → ∃ c oc vs t, cv = .ref c ∧ n0 ≤ c ∧ h.get? c = some oc ∧ oc.data = .fields vs ∧ vs[1]? = some (.str qual t)

def qApart : Str := "_law_apart.<locals>.<lambda>"
def qLaw : Str := "law.<locals>.<lambda>"

structure Good (H h : Heap) : Prop where
  lo : 107 < H.objs.size
  size : H.objs.size ≤ h.objs.size
  old : ∀ b o, b ≠ 100 → b ≠ 107 → H.get? b = some o → h.get? b = some o
  t1 : TabOk 100 qApart H.objs.size h
  t2 : TabOk 107 qLaw H.objs.size h

def NotFields (o : Obj) : Prop := ∀ vs, o.data ≠ .fields vs
/-- no iterator -/
def Solid (o : Obj) : Prop := ∀ vs, o.data = .fields vs → ∃ x t, vs[1]? = some (.str x t)
theorem Solid.of {o : Obj} (h : NotFields o) : Solid o := fun vs q => absurd q (h vs)

/-- h' goes on from h: nothing of the call's own is lost but what S names, and what an iterator is -/
structure Calm (H : Heap) (S : Addr → Prop) (h h' : Heap) : Prop where
  size : h.objs.size ≤ h'.objs.size
  keep : ∀ b o, ¬ S b → H.objs.size ≤ b → Solid o → h.get? b = some o → h'.get? b = some o
  good : Good H h → Good H h'

structure Ext (H : Heap) (S : Addr → Prop) (h h' : Heap) : Prop extends Calm H S h h' where
  flds : ∀ b o vs, H.objs.size ≤ b → o.data = .fields vs → h.get? b = some o → h'.get? b = some o

def Nil : Addr → Prop := fun _ => False
def At (a : Addr) : Addr → Prop := fun b => b = a

section
variable {H h h1 h2 h3 : Heap} {S S' : Addr → Prop} {a : Addr}

theorem Good.le {P : Addr} (G : Good H h) (hP : P ≤ 107) : P < H.objs.size := Nat.lt_of_le_of_lt hP G.lo

theorem Calm.refl : Calm H S h h := ⟨Nat.le_refl _, fun _ _ _ _ _ e => e, fun G => G⟩
theorem Ext.refl : Ext H S h h := ⟨.refl, fun _ _ _ _ _ e => e⟩
theorem Calm.trans (x : Calm H S h1 h2) (y : Calm H S h2 h3) : Calm H S h1 h3 :=
  ⟨Nat.le_trans x.size y.size, fun b o hb hl hn e => y.keep b o hb hl hn (x.keep b o hb hl hn e), fun G => y.good (x.good G)⟩
theorem Ext.trans (x : Ext H S h1 h2) (y : Ext H S h2 h3) : Ext H S h1 h3 :=
  ⟨x.toCalm.trans y.toCalm, fun b o vs hl hd e => y.flds b o vs hl hd (x.flds b o vs hl hd e)⟩
theorem Calm.mono (x : Calm H S h1 h2) (hS : ∀ b, S b → S' b) : Calm H S' h1 h2 :=
  ⟨x.size, fun b o hb hl hn e => x.keep b o (fun q => hb (hS b q)) hl hn e, x.good⟩
theorem Ext.mono (x : Ext H S h1 h2) (hS : ∀ b, S b → S' b) : Ext H S' h1 h2 := ⟨x.toCalm.mono hS, x.flds⟩
theorem Ext.to (x : Ext H Nil h1 h2) : Ext H S h1 h2 := x.mono fun _ q => q.elim
theorem Calm.to (x : Calm H Nil h1 h2) : Calm H S h1 h2 := x.mono fun _ q => q.elim
/-- what is changed beyond S is new -/
theorem Calm.fresh (x : Calm H S h1 h2) (hS : ∀ b, S b → S' b ∨ h1.objs.size ≤ b) : Calm H S' h1 h2 :=
  ⟨x.size, fun b o hb hl hn e => x.keep b o (fun q => (hS b q).elim hb fun r => Nat.lt_irrefl _ (Nat.lt_of_lt_of_le (Heap.lt_size e) r)) hl hn e, x.good⟩
theorem Ext.fresh (x : Ext H S h1 h2) (hS : ∀ b, S b → S' b ∨ h1.objs.size ≤ b) : Ext H S' h1 h2 := ⟨x.toCalm.fresh hS, x.flds⟩

theorem Ext.trans' (x : Ext H S h1 h2) (y : Ext H S' h2 h3) (hS : ∀ b, S' b → h1.objs.size ≤ b) : Ext H S h1 h3 :=
  ⟨⟨Nat.le_trans x.size y.size, fun b o hb hl hn e => y.keep b o (fun q => Nat.lt_irrefl _ (Nat.lt_of_lt_of_le (Heap.lt_size e) (hS b q))) hl hn (x.keep b o hb hl hn e), fun G => y.good (x.good G)⟩,
   fun b o vs hl hd e => y.flds b o vs hl hd (x.flds b o vs hl hd e)⟩

theorem TabOk.keeps {P : Addr} {q : Str} {n : Nat} (x : TabOk P q n h1) (hk : ∀ b o, b = P ∨ (n ≤ b ∧ ∃ vs t, o.data = .fields vs ∧ vs[1]? = some (.str q t)) → h1.get? b = some o → h2.get? b = some o) : TabOk P q n h2 := by
  obtain ⟨ps, e, ht, hc⟩ := x
  refine ⟨ps, hk _ _ (.inl rfl) e, ht, fun pos cv hf => ?_⟩
  obtain ⟨c, oc, vs, t, e1, hl, e2, hd, hv⟩ := hc pos cv hf
  exact ⟨c, oc, vs, t, e1, hl, hk _ _ (.inr ⟨hl, vs, t, hd, hv⟩) e2, hd, hv⟩
theorem Good.keeps (G : Good H h1) (hs : h1.objs.size ≤ h2.objs.size) (hk : ∀ b o, h1.get? b = some o → h2.get? b = some o) : Good H h2 :=
  ⟨G.lo, Nat.le_trans G.size hs, fun b o n1 n2 e => hk _ _ (G.old b o n1 n2 e), G.t1.keeps fun b o _ e => hk b o e, G.t2.keeps fun b o _ e => hk b o e⟩

theorem Ext.ofKeeps (hs : h1.objs.size ≤ h2.objs.size) (hk : ∀ b o, h1.get? b = some o → h2.get? b = some o) : Ext H S h1 h2 :=
  ⟨⟨hs, fun b o _ _ _ e => hk b o e, fun G => G.keeps hs hk⟩, fun b o _ _ _ e => hk b o e⟩
theorem Ext.push (o : Obj) : Ext H S h (h.push o) := .ofKeeps (by rw [Heap.size_push]; exact Nat.le_succ _) fun b o' e => Heap.get?_push_of_some _ e

/-- nothing like a code object stands at a -/
def NotCode (h : Heap) (a : Addr) : Prop := ∀ o vs x t, h.get? a = some o → o.data = .fields vs → vs[1]? = some (.str x t) → False

theorem Good.extBut (G : Good H h1) (hs : h1.objs.size ≤ h2.objs.size) (hx : Heap.ExtBut a h1 h2) (ha : H.objs.size ≤ a) (hn : NotCode h1 a) : Good H h2 := by
  have hP : ∀ P, P ≤ 107 → P ≠ a := fun P hP e => Nat.lt_irrefl _ (Nat.lt_of_lt_of_le (G.le hP) (e ▸ ha))
  refine ⟨G.lo, Nat.le_trans G.size hs, fun b o n1 n2 e => hx b o (fun q => Nat.lt_irrefl _ (Nat.lt_of_lt_of_le (Heap.lt_size e) (q ▸ ha))) (G.old b o n1 n2 e), ?_, ?_⟩
  · exact G.t1.keeps fun b o hb e => hx b o (hb.elim (fun q => q ▸ hP 100 (by decide)) fun ⟨_, vs, t, hd, hv⟩ q => hn o vs _ t (q ▸ e) hd hv) e
  · exact G.t2.keeps fun b o hb e => hx b o (hb.elim (fun q => q ▸ hP 107 (by decide)) fun ⟨_, vs, t, hd, hv⟩ q => hn o vs _ t (q ▸ e) hd hv) e
theorem NotCode.of {o : Obj} (e : h.get? a = some o) (hn : ∀ vs x t, o.data = .fields vs → vs[1]? ≠ some (.str x t)) : NotCode h a := fun o' vs x t e' hd hv => by
  rw [e] at e'; cases e'; exact hn vs x t hd hv
theorem NotCode.ofPlain {o : Obj} (e : h.get? a = some o) (hn : NotFields o) : NotCode h a := NotCode.of e fun vs _ _ hd => absurd hd (hn vs)

/-- a change at one of the call's own objects that is no iterator -/
theorem Ext.ofSame {o : Obj} (hs : Heap.SameBut a h1 h2) (ha : H.objs.size ≤ a) (e : h1.get? a = some o) (hn : NotFields o) : Ext H (At a) h1 h2 :=
  ⟨⟨Nat.le_of_eq hs.1.symm, fun b o' hb _ _ e' => hs.extBut b o' hb e', fun G => G.extBut (Nat.le_of_eq hs.1.symm) hs.extBut ha (NotCode.ofPlain e hn)⟩,
   fun b o' vs _ hd e' => hs.extBut b o' (fun q => hn vs (by rw [q, e] at e'; cases e'; exact hd)) e'⟩
/-- an iterator goes on -/
theorem Calm.ofIter {o : Obj} {vs : Array Value} (hs : h1.objs.size ≤ h2.objs.size) (hx : Heap.ExtBut a h1 h2) (ha : H.objs.size ≤ a) (e : h1.get? a = some o) (hd : o.data = .fields vs) (hn : ∀ x t, vs[1]? ≠ some (.str x t)) : Calm H Nil h1 h2 :=
  ⟨hs, fun b o' _ _ hf e' => hx b o' (fun q => by rw [q, e] at e'; cases e'; obtain ⟨x, t, k⟩ := hf vs hd; exact hn x t k) e',
   fun G => G.extBut hs hx ha (NotCode.of e fun vs' x t hd' => by rw [hd] at hd'; cases hd'; exact hn x t)⟩
end

/-- s, with another heap and another count -/
@[reducible] def put (s : Shared) (h : Heap) (tk : Nat) : Shared := ⟨h, s.gens, s.drawn, tk, s.os⟩

@[reducible] def tick (s : Shared) (tk : Nat) : Shared := ⟨s.heap, s.gens, s.drawn, tk, s.os⟩

/-! the triples -/
section
variable {prog : Program} {w : World} {H : Heap} {α β : Type}

/-- from the heap h the tree t comes to a value and a heap as R says, and turns nothing beyond S -/
def Do (prog : Program) (w : World) (H : Heap) (A : Around) (t : Sem α) (h : Heap) (S : Addr → Prop) (R : α → Heap → Prop) : Prop :=
  ∀ (s : Shared) (Q : α → Shared → Prop) (E : Value → Shared → Prop), s.heap = h →
    (∀ v h' tk', Ext H S h h' → R v h' → Q v (put s h' tk')) → wpAny (model prog w) A t Q E s

theorem Do.mono {A : Around} {t : Sem α} {h : Heap} {S : Addr → Prop} {R R' : α → Heap → Prop} (x : Do prog w H A t h S R) (hR : ∀ v h', Ext H S h h' → R v h' → R' v h') : Do prog w H A t h S R' :=
  fun s Q E hs hQ => x s Q E hs fun v h' tk' X r => hQ v h' tk' X (hR v h' X r)
theorem Do.sub {A : Around} {t : Sem α} {h : Heap} {S S' : Addr → Prop} {R : α → Heap → Prop} (x : Do prog w H A t h S R) (hS : ∀ b, S b → S' b ∨ h.objs.size ≤ b) : Do prog w H A t h S' R :=
  fun s Q E hs hQ => x s Q E hs fun v h' tk' X r => hQ v h' tk' (X.fresh hS) r
end

/-! facts that last -/
section
variable {H h h1 h2 : Heap} {S : Addr → Prop} {a : Addr} {vs : Array Value}

/-- a list of the call's own -/
def Lst (H h : Heap) (a : Addr) (vs : Array Value) : Prop := H.objs.size ≤ a ∧ h.PlainList a vs
theorem Lst.isList (x : Lst H h a vs) : h.IsList a vs := x.2.isList
theorem Lst.lt (x : Lst H h a vs) : a < h.objs.size := let ⟨_, e⟩ := x.2; Heap.lt_size e
theorem Lst.calm (x : Lst H h1 a vs) (c : Calm H S h1 h2) (ha : ¬ S a) : Lst H h2 a vs :=
  ⟨x.1, let ⟨n, e⟩ := x.2; ⟨n, c.keep a _ ha x.1 (Solid.of fun _ q => by cases q) e⟩⟩
theorem Lst.nil (x : Lst H h1 a vs) (c : Calm H Nil h1 h2) : Lst H h2 a vs := x.calm c fun q => q
theorem Lst.push (G : H.objs.size ≤ h.objs.size) (vs : List Value) : Lst H (h.push { cls := .type "list", data := .seq vs.toArray }) h.objs.size vs.toArray :=
  ⟨G, ⟨0, Heap.get?_push_size _ rfl⟩⟩
theorem Lst.same {vs' : Array Value} (x : Lst H h a vs) (y : h.PlainList a vs') : vs = vs' := by
  obtain ⟨n, e⟩ := x.2; obtain ⟨n', e'⟩ := y; rw [e] at e'; cases e'; rfl

/-- a frame: its locals and its cells -/
structure Frm (H : Heap) (env : Env) (m cm : Str → Option Value) (h : Heap) : Prop where
  lo : H.objs.size ≤ env.locals
  ns : h.Ns env.locals m
  cell : ∀ n c, (n, c) ∈ env.cells → h.IsCell c (cm n) ∧ H.objs.size ≤ c
  apart : env.cells.Pairwise fun x y => x.2 ≠ y.2
  uniq : ∀ n c c', (n, c) ∈ env.cells → (n, c') ∈ env.cells → c = c'

def Own (env : Env) : Addr → Prop := fun b => b = env.locals ∨ ∃ n, (n, b) ∈ env.cells

variable {env : Env} {m cm : Str → Option Value}
theorem Frm.calm (F : Frm H env m cm h1) (c : Calm H S h1 h2) (hS : ∀ b, Own env b → ¬ S b) : Frm H env m cm h2 :=
  ⟨F.lo, F.ns.at' fun o e => c.keep _ o (hS _ (.inl rfl)) F.lo (Solid.of (by obtain ⟨o', es, ep, e', hd, _⟩ := F.ns; rw [e] at e'; cases e'; intro vs q; rw [hd] at q; cases q)) e,
   fun n k hm => ⟨by obtain ⟨o, e, hd⟩ := (F.cell n k hm).1; exact ⟨o, c.keep _ o (hS _ (.inr ⟨n, hm⟩)) (F.cell n k hm).2 (Solid.of fun vs q => by rw [hd] at q; cases q) e, hd⟩, (F.cell n k hm).2⟩, F.apart, F.uniq⟩
theorem Frm.nil (F : Frm H env m cm h1) (c : Calm H Nil h1 h2) : Frm H env m cm h2 := F.calm c fun _ _ q => q
theorem Frm.lt (F : Frm H env m cm h) : ∀ b, Own env b → b < h.objs.size := by
  rintro b (rfl | ⟨n, hm⟩)
  · exact F.ns.lt
  · exact (F.cell n b hm).1.lt
theorem Frm.above (F : Frm H env m cm h) : ∀ b, Own env b → H.objs.size ≤ b := by
  rintro b (rfl | ⟨n, hm⟩)
  · exact F.lo
  · exact (F.cell n b hm).2
theorem Frm.notList (F : Frm H env m cm h) (x : h.IsList a vs) : ∀ b, Own env b → b ≠ a := by
  obtain ⟨o, e, _, n, hd⟩ := x
  rintro b (rfl | ⟨k, hm⟩) rfl
  · obtain ⟨o', es, ep, e', hd', _⟩ := F.ns; rw [e] at e'; cases e'; rw [hd] at hd'; cases hd'
  · obtain ⟨o', e', hd'⟩ := (F.cell k b hm).1; rw [e] at e'; cases e'; rw [hd] at hd'; cases hd'
/-- a list lasts where names are stored -/
theorem Lst.own (x : Lst H h1 a vs) (F : Frm H env m cm h1) (c : Calm H (Own env) h1 h2) : Lst H h2 a vs := x.calm c fun q => F.notList x.isList a q rfl
theorem Frm.list (F : Frm H env m cm h1) (x : h1.IsList a vs) (c : Calm H (At a) h1 h2) : Frm H env m cm h2 := F.calm c fun b hb q => F.notList x b hb q

theorem Own.loc {env : Env} : ∀ b, At env.locals b → Own env b := fun b q => .inl q
theorem Own.cell {env : Env} {x : Str} {c : Addr} (hc : env.cells.lookup x = some c) : ∀ b, At c b → Own env b := fun b q => .inr ⟨x, q ▸ mem_of_lookup hc⟩
theorem Lst.loc (x : Lst H h1 a vs) (F : Frm H env m cm h1) (c : Calm H (At env.locals) h1 h2) : Lst H h2 a vs := x.calm c fun q => F.notList x.isList a (.inl q) rfl
theorem Lst.cel {n : Str} {k : Addr} (x : Lst H h1 a vs) (F : Frm H env m cm h1) (hk : env.cells.lookup n = some k) (c : Calm H (At k) h1 h2) : Lst H h2 a vs := x.calm c fun q => F.notList x.isList a (.inr ⟨n, q ▸ mem_of_lookup hk⟩) rfl

def upd (m : Str → Option Value) (x : Str) (v : Value) : Str → Option Value := fun y => if y = x then some v else m y
@[simp] theorem upd_self {m : Str → Option Value} {x : Str} {v : Value} : upd m x v x = some v := by simp [upd]
theorem upd_ne {m : Str → Option Value} {x y : Str} {v : Value} (h : y ≠ x) : upd m x v y = m y := by simp [upd, h]
end

/-! names -/
section
variable {prog : Program} {w : World} {A : Around} {E : Value → Shared → Prop} {s : Shared} {H : Heap} {env : Env} {m cm : Str → Option Value}

theorem nm_local {x : Str} {pos : Pos} {v : Value} {Q : Value → Shared → Prop} (F : Frm H env m cm s.heap) (hk : env.scope.kind = .function) (hl : env.kindOf x = some .local) (hv : m x = some v) (h : Q v s)
    (hd : (x == ("__debug__" : Str)) = false := by decide) : wpAny (model prog w) A (eval (.Name x pos) env) Q E s := wpAny_Name (wpAny_loadName_local hk hl F.ns hv h) hd
theorem nm_cell {x : Str} {pos : Pos} {c : Addr} {v : Value} {Q : Value → Shared → Prop} (F : Frm H env m cm s.heap) (hk : env.scope.kind = .function) (hl : env.kindOf x = some .cell) (hc : env.cells.lookup x = some c) (hv : cm x = some v) (h : Q v s)
    (hd : (x == ("__debug__" : Str)) = false := by decide) : wpAny (model prog w) A (eval (.Name x pos) env) Q E s :=
  wpAny_Name (wpAny_loadName_cell hk hl hc (hv ▸ (F.cell x c (mem_of_lookup hc)).1) h) hd
theorem nm_free {x : Str} {pos : Pos} {c : Addr} {v : Value} {Q : Value → Shared → Prop} (F : Frm H env m cm s.heap) (hk : env.scope.kind = .function) (hl : env.kindOf x = some .free) (hc : env.cells.lookup x = some c) (hv : cm x = some v) (h : Q v s)
    (hd : (x == ("__debug__" : Str)) = false := by decide) (hn : (x == ("__classdict__" : Str)) = false := by decide) : wpAny (model prog w) A (eval (.Name x pos) env) Q E s :=
  wpAny_Name (wpAny_loadName_free hk hl hc (hv ▸ (F.cell x c (mem_of_lookup hc)).1) h hn) hd

theorem st_local {x : Str} {v : Value} {Q : Unit → Shared → Prop} (F : Frm H env m cm s.heap) (hk : env.scope.kind = .function) (hl : env.kindOf x = some .local)
    (h : ∀ h' tk', Frm H env (upd m x v) cm h' → Ext H (At env.locals) s.heap h' → Q () (put s h' tk')) : wpAny (model prog w) A (storeName env x v) Q E s := by
  refine wpAny_storeName_local hl F.ns (fun h' hn hs => h h' _ ?_ ?_) (by rw [hk]; rfl)
  · refine ⟨F.lo, hn, fun n c hm => ⟨(F.cell n c hm).1.sameBut hs fun q => ?_, (F.cell n c hm).2⟩, F.apart, F.uniq⟩
    obtain ⟨o, e, hd⟩ := (F.cell n c hm).1
    obtain ⟨o', es, ep, e', hd', _⟩ := F.ns
    rw [q, e'] at e; cases e; rw [hd] at hd'; cases hd'
  · obtain ⟨o', es, ep, e', hd', _⟩ := F.ns
    exact Ext.ofSame hs F.lo e' fun vs q => by rw [hd'] at q; cases q

theorem st_cell {x : Str} {c : Addr} {v : Value} {Q : Unit → Shared → Prop} (F : Frm H env m cm s.heap) (hk : env.scope.kind = .function) (hl : env.kindOf x = some .cell) (hc : env.cells.lookup x = some c)
    (h : ∀ h' tk', Frm H env m (upd cm x v) h' → Ext H (At c) s.heap h' → Q () (put s h' tk')) : wpAny (model prog w) A (storeName env x v) Q E s := by
  have hm := mem_of_lookup hc
  have hcell := F.cell x c hm
  refine wpAny_storeName_cell hk hl hc hcell.1 fun h' hv hs => h h' s.toks ?_ ?_
  · have hL : env.locals ≠ c := fun q => by
      obtain ⟨o, e, hd⟩ := hcell.1
      obtain ⟨o', es, ep, e', hd', _⟩ := F.ns
      rw [q, e] at e'; cases e'; rw [hd] at hd'; cases hd'
    refine ⟨F.lo, F.ns.sameBut hs hL, fun n k hm' => ⟨?_, (F.cell n k hm').2⟩, F.apart, F.uniq⟩
    by_cases hn : n = x
    · subst hn
      have hk := F.uniq n c k hm hm'
      subst hk; simpa using hv
    · rw [upd_ne hn]
      exact (F.cell n k hm').1.sameBut hs fun q => hn (name_of_addr F.apart hm' (q ▸ hm))
  · obtain ⟨o, e, hd⟩ := hcell.1
    exact Ext.ofSame hs hcell.2 e fun vs q => by rw [hd] at q; cases q
end
end Mine

/-! the heap never shrinks -/
namespace Mine
open PySem

theorem runs_size {M : Model} {Γ : Ctx} {p : Pos} {t : Sem Fin} {fs : List Frame} {s s' : Shared} {e : End} (h : Runs M Γ p t fs s e s') : s.heap.objs.size ≤ s'.heap.objs.size := by
  induction h <;> (try simp only [Shared.setGen, Heap.size_push, Heap.size_after_update] at *) <;> omega

theorem wakes_size {M : Model} {Γ : Ctx} {p : Pos} {g : Nat} {r : Resume} {s s' : Shared} {res : GenResult} (h : Wakes M Γ p g r s res s') : s.heap.objs.size ≤ s'.heap.objs.size := by
  unfold Wakes at h
  split at h
  · exact h.elim
  · split at h
    · obtain ⟨e₁, s₁, hr, _, _, rfl⟩ := h; exact (runs_size hr : (s.setGen g .running).heap.objs.size ≤ s₁.heap.objs.size)
    · rw [h.2]; exact Nat.le_refl _
    · rw [h.2]; exact Nat.le_refl _
  · obtain ⟨e₁, s₁, hr, _, _, rfl⟩ := h; exact (runs_size hr : (s.setGen g .running).heap.objs.size ≤ s₁.heap.objs.size)
  · rw [h.2]; exact Nat.le_refl _
  · rw [h.2]; exact Nat.le_refl _

theorem wp_size {α : Type} (M : Model) (Γ : Ctx) (n : Nat) (t : Sem α) : ∀ (Q : α → Pos → Shared → Prop) (E : Value → Pos → Shared → Prop) (p : Pos) (s : Shared), n ≤ s.heap.objs.size → Sem.wp M Γ t Q E p s →
    Sem.wp M Γ t (fun a p' s' => n ≤ s'.heap.objs.size ∧ Q a p' s') (fun e p' s' => n ≤ s'.heap.objs.size ∧ E e p' s') p s := by
  induction t with
  | pure a => exact fun Q E p s hn h => ⟨hn, h⟩
  | raise e => exact fun Q E p s hn h => ⟨hn, h⟩
  | unsupported => exact fun Q E p s _ h => h
  | finish => exact fun Q E p s _ h => h
  | rule _ k ih => exact fun Q E p s hn h => ih () Q E p s hn h
  | «at» p' k ih => exact fun Q E p s hn h => ih () Q E p' s hn h
  | load a _ k ih => exact fun Q E p s hn ⟨o, ho, h⟩ => ⟨o, ho, ih o Q E p s hn h⟩
  | update a _ f k ih => exact fun Q E p s hn h => ⟨h.1, ih () Q E p _ (by simpa using hn) h.2⟩
  | loadIfAlive a k ih => exact fun Q E p s hn h => ih _ Q E p s hn h
  | point _ k ih => exact fun Q E p s hn h => ih () Q E p s hn h
  | register => exact fun Q E p s _ h => h
  | alloc o k ih => exact fun Q E p s hn h => ih _ Q E p _ (by simp only [Heap.size_push]; omega) h
  | fresh k ih => exact fun Q E p s hn h => ih _ Q E p _ hn h
  | ask k ih => exact fun Q E p s hn h => ih _ Q E p s hn h
  | choose src m k ih => exact fun Q E p s hn h => ⟨h.1, ih _ Q E p _ hn h.2⟩
  | os q _ k ih => exact fun Q E p s hn h => ih _ Q E p _ hn h
  | call c hd _ _ k ih => exact fun Q E p s hn ⟨r, s', hr, h⟩ => ⟨r, s', hr, ih r Q E p s' (Nat.le_trans hn (runs_size hr)) h⟩
  | handled own k ih => exact fun Q E p s hn h => ih _ Q E p s hn h
  | genState g k ih => exact fun Q E p s hn ⟨st, hs, h⟩ => ⟨st, hs, ih _ Q E p s hn h⟩
  | newGen c k ih => exact fun Q E p s hn h => ih _ Q E p _ hn h
  | resume g r _ k ih => exact fun Q E p s hn ⟨res, s', hw, h⟩ => ⟨res, s', hw, ih res Q E p s' (Nat.le_trans hn (wakes_size hw)) h⟩
  | yield => exact fun Q E p s _ h => h
  | stack k ih => exact fun Q E p s hn h => ih _ Q E p s hn h
  | fork => exact fun Q E p s _ h => h
  | thread k ih => exact fun Q E p s hn h => ih _ Q E p s hn h
  | await => exact fun Q E p s _ h => h

theorem szd {α : Type} {M : Model} {A : Around} {t : Sem α} {Q : α → Shared → Prop} {E : Value → Shared → Prop} {s : Shared}
    (h : wpAny M A t (fun a s' => s.heap.objs.size ≤ s'.heap.objs.size → Q a s') E s) : wpAny M A t Q E s :=
  fun Γ p hΓ => Sem.wp_mono M Γ t (fun _ _ _ x => x.2 x.1) (fun _ _ _ x => x.2) p s (wp_size M Γ _ t _ _ p s (Nat.le_refl _) (h Γ p hΓ))
end Mine

namespace Mine
open PySem PySem.W PySem.Spec PySem.Calls PyProof.Rows

section
variable {prog : Program} {w : World} {A : Around} {E : Value → Shared → Prop} {R : Result → Shared → Prop} {s : Shared} {H : Heap}

/-- a for whose target may be a tuple -/
theorem codeAny_forLoopG {target it body orelse env} (I : Nat → Shared → Prop)
    (turn : ∀ n s, I n s → wpAny (model prog w) A (pyNext it) (fun r s₁ => match r with
      | none => wpAny (model prog w) A (execs orelse env) (fun f s₃ => R (.ok f) s₃) (notedBy (model prog w) A env fun e s' => R (.error e) s') s₁
      | some v => wpAny (model prog w) A (letOwnedTupleGo target it v) (fun _ s₁ => wpAny (model prog w) A (assign target env v) (fun _ s₂ => wpAny (model prog w) A (execs body env) (fun f s₃ => match f with
          | .next | .cont => ∃ m, m < n ∧ I m s₃
          | .brk => R (.ok .next) s₃
          | .ret v => R (.ok (.ret v)) s₃) (notedBy (model prog w) A env fun e s' => R (.error e) s') s₂) (notedBy (model prog w) A env fun e s' => R (.error e) s') s₁) (notedBy (model prog w) A env fun e s' => R (.error e) s') s₁)
        (notedBy (model prog w) A env fun e s' => R (.error e) s') s)
    (n : Nat) (h : I n s) : codeAny (model prog w) A (.forLoop target it body orelse env) R s := by
  refine codeAny_loop' rfl I (fun n s hI => ?_) n h
  show wpAny _ _ ((forTurn target it body orelse env).onRaise (fun x => do noteFrame x env; theTreesLotGoes x)) _ _ s
  refine wpAny_noted ?_
  simp only [forTurn]
  refine wpAny_bind (wpAny_standAt (wpAny_bind (wpAny_onRaise (wpAny_mono (turn n s hI) (fun r s₁ h₁ => ?_) fun _ _ h' => wpAny_standAt h'))))
  cases r with
  | none => exact wpAny_pure (.inr ⟨rfl, codeAny_block h₁⟩)
  | some v =>
    refine wpAny_bind (wpAny_mono h₁ (fun _ s₂ h₂ => ?_) fun _ _ h' => h')
    refine wpAny_bind (wpAny_mono h₂ (fun _ s₂ h₂ => wpAny_bind (wpAny_mono h₂ (fun f s₃ h₃ => ?_) fun _ _ h' => h')) fun _ _ h' => h')
    cases f with
    | next => exact wpAny_pure (.inl ⟨rfl, h₃⟩)
    | cont => exact wpAny_pure (.inl ⟨rfl, h₃⟩)
    | brk => exact wpAny_pure h₃
    | ret v => exact wpAny_pure h₃

/-- where a loop's items come from -/
structure Src (prog : Program) (w : World) (H : Heap) (A : Around) (I : Addr) (n : Nat) (P : Nat → Value → Prop) (St : Nat → Heap → Prop) (fp : Addr → Prop) : Prop where
  item : ∀ i (s : Shared) (Q : Option Value → Shared → Prop) (E : Value → Shared → Prop), i < n → St i s.heap →
    (∀ v h' tk', P i v → St (i + 1) h' → Calm H Nil s.heap h' → (∀ b o, b ≠ I → s.heap.get? b = some o → h'.get? b = some o) → Q (some v) (put s h' tk')) → wpAny (model prog w) A (pyNext (.ref I)) Q E s
  done : ∀ (s : Shared) (Q : Option Value → Shared → Prop) (E : Value → Shared → Prop), St n s.heap →
    (∀ h' tk', Calm H Nil s.heap h' → (∀ b o, b ≠ I → s.heap.get? b = some o → h'.get? b = some o) → Q none (put s h' tk')) → wpAny (model prog w) A (pyNext (.ref I)) Q E s
  self : ∀ i (s : Shared) (Q : Value → Shared → Prop) (E : Value → Shared → Prop), St i s.heap → Q (.ref I) s → wpAny (model prog w) A (pyIter (.ref I)) Q E s
  lasts : ∀ i S h h', St i h → Ext H S h h' → (∀ b, fp b → ¬ S b) → St i h'
  iter : ∀ i h, St i h → ∃ o, h.get? I = some o ∧ (o.cls = .type "list_iterator" ∨ o.cls = .type "range_iterator")

theorem Src.list (hh : A.handled = none) {I l : Addr} (items : Array Value) (hI : H.objs.size ≤ I) (hl : H.objs.size ≤ l) :
    Src prog w H A I items.size (fun i v => items[i]? = some v) (fun i h => h.IsListIter I l i ∧ h.IsList l items) (At l) where
  item := fun i s Q E hi st hQ => by
    obtain ⟨o, ho, hc, hd⟩ := id st.1
    have hne : l ≠ I := fun q => by obtain ⟨o', e', _, n, hd'⟩ := st.2; rw [q, ho] at e'; cases e'; rw [hd] at hd'; cases hd'
    refine wpAny_pyNext_list_item st.1 st.2 (x := items[i]) (by simp [hi]) fun h' hit' hs' => ?_
    exact hQ _ h' s.toks (by simp [hi]) ⟨hit', st.2.extBut hs'.extBut hne⟩ (Calm.ofIter (Nat.le_of_eq hs'.1.symm) hs'.extBut hI ho hd (by simp)) fun b o hb e => hs'.extBut b o hb e
  done := fun s Q E st hQ => by
    obtain ⟨o, ho, hc, hd⟩ := id st.1
    refine szd (wpAny_pyNext_list_end hh st.1 st.2 (by simp) fun h' he' hs => ?_)
    exact hQ h' s.toks (Calm.ofIter hs he' hI ho hd (by simp)) fun b o hb e => he' b o hb e
  self := fun _ _ _ _ st hQ => wpAny_pyIter_listiter st.1 hQ
  lasts := fun i S h h' st X hS => by
    obtain ⟨⟨o, ho, hc, hd⟩, o', ho', hc', n, hd'⟩ := st
    exact ⟨⟨o, X.flds _ _ _ hI hd ho, hc, hd⟩, o', X.keep l o' (hS l rfl) hl (Solid.of fun vs q => by rw [hd'] at q; cases q) ho', hc', n, hd'⟩
  iter := fun i h st => by
    obtain ⟨⟨o, ho, hc, hd⟩, _⟩ := st
    exact ⟨o, ho, .inl hc⟩

theorem Src.range (hh : A.handled = none) {I : Addr} (n : Nat) (hI : H.objs.size ≤ I) :
    Src prog w H A I n (fun i v => ∃ t, v = .int (i : Nat) t) (fun i h => IsRangeIter h I (i : Nat) ((n : Int) - (i : Nat)) 1) Nil where
  item := fun i s Q E hi st hQ => by
    refine wpAny_pyNext_range_item st (by omega) fun h' hit' hs' => ?_
    refine hQ _ h' _ ⟨_, rfl⟩ ?_ (Calm.ofIter (Nat.le_of_eq hs'.1.symm) hs'.extBut hI st rfl (by simp [rawInt])) fun b o hb e => hs'.extBut b o hb e
    have e1 : ((i : Nat) : Int) + 1 = ((i + 1 : Nat) : Int) := by omega
    have e2 : (n : Int) - (i : Nat) - 1 = (n : Int) - ((i + 1 : Nat) : Int) := by omega
    rw [e1, e2] at hit'; exact hit'
  done := fun s Q E st hQ => by
    refine szd (wpAny_pyNext_range_end hh st (by omega) fun h' he' hs => ?_)
    exact hQ h' s.toks (Calm.ofIter hs he' hI st rfl (by simp [rawInt])) fun b o hb e => he' b o hb e
  self := fun _ _ _ _ st hQ => wpAny_pyIter_rangeiter st hQ
  lasts := fun i S h h' st X hS => X.flds _ _ _ hI rfl st
  iter := fun i h st => ⟨_, st, .inr rfl⟩

theorem Ext.iter {S : Addr → Prop} {h0 h1 h2 : Heap} {I : Addr} (X : Ext H S h0 h1) (c : Calm H Nil h1 h2) (k : ∀ b o, b ≠ I → h1.get? b = some o → h2.get? b = some o) (hI : h0.objs.size ≤ I) : Ext H S h0 h2 :=
  have ne : ∀ b o, h0.get? b = some o → b ≠ I := fun b o e q => Nat.lt_irrefl _ (Nat.lt_of_lt_of_le (Heap.lt_size e) (q ▸ hI))
  ⟨X.toCalm.trans c.to, fun b o vs hl hd e => k b o (ne b o e) (X.flds b o vs hl hd e)⟩

/-- a for, by what holds between the turns -/
theorem for_src {target : Expr} {body : List Stmt} {env : Env} {I : Addr} {n : Nat} {P : Nat → Value → Prop} {St : Nat → Heap → Prop} {fp : Addr → Prop} {h0 : Heap} {S : Addr → Prop}
    (Inv : Nat → Heap → Prop) (Rr : Value → Heap → Prop)
    (W : Src prog w H A I n P St fp) (hI : h0.objs.size ≤ I) (X0 : Ext H S h0 s.heap) (st0 : St 0 s.heap) (i0 : Inv 0 s.heap) (hfp : ∀ b, fp b → ¬ S b)
    (calm : ∀ i h1 h2, Inv i h1 → Calm H Nil h1 h2 → Inv i h2)
    (turn : ∀ i v (s₁ : Shared) (Q : Flow → Shared → Prop) (E' : Value → Shared → Prop), i < n → P i v → Inv i s₁.heap → Ext H S h0 s₁.heap →
      (∀ fl h' tk', Ext H S s₁.heap h' → (match fl with | .next | .cont => Inv (i + 1) h' | .brk => False | .ret v => Rr v h') → Q fl (put s₁ h' tk')) →
      wpAny (model prog w) A (assign target env v) (fun _ s₂ => wpAny (model prog w) A (execs body env) Q E' s₂) E' s₁)
    (ht : ∀ v (s₁ : Shared) (Q : Unit → Shared → Prop) (E' : Value → Shared → Prop) (o : Obj), s₁.heap.get? I = some o → (o.cls = .type "list_iterator" ∨ o.cls = .type "range_iterator") → Q () s₁ → wpAny (model prog w) A (letOwnedTupleGo target (.ref I) v) Q E' s₁)
    (hQ : ∀ h' tk', Ext H S h0 h' → Inv n h' → R (.ok .next) (put s h' tk'))
    (hR : ∀ v h' tk', Ext H S h0 h' → Rr v h' → R (.ok (.ret v)) (put s h' tk')) :
    codeAny (model prog w) A (.forLoop target (.ref I) body [] env) R s := by
  refine codeAny_forLoopG (fun k s' => ∃ h' tk i, s' = (put s h' tk) ∧ St i h' ∧ Inv i h' ∧ Ext H S h0 h' ∧ i ≤ n ∧ k = n + 1 - i) ?_ (n + 1) ⟨s.heap, s.toks, 0, rfl, st0, i0, X0, Nat.zero_le _, rfl⟩
  rintro k s' ⟨h', tk, i, rfl, st, iv, X, hi, rfl⟩
  by_cases hlt : i < n
  · refine W.item i _ _ _ hlt st fun v h₁ tk₁ hP st₁ c k₁ => ?_
    obtain ⟨o, ho, hc⟩ := W.iter _ _ st₁
    refine ht v _ _ _ o ho hc ?_
    refine turn i v _ _ _ hlt hP (calm i _ _ iv c) (X.iter c k₁ hI) fun fl h₂ tk₂ X₂ r => ?_
    have X₃ := (X.iter c k₁ hI).trans X₂
    cases fl with
    | next => exact ⟨n + 1 - (i + 1), by omega, h₂, tk₂, i + 1, rfl, W.lasts _ _ _ _ st₁ X₂ hfp, r, X₃, hlt, rfl⟩
    | cont => exact ⟨n + 1 - (i + 1), by omega, h₂, tk₂, i + 1, rfl, W.lasts _ _ _ _ st₁ X₂ hfp, r, X₃, hlt, rfl⟩
    | brk => exact r.elim
    | ret v => exact hR v h₂ tk₂ X₃ r
  · have hin : i = n := by omega
    subst hin
    refine W.done _ _ _ st fun h₁ tk₁ c k₁ => wpAny_execs_nil ?_
    exact hQ h₁ tk₁ (X.iter c k₁ hI) (calm _ _ _ iv c)

theorem lotg_name {x : Str} {px : Pos} {I : Addr} (v : Value) (s₁ : Shared) (Q : Unit → Shared → Prop) (E' : Value → Shared → Prop) (o : Obj) (_ : s₁.heap.get? I = some o) (_ : o.cls = .type "list_iterator" ∨ o.cls = .type "range_iterator") (h : Q () s₁) :
    wpAny (model prog w) A (letOwnedTupleGo (.Name x px) (.ref I) v) Q E' s₁ := wpAny_pure h
theorem lotg_tuple {es : List Expr} {k : Nat} {px : Pos} {I : Addr} (v : Value) (s₁ : Shared) (Q : Unit → Shared → Prop) (E' : Value → Shared → Prop) (o : Obj) (e : s₁.heap.get? I = some o) (hc : o.cls = .type "list_iterator" ∨ o.cls = .type "range_iterator") (h : Q () s₁) :
    wpAny (model prog w) A (letOwnedTupleGo (.Tuple es k px) (.ref I) v) Q E' s₁ := by
  unfold letOwnedTupleGo
  cases v with
  | ref a =>
    refine wpAny_bind (wpAny_load e ?_)
    rcases hc with hc | hc <;> rw [hc] <;> cases o.data <;> first | exact wpAny_pure h | (dsimp only; rw [if_neg (by simp)]; exact wpAny_pure h)
  | _ => exact wpAny_pure h

/-- while, by what holds at its test -/
theorem while_rule {test : Expr} {body : List Stmt} {env : Env} {pos : Pos} {Q : Flow → Shared → Prop} {S : Addr → Prop} (Inv : Nat → Heap → Prop) (Rr : Value → Heap → Prop) (Out : Heap → Prop)
    (n : Nat) (i0 : Inv n s.heap)
    (turn : ∀ k (s₁ : Shared) (Q' : Bool → Shared → Prop) (E' : Value → Shared → Prop), Inv k s₁.heap → Ext H S s.heap s₁.heap →
      (∀ h' tk', Ext H S s₁.heap h' → Out h' → Q' false (put s₁ h' tk')) →
      (∀ s₂ : Shared, (∃ h' tk', s₂ = (put s₁ h' tk') ∧ Ext H S s₁.heap h') → (∀ (Q : Flow → Shared → Prop), (∀ fl h' tk', Ext H S s₁.heap h' → (match fl with | .next | .cont => ∃ k', k' < k ∧ Inv k' h' | .brk => False | .ret v => Rr v h') → Q fl (put s₁ h' tk')) →
         wpAny (model prog w) A (execs body env) Q E' s₂) → Q' true s₂) →
      wpAny (model prog w) A (isTrue test env (eval test env)) Q' E' s₁)
    (hQ : ∀ h' tk', Ext H S s.heap h' → Out h' → Q .next (put s h' tk'))
    (hR : ∀ v h' tk', Ext H S s.heap h' → Rr v h' → Q (.ret v) (put s h' tk')) :
    wpAny (model prog w) A (exec (.While test body [] pos) env) Q E s := by
  refine wpAny_While (codeAny_whileLoop (fun k s' => ∃ h' tk, s' = (put s h' tk) ∧ Inv k h' ∧ Ext H S s.heap h') ?_ n ⟨s.heap, s.toks, rfl, i0, .refl⟩)
  rintro k s' ⟨h', tk, rfl, iv, X⟩
  refine turn k _ _ _ iv X (fun h₁ tk₁ X₁ o => ?_) fun s₂ _ hb => ?_
  · exact wpAny_execs_nil (hQ h₁ tk₁ (X.trans X₁) o)
  · refine hb _ fun fl h₂ tk₂ X₂ r => ?_
    cases fl with
    | next => obtain ⟨k', hk, iv'⟩ := r; exact ⟨k', hk, h₂, tk₂, rfl, iv', X.trans X₂⟩
    | cont => obtain ⟨k', hk, iv'⟩ := r; exact ⟨k', hk, h₂, tk₂, rfl, iv', X.trans X₂⟩
    | brk => exact r.elim
    | ret v => exact hR v h₂ tk₂ (X.trans X₂) r
end
end Mine

namespace Mine
open PySem PySem.W PySem.Spec PySem.Calls PyProof.Rows

def cenvOf (scope : Scope) (env : Env) (cl : List (Str × Addr)) (C : Addr) : Env :=
  { scope := relabel scope env, locals := C, globals := env.globals, cells := cellsFrom (C + 1) scope.names cl, qual := env.qual, func := none, code := env.code, frame := env.frame, builtins := env.builtins }

def isCellOf (scope : Scope) (n : Str) : Bool := scope.names.any fun x => x.1 == n && x.2 == .cell
def compCm (scope : Scope) (cm : Str → Option Value) : Str → Option Value := fun n => if isCellOf scope n then none else cm n

theorem cellsFrom_mem : ∀ (names : List (Str × NameKind)) (n : Nat) (acc : List (Str × Addr)) (x : Str) (c : Addr), (x, c) ∈ cellsFrom n names acc → (x, c) ∈ acc ∨ ((x, NameKind.cell) ∈ names ∧ n ≤ c)
  | [], _, _, _, _, h => .inl h
  | (y, k) :: r, n, acc, x, c, h => by
    unfold cellsFrom at h
    by_cases hk : (k == NameKind.cell) = true
    · rw [if_pos hk] at h
      rcases cellsFrom_mem r (n + 1) ((y, n) :: acc) x c h with h | ⟨h, hl⟩
      · rcases List.mem_cons.mp h with e | h
        · cases e; exact .inr ⟨by rw [eq_of_beq hk]; exact List.mem_cons_self, Nat.le_refl _⟩
        · exact .inl h
      · exact .inr ⟨List.mem_cons_of_mem _ h, by omega⟩
    · rw [if_neg hk] at h
      rcases cellsFrom_mem r n acc x c h with h | ⟨h, hl⟩
      · exact .inl h
      · exact .inr ⟨List.mem_cons_of_mem _ h, hl⟩

theorem cellsFrom_apart : ∀ (names : List (Str × NameKind)) (n : Nat) (acc : List (Str × Addr)), (acc.Pairwise fun x y => x.2 ≠ y.2) → (∀ p ∈ acc, p.2 < n) → (cellsFrom n names acc).Pairwise fun x y => x.2 ≠ y.2
  | [], _, _, h, _ => h
  | (y, k) :: r, n, acc, h, hl => by
    unfold cellsFrom
    split
    · refine cellsFrom_apart r (n + 1) _ (List.pairwise_cons.mpr ⟨fun p hp q => ?_, h⟩) fun p hp => ?_
      · exact absurd (show p.2 = n from q.symm) (Nat.ne_of_lt (hl p hp))
      · rcases List.mem_cons.mp hp with rfl | hp
        · exact Nat.lt_succ_self _
        · exact Nat.lt_succ_of_lt (hl p hp)
    · exact cellsFrom_apart r n acc h hl

theorem nodup_uniq {l : List (Str × Addr)} (h : (l.map (·.1)).Nodup) {n : Str} {c c' : Addr} (h1 : (n, c) ∈ l) (h2 : (n, c') ∈ l) : c = c' := by
  have e1 := lookup_of_mem_nodup h h1
  have e2 := lookup_of_mem_nodup h h2
  rw [e1] at e2; cases e2; rfl

section
variable {prog : Program} {w : World} {A : Around} {E : Value → Shared → Prop} {s : Shared} {H : Heap} {env : Env} {m cm : Str → Option Value} {scope : Scope} {cl : List (Str × Addr)}

/-- a comprehension's own frame -/
theorem new_cenv {Q : Env → Shared → Prop} (hH : H.objs.size ≤ s.heap.objs.size) (F : Frm H env m cm s.heap) (hsub : ∀ p ∈ cl, p ∈ env.cells) (hnd : ((cellsFrom 0 scope.names cl).map (·.1)).Nodup) (hfree : ∀ p ∈ cl, isCellOf scope p.1 = false)
    (h : ∀ h', Frm H (cenvOf scope env cl s.heap.objs.size) (fun _ => none) (compCm scope cm) h' → Ext H Nil s.heap h' →
      Q { scope := scope, locals := s.heap.objs.size, globals := env.globals, cells := cellsFrom (s.heap.objs.size + 1) scope.names cl, qual := env.qual, func := none, code := env.code, frame := env.frame, builtins := env.builtins } { s with heap := h' }) :
    wpAny (model prog w) A (newFunctionEnv scope env.globals cl [] env.qual none .none (some env)) Q E s := by
  simp only [newFunctionEnv, Option.isSome_some, if_true]
  refine wpAny_bind (wpAny_alloc ?_)
  refine wpAny_bind (wpAny_layCells _ (fun name kind cells => by cases hkc : kind == NameKind.cell <;> simp [hkc]) _ _ _ _ ?_)
  rw [show ({ s with heap := s.heap.push { cls := .type "dict", data := .dict #[] } } : Shared).heap.objs.size = s.heap.objs.size + 1 from Heap.size_push ..]
  have ok := cellsFrom_ok scope.names (s.heap.push { cls := .type "dict", data := .dict #[] }) (s.heap.objs.size + 1) [] ⟨fun _ _ hm => (nomatch hm), List.Pairwise.nil⟩ (by rw [Heap.size_push]; exact Nat.le_refl _)
  rw [Heap.size_push] at ok
  have keeps : ∀ b o, s.heap.get? b = some o → (pushCells (s.heap.push { cls := .type "dict", data := .dict #[] }) scope.names).get? b = some o := fun b o e => pushCells_keeps _ _ b o (Heap.get?_push_of_some _ e)
  have hsz : s.heap.objs.size ≤ (pushCells (s.heap.push { cls := .type "dict", data := .dict #[] }) scope.names).objs.size := by
    have e := pushCells_keeps scope.names (s.heap.push { cls := .type "dict", data := .dict #[] }) s.heap.objs.size _ (Heap.get?_push_size _ rfl)
    exact Nat.le_of_lt (Heap.lt_size e)
  refine wpAny_bind ?_
  rw [List.forIn_nil]
  refine wpAny_pure (wpAny_pure (h _ ?_ (Ext.ofKeeps hsz keeps)))
  have hlt : ∀ p ∈ cl, p.2 < s.heap.objs.size + 1 := fun p hp => Nat.lt_succ_of_lt (F.lt p.2 (.inr ⟨p.1, hsub p hp⟩))
  have memOwn : ∀ x c, (x, c) ∈ cellsFrom (s.heap.objs.size + 1) scope.names cl → ((x, c) ∈ cl) ∨ (isCellOf scope x = true ∧ (x, c) ∈ cellsFrom (s.heap.objs.size + 1) scope.names []) := by
    have gen : ∀ (names : List (Str × NameKind)) (n : Nat) (acc : List (Str × Addr)) x c, (x, c) ∈ cellsFrom n names (acc ++ cl) → (x, c) ∈ cl ∨ (x, c) ∈ cellsFrom n names acc := by
      intro names
      induction names with
      | nil => intro n acc x c hm; exact (List.mem_append.mp hm).symm
      | cons y r ih =>
        obtain ⟨y, k⟩ := y
        intro n acc x c hm
        unfold cellsFrom at hm ⊢
        split at hm
        · rename_i hk; rw [if_pos hk]; exact ih (n + 1) ((y, n) :: acc) x c hm
        · rename_i hk; rw [if_neg hk]; exact ih n acc x c hm
    intro x c hm
    rcases gen _ _ [] x c hm with q | q
    · exact .inl q
    · refine .inr ⟨?_, q⟩
      rcases cellsFrom_mem _ _ _ _ _ q with q' | ⟨q', _⟩
      · cases q'
      · exact List.any_eq_true.mpr ⟨_, q', by simp⟩
  have hnd' : ((cellsFrom (s.heap.objs.size + 1) scope.names cl).map (·.1)).Nodup := cellsFrom_names scope.names 0 (s.heap.objs.size + 1) cl cl rfl ▸ hnd
  have hclnd : cl.Pairwise fun x y => x.2 ≠ y.2 := by
    have : ∀ (names : List (Str × NameKind)) (n : Nat) (acc : List (Str × Addr)), ((cellsFrom n names acc).map (·.1)).Nodup → (acc.map (·.1)).Nodup := by
      intro names
      induction names with
      | nil => intro n acc h; exact h
      | cons y r ih =>
        obtain ⟨y, k⟩ := y
        intro n acc h
        unfold cellsFrom at h
        split at h
        · have := ih _ _ h
          rw [List.map_cons, List.nodup_cons] at this
          exact this.2
        · exact ih _ _ h
    have h1 := this _ _ _ hnd
    clear this
    have key : ∀ l : List (Str × Addr), (l.map (·.1)).Nodup → (∀ p ∈ l, p ∈ env.cells) → l.Pairwise fun x y => x.2 ≠ y.2 := by
      intro l
      induction l with
      | nil => intro _ _; exact List.Pairwise.nil
      | cons p r ih =>
        intro hn hs
        rw [List.map_cons, List.nodup_cons] at hn
        refine List.pairwise_cons.mpr ⟨fun q hq e => hn.1 ?_, ih hn.2 fun q hq => hs q (List.mem_cons_of_mem _ hq)⟩
        have hp := hs p List.mem_cons_self
        have hq' := hs q (List.mem_cons_of_mem _ hq)
        have : p.1 = q.1 := name_of_addr F.apart (c := p.2) hp (by rw [e]; exact hq')
        rw [this]; exact List.mem_map_of_mem hq
    exact key cl h1 hsub
  refine ⟨hH, (Heap.Ns.new s.heap (.type "dict")).keeps (pushCells_keeps _ _), fun x c hm => ?_, cellsFrom_apart _ _ _ hclnd hlt, fun n c c' h1 h2 => nodup_uniq hnd' h1 h2⟩
  rcases memOwn x c hm with q | ⟨hx, q⟩
  · have := F.cell x c (hsub _ q)
    refine ⟨?_, this.2⟩
    have e : compCm scope cm x = cm x := by unfold compCm; rw [hfree _ q]; rfl
    rw [e]; exact this.1.keeps keeps
  · have := ok.empty x c q
    refine ⟨?_, by omega⟩
    have e : compCm scope cm x = none := by unfold compCm; rw [hx]; rfl
    rw [e]; exact this.1

/-- a comprehension of one clause: its frame is made, its turns are walked, RR is what is asked behind it -/
theorem comp_core {elt target iter : Expr} {ifs : List Expr} {pos : Pos} {I : Addr} {n : Nat} {P : Nat → Value → Prop} {St : Nat → Heap → Prop} {fp : Addr → Prop} {h0 : Heap}
    (Res : Addr → Addr → Nat → Array Value → Heap → Prop) {RR : Value → Addr → Result → Shared → Prop}
    (W : Src prog w H A I n P St fp) (hsz : n ≤ sizeLine) (st0 : St 0 s.heap) (X0 : Ext H Nil h0 s.heap) (hI : h0.objs.size ≤ I) (hH : H.objs.size ≤ s.heap.objs.size)
    (F : Frm H env m cm s.heap) (hsub : ∀ p ∈ cl, p ∈ env.cells) (hnd : ((cellsFrom 0 scope.names cl).map (·.1)).Nodup) (hfree : ∀ p ∈ cl, isCellOf scope p.1 = false)
    (hfp : ∀ b, fp b → b < s.heap.objs.size ∧ ∀ p ∈ cl, p.2 ≠ b)
    (start : ∀ C D h', s.heap.objs.size ≤ D → D < C → Frm H (cenvOf scope env cl C) (fun _ => none) (compCm scope cm) h' → Ext H Nil s.heap h' → Res C D 0 #[] h')
    (frm : ∀ C D i ys h', Res C D i ys h' → ∃ m', h'.Ns C m')
    (calm : ∀ C D i ys h1 h2, Res C D i ys h1 → Calm H Nil h1 h2 → Res C D i ys h2)
    (grow : ∀ C D i ys h1 h2, Res C D i ys h1 → Calm H (At D) h1 h2 → Res C D i ys h2)
    (turn : ∀ C D i v ys (s₁ : Shared) (K : Option Value → Shared → Prop) (E' : Value → Shared → Prop), s.heap.objs.size ≤ D → D < C → i < n → P i v → Res C D i ys s₁.heap → Ext H Nil h0 s₁.heap → D < s₁.heap.objs.size →
      (∀ oy h' tk', Ext H (fun b => Own (cenvOf scope env cl C) b ∧ s.heap.objs.size ≤ b) s₁.heap h' → (match oy with | some y => Res C D (i + 1) (ys.push y) h' | none => Res C D (i + 1) ys h') → K oy (put s₁ h' tk')) →
      wpAny (model prog w) A (assign target (cenvOf scope env cl C) v) (fun _ s₂ =>
        wpAny (model prog w) A (forIn ifs true fun c r => if r = true then do let ok ← isTrue c (cenvOf scope env cl C) (eval c (cenvOf scope env cl C)); pure (ForInStep.yield ok) else pure (ForInStep.yield r)) (fun ok s₃ =>
          if ok = true then wpAny (model prog w) A (eval elt (cenvOf scope env cl C)) (fun y s₄ => K (some y) s₄) E' s₃ else K none s₃) E' s₂) E' s₁)
    (ht : ∀ v, letOwnedTupleGo target (.ref I) v = pure ())
    (fin : ∀ C D h' tk' ys, s.heap.objs.size ≤ D → D < C → Lst H h' D ys → ys.size ≤ n → Res C D n ys h' → Ext H Nil h0 h' → RR (.ref D) C (.ok .next) (put s h' tk')) :
    wpAny (model prog w) A (newList []) (fun acc s₃ => wpAny (model prog w) A (newFunctionEnv scope env.globals cl [] env.qual none .none (some env)) (fun cenv s₄ =>
      codeAny (model prog w) A (.compStart (.ListComp elt [⟨target, iter, ifs, 0⟩] scope pos) 0 (.ref I) acc { cenv with scope := relabel scope env }) (RR acc cenv.locals) s₄) E s₃) E s := by
  refine wpAny_newObj_type ?_
  generalize hh1 : s.heap.push { cls := .type "list", dict := none, data := .seq ([] : List Value).toArray } = h1
  have X1 : Ext H Nil s.heap h1 := hh1 ▸ Ext.push _
  have hs1 : h1.objs.size = s.heap.objs.size + 1 := by rw [← hh1, Heap.size_push]
  have hD1 : Lst H h1 s.heap.objs.size #[] := hh1 ▸ Lst.push hH []
  refine new_cenv (by show H.objs.size ≤ h1.objs.size; omega) (F.nil X1.toCalm) hsub hnd hfree fun h2 F2 X2 => ?_
  dsimp only at F2 X2 ⊢
  have hDC : s.heap.objs.size < h1.objs.size := by omega
  have X12 := X1.trans X2
  have X02 := X0.trans X12
  have fpOk : ∀ b, fp b → ¬ (Own (cenvOf scope env cl h1.objs.size) b ∧ s.heap.objs.size ≤ b) := fun b hb q => Nat.lt_irrefl _ (Nat.lt_of_lt_of_le (hfp b hb).1 q.2)
  have DOk : ¬ (Own (cenvOf scope env cl h1.objs.size) s.heap.objs.size ∧ s.heap.objs.size ≤ s.heap.objs.size) := by
    rintro ⟨q | ⟨x, q⟩, _⟩
    · have q' : s.heap.objs.size = h1.objs.size := q
      omega
    · rcases cellsFrom_mem _ _ _ _ _ q with q | ⟨_, q⟩
      · exact Nat.lt_irrefl _ (F.lt _ (.inr ⟨x, hsub _ q⟩))
      · have q' : h1.objs.size + 1 ≤ s.heap.objs.size := q
        omega
  have loop : ∀ s₃ : Shared, s₃ = { s with heap := h2 } → codeAny (model prog w) A (.compLoop (.ListComp elt [⟨target, iter, ifs, 0⟩] scope pos) 0 (.ref I) (.ref s.heap.objs.size) (cenvOf scope env cl h1.objs.size))
      (RR (.ref s.heap.objs.size) h1.objs.size) s₃ := by
    rintro s₃ rfl
    refine codeAny_compLoop_tests (fun k s' => ∃ h' tk i ys, s' = (put s h' tk) ∧ St i h' ∧ Lst H h' s.heap.objs.size ys ∧ Res h1.objs.size s.heap.objs.size i ys h' ∧ Ext H Nil h0 h' ∧ i ≤ n ∧ ys.size ≤ i ∧ k = n + 1 - i)
      ?_ (n + 1) ⟨h2, s.toks, 0, #[], rfl, W.lasts _ _ _ _ st0 X12 (fun _ _ q => q), hD1.nil X2.toCalm, start _ _ _ (Nat.le_refl _) hDC F2 X12, X02, Nat.zero_le _, Nat.le_refl _, rfl⟩ ht
    rintro k s' ⟨h', tk, i, ys, rfl, st, lD, res, X, hi, hys, rfl⟩
    by_cases hlt : i < n
    · refine W.item i _ _ _ hlt st fun v h3 tk3 hP st3 c3 k3 => ?_
      have lD3 := lD.nil c3
      have X3 := X.iter c3 k3 hI
      refine turn h1.objs.size s.heap.objs.size i v ys _ (fun oy s₄ => match oy with
        | some y => wpAny (model prog w) A (call (.builtin "list.append") [.ref s.heap.objs.size, y]) (fun _ s₅ => ∃ m, m < n + 1 - i ∧ ∃ h' tk i ys, s₅ = (put s h' tk) ∧ St i h' ∧ Lst H h' s.heap.objs.size ys ∧ Res h1.objs.size s.heap.objs.size i ys h' ∧ Ext H Nil h0 h' ∧ i ≤ n ∧ ys.size ≤ i ∧ m = n + 1 - i)
            (notedBy (model prog w) A (cenvOf scope env cl h1.objs.size) fun e s' => RR (.ref s.heap.objs.size) h1.objs.size (.error e) s') s₄
        | none => ∃ m, m < n + 1 - i ∧ ∃ h' tk i ys, s₄ = (put s h' tk) ∧ St i h' ∧ Lst H h' s.heap.objs.size ys ∧ Res h1.objs.size s.heap.objs.size i ys h' ∧ Ext H Nil h0 h' ∧ i ≤ n ∧ ys.size ≤ i ∧ m = n + 1 - i)
        _ (Nat.le_refl _) hDC hlt hP (calm _ _ _ _ _ _ res c3) X3 lD3.lt fun oy h4 tk4 X4 r => ?_
      have st4 := W.lasts _ _ _ _ st3 X4 fpOk
      have lD4 := lD3.calm X4.toCalm DOk
      have X04 : Ext H Nil h0 h4 := X3.trans' X4 fun b q => Nat.le_trans X0.size q.2
      cases oy with
      | none => exact ⟨n + 1 - (i + 1), by omega, h4, tk4, i + 1, ys, rfl, st4, lD4, r, X04, hlt, by omega, rfl⟩
      | some y =>
        refine wpAny_list_append_plain (lD4.2) (fun h5 l5 s5 => ?_) (by omega)
        obtain ⟨n5, e5⟩ := lD4.2
        have X5 : Ext H (At s.heap.objs.size) h4 h5 := Ext.ofSame s5 hH e5 fun vs q => by cases q
        refine ⟨n + 1 - (i + 1), by omega, h5, tk4, i + 1, ys.push y, rfl, W.lasts _ _ _ _ st4 X5 (fun b hb q => ?_), ⟨hH, l5⟩, grow _ _ _ _ _ _ r X5.toCalm, X04.trans' X5 fun b q => ?_, hlt, by rw [Array.size_push]; omega, rfl⟩
        · have q' : b = s.heap.objs.size := q
          exact Nat.lt_irrefl _ (q' ▸ (hfp b hb).1)
        · have q' : b = s.heap.objs.size := q
          rw [q']; exact X0.size
    · have hin : i = n := by omega
      subst hin
      refine W.done _ _ _ st fun h3 tk3 c3 k3 => ?_
      exact fin _ _ h3 tk3 ys (Nat.le_refl _) hDC (lD.nil c3) hys (calm _ _ _ _ _ _ res c3) (X.iter c3 k3 hI)
  exact codeAny_compStart_list (loop _ rfl) (W.self 0 _ _ _ (W.lasts _ _ _ _ st0 X12 fun _ _ q => q) (loop _ rfl))
end
end Mine

namespace Mine
open PySem PySem.W PySem.Spec PySem.Calls PyProof.Rows

/-! the text's own defs, drawn out of the row -/
def topStmt (k : Nat) : Stmt := PySem.Challenge.pw_xe0024_01.main.body.getD k default

def fdOf (st : Stmt) (dV kV pm cd : Value) : FuncData := match st with
  | .FunctionDef name args body _ _ _ scope _ _ _ => { name, qualname := name, params := args, body := .stmts body, scope, globals := mainGlobals, closure := [], defaults := dV, kwdefaults := kV, pyModule := pm, code := cd, builtins := builtinsNs }
  | _ => default
def bodyOf (st : Stmt) : List Stmt := match st with
  | .FunctionDef _ _ body .. => body
  | _ => []

def FnIs (H : Heap) (a : Addr) (k : Nat) (dV kV cd : Value) : Prop := ∃ pm, H.get? a = some { cls := .type "function", data := .func (fdOf (topStmt k) dV kV pm cd) }

/-- room left: n calls deep -/
def Ok (A : Around) (n : Nat) : Prop := A.handled = none ∧ A.depth + n ≤ 900 ∧ A.units + 10 * n ≤ 9000
theorem Ok.in1 {A : Around} {n : Nat} (h : Ok A (n + 1)) : Ok A.in1 n := ⟨h.1, by have := h.2.1; show A.depth + n ≤ 900; omega, by have := h.2.2; show A.units + 1 + 10 * n ≤ 9000; omega⟩
theorem Ok.deeper {A : Around} {n : Nat} {env : Env} (h : Ok A (n + 1)) : Ok (A.deeper env) n := ⟨h.1, by have := h.2.1; show A.depth + 1 + n ≤ 900; omega, by have := h.2.2; show A.units + 3 + 10 * n ≤ 9000; omega⟩
theorem Ok.mono {A : Around} {n m : Nat} (h : Ok A n) (hm : m ≤ n) : Ok A m := ⟨h.1, by have := h.2.1; omega, by have := h.2.2; omega⟩
theorem Ok.units {A : Around} {n : Nat} (h : Ok A n) : A.units < cLine := by have := h.2.2; show A.units < 9900; omega
theorem Ok.depth {A : Around} {n : Nat} (h : Ok A n) : A.depth < recursionLimit := by have := h.2.1; show A.depth < 1000; omega

/-- what the top has laid -/
structure Stat (H : Heap) (mg mb : Str → Option Value) : Prop where
  g : H.Ns mainGlobals mg
  b : H.Ns builtinsNs mb
  nolimit : H.NoLimit
  builtins : ∀ x : Str, x ≠ "__name__" → mb x = bootBuiltins x
  bmain : ∃ bm ob, mg "__builtins__" = some (.ref bm) ∧ bm ≠ builtinsNs ∧ H.get? bm = some ob ∧ ob.cls = .type "module" ∧ ob.dict = some builtinsNs ∧ ob.data = .plain
  codes : ∀ p ∈ [((37 : Addr), "_substitution_cost"), (46, "bisect_right"), (55, "insort_left"), (64, "bisect_left"), (76, "is_HDN"), (83, "reach"), (90, "_law_labels"), (97, "_law_ladder"), (104, "_law_apart"), (109, "law")], H.CodeRec (.ref p.1) (Str.ofString p.2)
  cApart : CodeHd H 104 100
  cLaw : CodeHd H 109 107
  tApart : H.get? 100 = some (tabObj #[])
  tLaw : H.get? 107 = some (tabObj #[])
  fSub : FnIs H 38 4 .none .none (.ref 37)
  fRight : FnIs H 47 6 (.ref 39) (.ref 40) (.ref 46)
  fInsort : FnIs H 56 7 (.ref 48) (.ref 49) (.ref 55)
  fLeft : FnIs H 65 8 (.ref 57) (.ref 58) (.ref 64)
  fHdn : FnIs H 77 11 .none .none (.ref 76)
  fReach : FnIs H 84 12 .none .none (.ref 83)
  fLabels : FnIs H 91 14 .none .none (.ref 90)
  fLadder : FnIs H 98 15 .none .none (.ref 97)
  fApart : FnIs H 105 16 .none .none (.ref 104)
  dRight : ∃ t, H.get? 39 = some { cls := .type "tuple", data := .seq #[.int 0 t, .none] }
  dInsort : ∃ t, H.get? 48 = some { cls := .type "tuple", data := .seq #[.int 0 t, .none] }
  dLeft : ∃ t, H.get? 57 = some { cls := .type "tuple", data := .seq #[.int 0 t, .none] }
  gSub : mg "_substitution_cost" = some (.ref 38)
  gRight : mg "bisect_right" = some (.ref 47)
  gInsort : mg "insort_left" = some (.ref 56)
  gLeft : mg "bisect_left" = some (.ref 65)
  gHdn : mg "is_HDN" = some (.ref 77)
  gReach : mg "reach" = some (.ref 84)
  gLabels : mg "_law_labels" = some (.ref 91)
  gLadder : mg "_law_ladder" = some (.ref 98)
  gApart : mg "_law_apart" = some (.ref 105)
  gMove : ∃ t, mg "_MOVE_COST" = some (.int 2 t)
  gCase : ∃ t, mg "_CASE_COST" = some (.int 1 t)
  gRe : mg "IPV4_RE" = some (.ref 70)
  gRange : mg "range" = none
  gLen : mg "len" = none
  gSum : mg "sum" = none
  gSorted : mg "sorted" = none
  oRe : ∃ ps t0, H.get? 70 = some { cls := .type "re.Pattern", data := .fields #[ps, t0, .int 0 0, .none, .none, .ref 69, .int 0 0] }
  oCode : H.get? 69 = some { cls := .type "tuple", data := .seq (#[14, 8, 1, 2, 4294967295, 1, 1, 46, 0, 16, 46, 24, 9, 1, 4294967295, 13, 4, 8, 0, 0, 1, 6, 5, 1].map fun i => Value.int i 0) }

section
variable {H h : Heap} {mg mb : Str → Option Value}
theorem Good.ns {a : Addr} {m : Str → Option Value} (G : Good H h) (x : H.Ns a m) (h1 : a ≠ 100) (h2 : a ≠ 107) : h.Ns a m := x.at' fun o e => G.old a o h1 h2 e
theorem Good.nolimit (G : Good H h) (S : Stat H mg mb) : h.NoLimit := let ⟨mc, x, y⟩ := S.nolimit; ⟨mc, G.ns x (by decide) (by decide), y⟩
theorem Good.codeRec {c : Addr} {q : Str} (G : Good H h) (x : H.CodeRec (.ref c) q) (h1 : c ≠ 100) (h2 : c ≠ 107) : h.CodeRec (.ref c) q := by
  obtain ⟨c', o, vs, t, e, g, r⟩ := x; cases e; exact ⟨c, o, vs, t, rfl, G.old c o h1 h2 g, r⟩
theorem Good.fn {a : Addr} {k : Nat} {dV kV cd : Value} (G : Good H h) (x : FnIs H a k dV kV cd) (h1 : a ≠ 100) (h2 : a ≠ 107) : FnIs h a k dV kV cd := let ⟨pm, e⟩ := x; ⟨pm, G.old a _ h1 h2 e⟩
end

section
variable {prog : Program} {w : World} {A : Around} {E : Value → Shared → Prop} {s : Shared} {H h : Heap} {env : Env} {m cm : Str → Option Value} {mg mb : Str → Option Value}

theorem nm_glob {x : Str} {pos : Pos} {v : Value} {Q : Value → Shared → Prop} (G : Good H s.heap) (S : Stat H mg mb) (hk : env.scope.kind = .function) (hx : env.kindOf x = some .globalImplicit) (hg : env.globals = mainGlobals) (hv : mg x = some v) (q : Q v s)
    (hd : (x == ("__debug__" : Str)) = false := by decide) : wpAny (model prog w) A (eval (.Name x pos) env) Q E s :=
  Name_function_global hk hx (loadGlobal_global (hg ▸ G.ns S.g (by decide) (by decide)) hv q) hd
theorem nm_builtin {x : Str} {pos : Pos} {v : Value} {Q : Value → Shared → Prop} (G : Good H s.heap) (S : Stat H mg mb) (hk : env.scope.kind = .function) (hx : env.kindOf x = some .globalImplicit) (hg : env.globals = mainGlobals) (hb : env.builtins = builtinsNs) (hm : mg x = none)
    (hv : bootBuiltins x = some v) (hn : x ≠ "__name__") (q : Q v s) (hd : (x == ("__debug__" : Str)) = false := by decide) : wpAny (model prog w) A (eval (.Name x pos) env) Q E s :=
  Name_function_global hk hx (loadGlobal_builtin (hg ▸ G.ns S.g (by decide) (by decide)) hm (hb ▸ G.ns S.b (by decide) (by decide)) ((S.builtins x hn).trans hv) q) hd

def retv (fl : Flow) : Value := match fl with | .ret v => v | _ => .none

/-- a call of a def without cells: its body from a frame of its own -/
theorem call_def {f : Addr} {fd : FuncData} {o : Obj} {body : List Stmt} {args : List Value} {kw : List (Str × Value)} {binds : List (Str × Value)} {n : Nat} {S : Addr → Prop} {R : Value → Heap → Prop}
    (hA : Ok A (n + 1)) (G : Good H h) (hl : h.NoLimit) (ho : h.get? f = some o) (hd : o.data = .func fd) (hbody : fd.body = .stmts body) (hcd : h.CodeRec fd.code fd.qualname)
    (hbind : ∀ s : Shared, s.heap = h → BindsTo s fd ⟨args, kw⟩ binds) (hcell : fd.scope.names.all (fun x => x.2 != .cell) = true) (hloc : ∀ x ∈ binds, fd.scope.names.lookup x.1 = some .local) (hclo : fd.closure = [])
    (hB : ∀ h1, Frm H (callEnv fd h.objs.size f) (fun x => binds.reverse.lookup x) (fun _ => none) h1 → Ext H Nil h h1 → Good H h1 →
      Do prog w H (A.deeper (callEnv fd h.objs.size f)) (execs body (callEnv fd h.objs.size f)) h1 (fun b => S b ∨ h.objs.size ≤ b) (fun fl h' => R (retv fl) h'))
    (hco : fd.scope.isCoroutine = false := by rfl) (hgen : fd.scope.isGenerator = false := by rfl) (hk : fd.scope.kind = .function := by rfl) :
    Do prog w H A (call (.ref f) args kw) h S R := by
  intro s Q E hs hQ
  subst hs
  refine szd (wpAny_call (codeAny_call_def hA.depth ho hd hl hcd hbody (hbind s rfl) (fun x hx q => by have := List.all_eq_true.mp hcell x hx; rw [q] at this; exact absurd this (by decide)) hloc (fun h₀ hn hk₀ => ?_) hco hgen hk))
  have hL : s.heap.objs.size < h₀.objs.size := hn.lt
  have X : Ext H Nil s.heap h₀ := Ext.ofKeeps (Nat.le_of_lt hL) hk₀
  have F : Frm H (callEnv fd s.heap.objs.size f) (fun x => binds.reverse.lookup x) (fun _ => none) h₀ := by
    have hc : (callEnv fd s.heap.objs.size f).cells = [] := hclo
    exact ⟨G.size, hn, (fun n c hm => by rw [hc] at hm; cases hm), (by rw [hc]; exact List.Pairwise.nil), (fun n c c' hm => by rw [hc] at hm; cases hm)⟩
  refine hB h₀ F X (X.good G) _ _ _ rfl fun fl h' tk' X' r _ => ?_
  exact hQ _ h' tk' ((X.to.trans (X'.mono fun b q => q)).fresh fun b q => q) r
end
end Mine

namespace Mine
open PySem PySem.W PySem.Spec PySem.Calls PyProof.Rows

section
variable {prog : Program} {w : World} {A : Around} {E : Value → Shared → Prop} {s : Shared} {H h : Heap} {mg mb : Str → Option Value} {env : Env}

theorem eval_args0 {f : Value} {Q : Args → Shared → Prop} (h : Q ⟨[], []⟩ s) : wpAny (model prog w) A (evalArgs f true [] []) Q E s := by
  unfold evalArgs
  refine wpAny_bind (m := spliced []) (wpAny_pure (wpAny_bind (wpAny_pure (wpAny_holding ?_))))
  exact wpAny_bind (m := evalAll []) (wpAny_pure (wpAny_bind (wpAny_pure (wpAny_pure h))))

theorem meth_str0 {o : Expr} {name : Str} {id : String} {apos pos : Pos} {Q : Value → Shared → Prop} (slot : Slot "str" name id) (ty : typeOf (.builtin id) = pure (.type "method_descriptor"))
    (h : wpAny (model prog w) A (eval o env) (fun ov s₁ => ∃ x t, ov = .str x t ∧ wpAny (model prog w) A (call (.builtin id) [.str x t]) Q E s₁) E s)
    (hbase : attributeBase o name env (eval o env) = eval o env := by rfl) (hline : (apos.endLine == pos.line) = true := by rfl) :
    wpAny (model prog w) A (eval (.Call (.Attribute o name apos) [] [] pos) env) Q E s :=
  wpAny_Call_method0_late hbase hline (wpAny_mono h (fun ov s₁ ⟨x, t, e, hc⟩ => by
    subst e
    exact ⟨"str", id, F.plainAttrs_str, slot, ty, rfl, nofun, callWith_builtin rfl (eval_args0 hc)⟩) fun _ _ e => e)
theorem meth_str1 {o e₁ : Expr} {name : Str} {id : String} {apos pos : Pos} {Q : Value → Shared → Prop} (slot : Slot "str" name id) (ty : typeOf (.builtin id) = pure (.type "method_descriptor"))
    (h : wpAny (model prog w) A (eval o env) (fun ov s₁ => ∃ x t, ov = .str x t ∧ wpAny (model prog w) A (eval e₁ env) (fun v s₂ => wpAny (model prog w) A (call (.builtin id) [.str x t, v]) Q E s₂) E s₁) E s)
    (hbase : attributeBase o name env (eval o env) = eval o env := by rfl) (hline : (apos.endLine == pos.line) = true := by rfl) (htrees : backTo pos (starEach [e₁] env) = [(false, eval e₁ env)] := by rfl) :
    wpAny (model prog w) A (eval (.Call (.Attribute o name apos) [e₁] [] pos) env) Q E s :=
  wpAny_Call_method1_late hbase hline htrees (wpAny_mono h (fun ov s₁ ⟨x, t, e, hc⟩ => by
    subst e
    exact ⟨"str", id, F.plainAttrs_str, slot, ty, rfl, nofun, callWith_builtin rfl (evalArgs_plain (spliced_cons (wpAny_mono hc (fun v s₂ h₂ => spliced_nil h₂) fun _ _ e => e)))⟩) fun _ _ e => e)

/-! leaves: what changes nothing but the count -/
theorem l_int {i : Int} {k : Nat} {pos : Pos} {Q : Value → Shared → Prop} (h : ∀ t tk, Q (.int i t) (tick s tk)) : wpAny (model prog w) A (eval (.Constant (.int i) k pos) env) Q E s := wpAny_Constant_int (h _ _)
theorem l_str {x : Str} {k : Nat} {pos : Pos} {Q : Value → Shared → Prop} (h : ∀ t tk, Q (.str x t) (tick s tk)) : wpAny (model prog w) A (eval (.Constant (.str x) k pos) env) Q E s := Calls.Constant_str (h _ _)
theorem l_add {a b : Int} {t u : Tok} {Q : Value → Shared → Prop} (h : ∀ t tk, Q (.int (a + b) t) (tick s tk)) : wpAny (model prog w) A (binaryOp .Add (.int a t) (.int b u)) Q E s := add_int (h _ _)
theorem l_sub {a b : Int} {t u : Tok} {Q : Value → Shared → Prop} (h : ∀ t tk, Q (.int (a - b) t) (tick s tk)) : wpAny (model prog w) A (binaryOp .Sub (.int a t) (.int b u)) Q E s := sub_int (h _ _)
theorem l_div {a b : Int} {t u : Tok} {Q : Value → Shared → Prop} (hb : b ≠ 0) (hs : b.natAbs < 1073741824) (h : ∀ t tk, Q (.int (Int.fdiv a b) t) (tick s tk)) : wpAny (model prog w) A (binaryOp .FloorDiv (.int a t) (.int b u)) Q E s :=
  floordiv_int (hp := .inl (PyProof.noPylong_small hs)) hb (h _ _)
theorem l_mod {a b : Int} {t u : Tok} {Q : Value → Shared → Prop} (hb : b ≠ 0) (h : ∀ t tk, Q (.int (Int.fmod a b) t) (tick s tk)) : wpAny (model prog w) A (binaryOp .Mod (.int a t) (.int b u)) Q E s := mod_int' hb (h _ _)
theorem l_cat {x y : Str} {t u : Tok} {Q : Value → Shared → Prop} (h : ∀ t tk, Q (.str (x ++ y) t) (tick s tk)) (hs : x.length + y.length ≤ sizeLine) : wpAny (model prog w) A (binaryOp .Add (.str x t) (.str y u)) Q E s := SBL.add (fun t' k _ => h t' k) hs
theorem l_len {l : Addr} {items : Array Value} {Q : Value → Shared → Prop} (hl : s.heap.IsList l items) (hs : items.size ≤ 1000000) (h : ∀ t tk, Q (.int (items.size : Nat) t) (tick s tk)) : wpAny (model prog w) A (call (.builtin "len") [.ref l]) Q E s := len_list hl (by omega) (h _ _)
theorem l_lower {x : Str} {t : Tok} {Q : Value → Shared → Prop} (hx : x.length ≤ 5592405) (h : ∀ t tk, Q (.str (Txt.lower x) t) (tick s tk)) : wpAny (model prog w) A (call (.builtin "str.lower") [.str x t]) Q E s := SCL.lower hx fun _ => h _ _
theorem l_find {x y : Str} {t u : Tok} {Q : Value → Shared → Prop} (h : ∀ t tk, Q (.int (Txt.find x y) t) (tick s tk)) : wpAny (model prog w) A (call (.builtin "str.find") [.str x t, .str y u]) Q E s := SC.find (h _ _)

theorem ite_t {b : Bool} {X Y : Prop} (h : b = true) (x : X) : if b = true then X else Y := by rw [if_pos h]; exact x
theorem ite_f {b : Bool} {X Y : Prop} (h : b = false) (x : Y) : if b = true then X else Y := by rw [if_neg (by rw [h]; decide)]; exact x

/-- a built-in function of one argument -/
theorem bcall1 {x : Str} {id : String} {e₁ : Expr} {np pos : Pos} {Q : Value → Shared → Prop} (G : Good H s.heap) (S : Stat H mg mb) (hk : env.scope.kind = .function) (hx : env.kindOf x = some .globalImplicit) (hg : env.globals = mainGlobals) (hb : env.builtins = builtinsNs) (hm : mg x = none)
    (hv : bootBuiltins x = some (.builtin id)) (hn : x ≠ "__name__") (h : wpAny (model prog w) A (eval e₁ env) (fun v s₁ => wpAny (model prog w) A (call (.builtin id) [v]) Q E s₁) E s)
    (hd : (x == ("__debug__" : Str)) = false := by decide) (htrees : backTo pos (starEach [e₁] env) = [(false, eval e₁ env)] := by rfl) :
    wpAny (model prog w) A (eval (.Call (.Name x np) [e₁] [] pos) env) Q E s :=
  wpAny_Call_ofName (nm_builtin G S hk hx hg hb hm hv hn (by
    rw [htrees]
    exact callWith_builtin rfl (evalArgs_plain (spliced_cons (wpAny_mono h (fun v s₁ h₁ => spliced_nil h₁) fun _ _ e => e)))) hd)
/-- range of one argument -/
theorem tcall1 {x : Str} {T : String} {e₁ : Expr} {np pos : Pos} {Q : Value → Shared → Prop} (G : Good H s.heap) (S : Stat H mg mb) (hk : env.scope.kind = .function) (hx : env.kindOf x = some .globalImplicit) (hg : env.globals = mainGlobals) (hb : env.builtins = builtinsNs) (hm : mg x = none)
    (hv : bootBuiltins x = some (.type T)) (hn : x ≠ "__name__") (h : wpAny (model prog w) A (eval e₁ env) (fun v s₁ => wpAny (model prog w) A (call (.type T) [v]) Q E s₁) E s)
    (hd : (x == ("__debug__" : Str)) = false := by decide) (htrees : backTo pos (starEach [e₁] env) = [(false, eval e₁ env)] := by rfl) :
    wpAny (model prog w) A (eval (.Call (.Name x np) [e₁] [] pos) env) Q E s :=
  wpAny_Call_ofName (nm_builtin G S hk hx hg hb hm hv hn (by
    rw [htrees]
    exact PyProof.Rows.callWith_type rfl (evalArgs_plain (spliced_cons (wpAny_mono h (fun v s₁ h₁ => spliced_nil h₁) fun _ _ e => e)))) hd)

def subCost (x y : Str) : Int := if x == y then 0 else if Txt.lower x == Txt.lower y then 1 else 2

theorem sub_call {x y : Str} {t u : Tok} {n : Nat} (S : Stat H mg mb) (hA : Ok A (n + 2)) (G : Good H h) (hx : x.length ≤ 100) (hy : y.length ≤ 100) :
    Do prog w H A (call (.ref 38) [.str x t, .str y u]) h Nil (fun v _ => ∃ t', v = .int (subCost x y) t') := by
  obtain ⟨pm, e⟩ := G.fn S.fSub (by decide) (by decide)
  refine call_def (binds := [("ch_a", .str x t), ("ch_b", .str y u)]) hA G (G.nolimit S) e rfl rfl (G.codeRec (S.codes (37, "_substitution_cost") (by decide)) (by decide) (by decide)) (fun s _ => BindsTo.of_eq rfl) rfl (locs rfl) rfl (fun h1 Fm X1 G1 => ?_)
  intro s Q E hs hQ
  subst hs
  refine wpAny_execs_cons (wpAny_If (wpAny_isTrue_Compare1 (nm_local Fm rfl rfl rfl (nm_local Fm rfl rfl rfl (eq_str (wpAny_truthy_bool ?_))))))
  by_cases h1 : (x == y) = true
  · rw [if_pos h1]
    exact wpAny_execs_cons (wpAny_Return_some (l_int fun t tk => hQ _ _ _ .refl ⟨t, by simp [subCost, h1, retv]⟩))
  rw [if_neg h1]
  refine wpAny_execs_nil ?_
  refine wpAny_execs_cons (wpAny_If (wpAny_isTrue_Compare1 (meth_str0 F.slot_str_lower F.type_str_lower (nm_local Fm rfl rfl rfl ⟨_, _, rfl, l_lower (by omega) fun _ _ => ?_⟩))))
  refine meth_str0 F.slot_str_lower F.type_str_lower (nm_local Fm rfl rfl rfl ⟨_, _, rfl, l_lower (by omega) fun _ _ => eq_str (wpAny_truthy_bool ?_)⟩)
  obtain ⟨tm, hm⟩ := S.gMove
  obtain ⟨tc, hc⟩ := S.gCase
  by_cases h2 : (Txt.lower x == Txt.lower y) = true
  · rw [if_pos h2]
    exact wpAny_execs_cons (wpAny_Return_some (nm_glob G1 S rfl rfl rfl hc (hQ _ _ _ .refl ⟨_, by simp [subCost, h1, h2, retv]; rfl⟩)))
  rw [if_neg h2]
  refine wpAny_execs_nil ?_
  exact wpAny_execs_cons (wpAny_Return_some (nm_glob G1 S rfl rfl rfl hm (hQ _ _ _ .refl ⟨_, by simp [subCost, h1, h2, retv]; rfl⟩)))
end
end Mine

namespace Mine
open PySem PySem.W PySem.Spec PySem.Calls PyProof.Rows

/-! lambdas -/
section
variable {prog : Program} {w : World} {A : Around} {E : Value → Shared → Prop} {s : Shared} {H h h1 h2 : Heap} {mg mb : Str → Option Value} {env : Env}

structure LamAt (H h : Heap) (f : Addr) (q : Str) (params : Arguments) (body : Expr) (scope : Scope) (clos : List (Str × Addr)) : Prop where
  lo : H.objs.size ≤ f
  ex : ∃ pm c ctv, h.get? f = some { cls := .type "function", data := .func (kla_fn "<lambda>" q params body scope clos pm (.ref c) ctv) } ∧ H.objs.size ≤ c ∧ ∃ oc vs t, h.get? c = some oc ∧ oc.data = .fields vs ∧ vs[1]? = some (.str q t)

theorem LamAt.nil {f : Addr} {q : Str} {params : Arguments} {body : Expr} {scope : Scope} {clos : List (Str × Addr)} (L : LamAt H h1 f q params body scope clos) (c : Calm H Nil h1 h2) : LamAt H h2 f q params body scope clos := by
  obtain ⟨lo, pm, c', ctv, e, hc, oc, vs, t, e2, hd, hv⟩ := L
  exact ⟨lo, pm, c', ctv, c.keep f _ (fun q => q) lo (Solid.of fun vs q => by cases q) e, hc, oc, vs, t, c.keep c' oc (fun q => q) hc (fun vs' q => by rw [hd] at q; cases q; exact ⟨_, _, hv⟩) e2, hd, hv⟩

theorem codeHd_good {c P : Addr} (G : Good H h) (C : CodeHd H c P) (h1 : c ≠ 100) (h2 : c ≠ 107) : CodeHd h c P := by
  obtain ⟨o, vs, file, tf, flags, tg, inF, text, tt, e, r⟩ := C
  exact ⟨o, vs, file, tf, flags, tg, inF, text, tt, G.old c o h1 h2 e, r⟩

theorem triples_snoc {l c : Int} {t u : Tok} {x : Value} : ∀ ps : List Value, TriplesOk ps → TriplesOk (ps ++ [.int l t, .int c u, x])
  | [], _ => trivial
  | .int _ _ :: .int _ _ :: _ :: rest, h => triples_snoc rest h
theorem among_snoc {pos : Pos} {l c : Int} {t u : Tok} {x cv : Value} : ∀ ps : List Value, TriplesOk ps → codeAmong pos (ps ++ [.int l t, .int c u, x]) = some cv → codeAmong pos ps = some cv ∨ cv = x
  | [], _, h => by
    simp only [List.nil_append, codeAmong] at h
    split at h
    · exact .inr (Option.some.inj h).symm
    · cases h
  | .int a _ :: .int b _ :: y :: rest, hp, h => by
    simp only [List.cons_append, codeAmong] at h ⊢
    split at h
    · rename_i q; rw [if_pos q]; exact .inl h
    · rename_i q; rw [if_neg q]; exact among_snoc rest hp h

/-- a lambda is made: its code is found in the table, or put there -/
theorem mk_lam {params : Arguments} {body : Expr} {scope : Scope} {pos : Pos} {c P : Addr} {q : Str} {clos : List (Str × Addr)} {Q : Value → Shared → Prop} (S : Stat H mg mb) (G : Good H s.heap)
    (hdef : defaultsOf params env = ([], [])) (hcl : closureFor scope env = pure clos) (hg : env.globals = mainGlobals) (hcode : env.code = .ref c) (hq : env.qual ++ "<lambda>" = q)
    (hc : (c = 104 ∧ P = 100 ∧ q = qApart) ∨ (c = 109 ∧ P = 107 ∧ q = qLaw))
    (k : ∀ f h' tk', LamAt H h' f q params body scope clos → Ext H Nil s.heap h' → s.heap.objs.size ≤ f → Q (.ref f) (put s h' tk')) :
    wpAny (model prog w) A (eval (.Lambda params body scope pos) env) Q E s := by
  refine kla_eval hdef ?_
  rw [hq]
  have hP : P = 100 ∨ P = 107 := by rcases hc with ⟨_, h, _⟩ | ⟨_, h, _⟩ <;> simp [h]
  have hP107 : P ≤ 107 := by rcases hP with h | h <;> rw [h] <;> decide
  have hPlt : P < H.objs.size := G.le hP107
  have hT : TabOk P q H.objs.size s.heap := by
    rcases hc with ⟨_, h1, h2⟩ | ⟨_, h1, h2⟩ <;> rw [h1, h2]
    · exact G.t1
    · exact G.t2
  have hC : CodeHd s.heap c P := by
    rcases hc with ⟨h0, h1, _⟩ | ⟨h0, h1, _⟩ <;> rw [h0, h1]
    · exact codeHd_good G S.cApart (by decide) (by decide)
    · exact codeHd_good G S.cLaw (by decide) (by decide)
  obtain ⟨ps, eP, ht, hall⟩ := hT
  obtain ⟨bm, ob, b1, b2, b3, b4, b5, b6⟩ := S.bmain
  have hbG : bm ≠ mainGlobals := fun q => by
    obtain ⟨o, es, ep, e, hd, _⟩ := S.g
    rw [q, e] at b3; cases b3; rw [hd] at b6; cases b6
  have hb1 : bm ≠ 100 := fun q => by rw [q, S.tApart] at b3; cases b3; cases b4
  have hb2 : bm ≠ 107 := fun q => by rw [q, S.tLaw] at b3; cases b3; cases b4
  have hbP : bm ≠ P := fun q => by rcases hP with h | h <;> rw [h] at q <;> contradiction
  have hB : s.heap.BuiltinsAt mg P := ⟨bm, ob, b1, b2, hbG, hbP, G.old _ _ hb1 hb2 b3, b4, b5, b6⟩
  have hns := G.ns S.g (by decide) (by decide)
  have hgP : mainGlobals ≠ P := fun q => by rcases hP with h | h <;> rw [h] at q <;> exact absurd q (by decide)
  cases hf : codeAmong pos ps.toList with
  | some cv =>
    obtain ⟨c', oc, vs, t, ecv, hlo, e2, hd, hv⟩ := hall pos cv hf
    subst ecv
    refine kla_makeFunctionHit (mg := mg) hcl hg hns hcode hC eP ht hf hB fun ctv h' tk hk hsz => ?_
    have X : Ext H Nil s.heap (h'.push { cls := .type "function", data := .func (kla_fn "<lambda>" q params body scope clos ((mg "__name__").getD .none) (.ref c') ctv) }) :=
      Ext.ofKeeps (by rw [Heap.size_push]; omega) fun b o e => Heap.get?_push_of_some _ (hk b o e)
    exact k _ _ _ ⟨Nat.le_trans G.size hsz, _, c', ctv, Heap.get?_push_size _ rfl, hlo, oc, vs, t, Heap.get?_push_of_some _ (hk _ _ e2), hd, hv⟩ X hsz
  | none =>
    refine kla_makeFunction (mg := mg) hcl hg hns hcode hC eP ht hf hgP hB fun c' ctv h' tk hx hge hlt hrec htb => ?_
    obtain ⟨c2, oc, vs, t, e2, hoc, hd, hv⟩ := hrec
    cases e2
    have hs' : s.heap.objs.size ≤ h'.objs.size := Nat.le_of_lt (Nat.lt_of_le_of_lt hge hlt)
    have hk : ∀ b o, H.objs.size ≤ b → s.heap.get? b = some o → h'.get? b = some o := fun b o hb e => hx b o (fun q => Nat.lt_irrefl _ (Nat.lt_of_lt_of_le hPlt (q ▸ hb))) e
    have tabP : TabOk P q H.objs.size (h'.push (kla_obj "<lambda>" q params body scope clos ((mg "__name__").getD .none) c' ctv)) := by
      refine ⟨_, Heap.get?_push_of_some _ htb, ?_, fun pos' cv hf' => ?_⟩
      · rw [Array.toList_append]; exact triples_snoc _ ht
      · rw [Array.toList_append] at hf'
        rcases among_snoc _ ht hf' with hf' | hf'
        · obtain ⟨c3, oc3, vs3, t3, e3, hl3, e4, hd3, hv3⟩ := hall pos' cv hf'
          exact ⟨c3, oc3, vs3, t3, e3, hl3, Heap.get?_push_of_some _ (hk _ _ hl3 e4), hd3, hv3⟩
        · exact ⟨c', oc, vs, t, hf', Nat.le_trans G.size hge, Heap.get?_push_of_some _ hoc, hd, hv⟩
    have other : ∀ P' q', P' ≤ 107 → P' ≠ P → TabOk P' q' H.objs.size s.heap → TabOk P' q' H.objs.size (h'.push (kla_obj "<lambda>" q params body scope clos ((mg "__name__").getD .none) c' ctv)) := fun P' q' hP' hne x => by
      refine x.keeps fun b o hb e => Heap.get?_push_of_some _ (hx b o (fun r => ?_) e)
      rcases hb with hb | ⟨hb, _⟩
      · exact hne (hb ▸ r)
      · exact Nat.lt_irrefl _ (Nat.lt_of_lt_of_le hPlt (r ▸ hb))
    have G' : Good H (h'.push (kla_obj "<lambda>" q params body scope clos ((mg "__name__").getD .none) c' ctv)) := by
      refine ⟨G.lo, by rw [Heap.size_push]; have := G.size; omega, fun b o n1 n2 e => Heap.get?_push_of_some _ (hx b o (fun r => ?_) (G.old b o n1 n2 e)), ?_, ?_⟩
      · rcases hP with h | h <;> rw [h] at r <;> contradiction
      · rcases hc with ⟨_, h1, h2⟩ | ⟨_, h1, h2⟩
        · rw [h1, h2] at tabP; rw [h2]; exact tabP
        · exact other 100 qApart (by decide) (by rw [h1]; decide) G.t1
      · rcases hc with ⟨_, h1, h2⟩ | ⟨_, h1, h2⟩
        · exact other 107 qLaw (by decide) (by rw [h1]; decide) G.t2
        · rw [h1, h2] at tabP; rw [h2]; exact tabP
    refine k _ _ _ ⟨Nat.le_trans G.size hs', _, c', ctv, Heap.get?_push_size _ rfl, Nat.le_trans G.size hge, oc, vs, t, Heap.get?_push_of_some _ hoc, hd, hv⟩ ⟨⟨?_, fun b o _ hb _ e => Heap.get?_push_of_some _ (hk b o hb e), fun _ => G'⟩, fun b o vs hb _ e => Heap.get?_push_of_some _ (hk b o hb e)⟩ hs'
    rw [Heap.size_push]; omega

def lamEnv (scope : Scope) (L : Addr) (clos : List (Str × Addr)) (q : Str) (f : Addr) (cv : Value) : Env := newEnv scope L mainGlobals clos (q ++ ".<locals>.") (some f) cv none builtinsNs

/-- a lambda is called -/
theorem lam_call {f : Addr} {q : Str} {params : Arguments} {body : Expr} {scope : Scope} {clos : List (Str × Addr)} {cm : Str → Option Value} {args : List Value} {binds : List (Str × Value)} {n : Nat} {S' : Addr → Prop} {R : Value → Heap → Prop}
    (S : Stat H mg mb) (hA : Ok A (n + 1)) (G : Good H h) (L : LamAt H h f q params body scope clos)
    (hbind : ∀ pm cv ctv, bindArgs (kla_fn "<lambda>" q params body scope clos pm cv ctv) ⟨args, []⟩ = pure binds) (hcell : scope.names.all (fun x => x.2 != .cell) = true) (hloc : ∀ x ∈ binds, scope.names.lookup x.1 = some .local)
    (hcl : ∀ n c, (n, c) ∈ clos → h.IsCell c (cm n) ∧ H.objs.size ≤ c) (hap : clos.Pairwise fun x y => x.2 ≠ y.2) (hun : ∀ n c c', (n, c) ∈ clos → (n, c') ∈ clos → c = c')
    (hB : ∀ cv h1, Frm H (lamEnv scope h.objs.size clos q f cv) (fun x => binds.reverse.lookup x) cm h1 → Ext H Nil h h1 → Good H h1 →
      Do prog w H (A.deeper (lamEnv scope h.objs.size clos q f cv)) (eval body (lamEnv scope h.objs.size clos q f cv)) h1 (fun b => S' b ∨ h.objs.size ≤ b) R)
    (hco : scope.isCoroutine = false := by rfl) (hgen : scope.isGenerator = false := by rfl) (hk : scope.kind = .function := by rfl) :
    Do prog w H A (call (.ref f) args) h S' R := by
  intro s Q E hs hQ
  subst hs
  obtain ⟨lo, pm, c, ctv, e, hc, oc, vs, t, e2, hd, hv⟩ := L
  refine wpAny_call (kla_callFunE hA.depth e rfl hco hgen rfl ⟨c, oc, vs, t, rfl, e2, hd, hv⟩ ?_)
  rw [hbind]
  refine wpAny_pure (wpAny_newFunctionEnv (fun x hx q => by have := List.all_eq_true.mp hcell x hx; rw [q] at this; exact absurd this (by decide)) hloc (fun h₁ hns hsb => ?_) hk)
  refine ⟨(G.nolimit S).fresh _ hsb, ?_⟩
  have hk1 : ∀ b o, s.heap.get? b = some o → h₁.get? b = some o := fun b o e => hsb.extBut b o (Nat.ne_of_lt (Heap.lt_size e)) (Heap.get?_push_of_some _ e)
  have X : Ext H Nil s.heap h₁ := Ext.ofKeeps (Nat.le_of_lt hns.lt) hk1
  refine kla_codeExpr ?_
  refine hB _ h₁ ⟨G.size, hns, fun n c hm => ⟨(hcl n c hm).1.keeps hk1, (hcl n c hm).2⟩, hap, hun⟩ X (X.good G) _ _ _ rfl fun v h' tk' X' r => ?_
  exact hQ _ h' tk' ((X.to.trans (X'.mono fun b q => q)).fresh fun b q => q) r
end
end Mine

namespace Mine
open PySem PySem.W PySem.Spec PySem.Calls PyProof.Rows

/-- the search by halves: up where p says yes -/
def bs (p : Nat → Bool) : Nat → Nat → Nat → Nat
  | 0, lo, _ => lo
  | f + 1, lo, hi => if lo < hi then (if p ((lo + hi) / 2) then bs p f ((lo + hi) / 2 + 1) hi else bs p f lo ((lo + hi) / 2)) else lo

theorem bs_end (p : Nat → Bool) (f lo hi : Nat) (h : ¬ lo < hi) : bs p f lo hi = lo := by
  cases f with
  | zero => rfl
  | succ f => simp [bs, h]
theorem bs_le (p : Nat → Bool) : ∀ f lo hi, lo ≤ hi → bs p f lo hi ≤ hi
  | 0, _, _, h => h
  | f + 1, lo, hi, h => by
    unfold bs
    split
    · split
      · exact bs_le p f _ _ (by omega)
      · exact Nat.le_trans (bs_le p f _ _ (by omega)) (by omega)
    · exact h
theorem bs_ge (p : Nat → Bool) : ∀ f lo hi, lo ≤ bs p f lo hi
  | 0, _, _ => Nat.le_refl _
  | f + 1, lo, hi => by
    unfold bs
    split
    · split
      · exact Nat.le_trans (by omega) (bs_ge p f _ _)
      · exact bs_ge p f _ _
    · exact Nat.le_refl _

theorem bs_fuel (p : Nat → Bool) : ∀ f g lo hi, hi - lo ≤ f → hi - lo ≤ g → bs p f lo hi = bs p g lo hi
  | 0, g, lo, hi, h, _ => by rw [bs_end p 0 lo hi (by omega), bs_end p g lo hi (by omega)]
  | f + 1, 0, lo, hi, _, h => by rw [bs_end p _ lo hi (by omega), bs_end p 0 lo hi (by omega)]
  | f + 1, g + 1, lo, hi, h1, h2 => by
    by_cases hlt : lo < hi
    · simp only [bs, if_pos hlt]
      split
      · exact bs_fuel p f g _ _ (by omega) (by omega)
      · exact bs_fuel p f g _ _ (by omega) (by omega)
    · rw [bs_end p _ lo hi hlt, bs_end p _ lo hi hlt]
theorem bs_up (p : Nat → Bool) {f lo hi : Nat} (hlt : lo < hi) (hf : hi - lo ≤ f) (hp : p ((lo + hi) / 2) = true) : bs p f lo hi = bs p (hi - ((lo + hi) / 2 + 1)) ((lo + hi) / 2 + 1) hi := by
  obtain ⟨g, rfl⟩ : ∃ g, f = g + 1 := ⟨f - 1, by omega⟩
  simp only [bs, if_pos hlt, if_pos hp]
  exact bs_fuel p _ _ _ _ (by omega) (by omega)
theorem bs_down (p : Nat → Bool) {f lo hi : Nat} (hlt : lo < hi) (hf : hi - lo ≤ f) (hp : p ((lo + hi) / 2) = false) : bs p f lo hi = bs p ((lo + hi) / 2 - lo) lo ((lo + hi) / 2) := by
  obtain ⟨g, rfl⟩ : ∃ g, f = g + 1 := ⟨f - 1, by omega⟩
  simp only [bs, if_pos hlt, hp, Bool.false_eq_true, if_false]
  exact bs_fuel p _ _ _ _ (by omega) (by omega)

section
variable {prog : Program} {w : World} {A : Around} {E : Value → Shared → Prop} {s : Shared} {H h h1 h2 : Heap} {mg mb : Str → Option Value} {env : Env}

/-- what is asked of a key: it answers, and its answer is compared with x as p says -/
def KeyOk (prog : Program) (w : World) (H : Heap) (n : Nat) (op : CmpOp) (swap : Bool) (h : Heap) (k : Addr) (vs : Array Value) (x : Value) (p : Nat → Bool) : Prop :=
  ∀ i v h' A', vs[i]? = some v → Ext H Nil h h' → Good H h' → Ok A' n → Do prog w H A' (call (.ref k) [v]) h' Nil fun r h'' =>
    ∀ h3 A3, Ext H Nil h'' h3 → Ok A3 n → Do prog w H A3 (if swap then compareOp op x r else compareOp op r x) h3 Nil fun b _ => b = .bool (p i)

def FnObj (H h : Heap) (k : Addr) : Prop := H.objs.size ≤ k ∧ ∃ o fd, h.get? k = some o ∧ o.data = .func fd
theorem FnObj.calm {S : Addr → Prop} {k : Addr} (x : FnObj H h1 k) (c : Calm H S h1 h2) (hS : ¬ S k) : FnObj H h2 k :=
  ⟨x.1, let ⟨o, fd, e, hd⟩ := x.2; ⟨o, fd, c.keep k o hS x.1 (Solid.of fun vs q => by rw [hd] at q; cases q) e, hd⟩⟩

theorem left_body {k l : Addr} {vs : Array Value} {x : Value} {p : Nat → Bool} {n lo0 : Nat} {t0 : Tok} {L : Addr} (S : Stat H mg mb) (hA : Ok A (n + 2)) (G : Good H h1) (hx : Ext H Nil h h1)
    {fd : FuncData} (hfd : ∃ pm, fd = fdOf (topStmt 8) (.ref 57) (.ref 58) pm (.ref 64))
    (F : Frm H (callEnv fd L 65) (fun z => ([(("a" : Str), Value.ref l), ("x", x), ("lo", .int (lo0 : Nat) t0), ("hi", .none), ("key", .ref k)]).reverse.lookup z) (fun _ => none) h1)
    (hL : h.objs.size ≤ L) (ll : Lst H h l vs) (hk : FnObj H h k) (hsz : vs.size ≤ 1000) (hlo : lo0 ≤ vs.size) (hkey : KeyOk prog w H n .Lt false h k vs x p) :
    Do prog w H A (execs (bodyOf (topStmt 8)) (callEnv fd L 65)) h1 (fun b => Nil b ∨ h.objs.size ≤ b) (fun fl h' => ∃ t', retv fl = .int (bs p (vs.size - lo0) lo0 vs.size : Nat) t') := by
  obtain ⟨pm, rfl⟩ := hfd
  intro s Q E hs hQ
  subst hs
  refine wpAny_execs_cons (wpAny_If (wpAny_isTrue_Compare1 (nm_local F rfl rfl rfl (l_int fun _ _ => wpAny_lt_int (wpAny_truthy_bool (ite_f (by simp) ?_))))))
  refine wpAny_execs_nil ?_
  have ll1 := ll.nil hx.toCalm
  have hk1 := hk.calm hx.toCalm fun q => q
  refine wpAny_execs_cons (wpAny_If (wpAny_isTrue_Compare1 (nm_local F rfl rfl rfl (wpAny_Constant_none (is_none (wpAny_truthy_bool (ite_t rfl ?_)))))))
  refine wpAny_execs_cons (wpAny_Assign_Name (bcall1 G S rfl rfl rfl rfl S.gLen rfl (by decide) (nm_local F rfl rfl rfl (l_len ll1.isList (by omega) fun th0 _ => ?_))))
  refine st_local F rfl rfl fun h2 tk2 F2 X2 => wpAny_execs_nil ?_
  have hLn : ∀ b, At L b → Nil b ∨ h.objs.size ≤ b := fun b q => .inr (by have q' : b = L := q; rw [q']; exact hL)
  have X12 : Ext H (fun b => Nil b ∨ h.objs.size ≤ b) s.heap h2 := X2.mono hLn
  have ll2 := ll1.loc F X2.toCalm
  have kL : k ≠ L := fun q => by
    obtain ⟨o, fd, e, hd⟩ := hk.2
    exact Nat.lt_irrefl _ (Nat.lt_of_lt_of_le (Heap.lt_size e) (q ▸ hL))
  have hk2 := hk1.calm X2.toCalm kL
  refine wpAny_execs_cons (wpAny_If (wpAny_isTrue_Compare1 (nm_local F2 rfl rfl rfl (wpAny_Constant_none (is_none (wpAny_truthy_bool (ite_f rfl ?_)))))))
  have G2 := X2.good G
  refine wpAny_execs_cons (while_rule (H := H) (S := At L)
    (fun f h' => ∃ m' lo hi tl th, Frm H (callEnv (fdOf (topStmt 8) (.ref 57) (.ref 58) pm (.ref 64)) L 65) m' (fun _ => none) h' ∧ Good H h' ∧ m' "a" = some (.ref l) ∧ m' "x" = some x ∧ m' "key" = some (.ref k) ∧
      m' "lo" = some (.int (lo : Nat) tl) ∧ m' "hi" = some (.int (hi : Nat) th) ∧ lo ≤ hi ∧ hi ≤ vs.size ∧ hi - lo ≤ f ∧ bs p f lo hi = bs p (vs.size - lo0) lo0 vs.size)
    (fun _ _ => False)
    (fun h' => ∃ m' tl, Frm H (callEnv (fdOf (topStmt 8) (.ref 57) (.ref 58) pm (.ref 64)) L 65) m' (fun _ => none) h' ∧ m' "lo" = some (.int (bs p (vs.size - lo0) lo0 vs.size : Nat) tl))
    (vs.size - lo0) ⟨_, lo0, vs.size, t0, _, F2, G2, rfl, rfl, rfl, rfl, rfl, hlo, Nat.le_refl _, Nat.le_refl _, rfl⟩ ?_ ?_ (fun v h' tk' X r => r.elim))
  · rintro f s₁ Q' E' ⟨m', lo, hi, tl, th, F', G', ea, ex, ek, el, eh, hlh, hh, hf, hb⟩ X' hout hin
    refine wpAny_isTrue_Compare1 (nm_local F' rfl rfl el (nm_local F' rfl rfl eh (wpAny_lt_int (wpAny_truthy_bool ?_))))
    by_cases hlt : lo < hi
    · have e1 : decide (((lo : Nat) : Int) < ((hi : Nat) : Int)) = true := by simp [hlt]
      rw [e1]
      refine hin _ ⟨_, _, rfl, .refl⟩ fun Qb hQb => ?_
      refine wpAny_execs_cons (wpAny_Assign_Name (wpAny_BinOp (wpAny_BinOp (nm_local F' rfl rfl el (nm_local F' rfl rfl eh (l_add fun _ _ => l_int fun _ _ => l_div (by decide) (by decide) fun tm _ => ?_))))))
      have em : Int.fdiv (((lo : Nat) : Int) + ((hi : Nat) : Int)) 2 = (((lo + hi) / 2 : Nat) : Int) := by
        rw [Int.fdiv_eq_ediv_of_nonneg _ (by decide)]; omega
      rw [em]
      refine st_local F' rfl rfl fun h3 tk3 F3 X3 => ?_
      have G3 := X3.good G'
      have hmid : (lo + hi) / 2 < vs.size := by omega
      have X03 : Ext H Nil h h3 := hx.trans' (X2.trans (X'.trans X3)) fun b q => by have q' : b = L := q; rw [q']; exact hL
      have ll3 := ll.nil X03.toCalm
      have hk3 := hk.calm X03.toCalm fun q => q
      obtain ⟨ho3, fd3, ek3, hfd3⟩ := hk3.2
      have hv : vs[(lo + hi) / 2]? = some vs[(lo + hi) / 2] := by simp [hmid]
      refine wpAny_execs_cons (wpAny_If (wpAny_isTrue_Compare1 (wpAny_Call_ofName (nm_local F3 rfl rfl ((upd_ne (by decide)).trans ek) (callWith_function (evalArgs_plain (spliced_cons
        (wpAny_Subscript_Name (T := "list") list_getitem_lookup (nm_local F3 rfl rfl ((upd_ne (by decide)).trans ea) (nm_local F3 rfl rfl upd_self ⟨ll3.isList.typeIs,
          wpAny_getItem_list ll3.isList (by omega) (by omega) hv (spliced_nil ⟨⟨ek3, hfd3⟩, ?_⟩)⟩))))))))))
      refine hkey _ _ h3 A hv X03 G3 (hA.mono (by omega)) _ _ _ rfl fun r h4 tk4 X4 hr => ?_
      have F4 := F3.nil X4.toCalm
      refine nm_local F4 rfl rfl ((upd_ne (by decide)).trans ex) ?_
      refine hr h4 A .refl (hA.mono (by omega)) _ _ _ rfl fun c h5 tk5 X5 hc => ?_
      subst hc
      have F5 := F4.nil X5.toCalm
      have G5 := X5.good (X4.good G3)
      have X35 : Ext H (At L) s₁.heap h5 := X3.trans (X4.trans X5).to
      refine wpAny_truthy_bool ?_
      cases hp : p ((lo + hi) / 2) with
      | true =>
        refine ite_t rfl (wpAny_execs_cons (wpAny_Assign_Name (wpAny_BinOp (nm_local F5 rfl rfl upd_self (l_int fun _ _ => l_add fun t6 _ => st_local F5 rfl rfl fun h6 tk6 F6 X6 => wpAny_execs_nil (wpAny_execs_nil (hQb _ _ _ (X35.trans X6) ?_)))))))
        refine ⟨hi - ((lo + hi) / 2 + 1), by omega, _, (lo + hi) / 2 + 1, hi, t6, th, F6, X6.good G5, ?_, ?_, ?_, ?_, ?_, by omega, by omega, by omega, ?_⟩
        · exact (upd_ne (by decide)).trans ((upd_ne (by decide)).trans ea)
        · exact (upd_ne (by decide)).trans ((upd_ne (by decide)).trans ex)
        · exact (upd_ne (by decide)).trans ((upd_ne (by decide)).trans ek)
        · rw [upd_self]; congr 2
        · exact (upd_ne (by decide)).trans ((upd_ne (by decide)).trans eh)
        · rw [← hb]
          exact (bs_up p hlt hf hp).symm
      | false =>
        refine ite_f rfl (wpAny_execs_cons (wpAny_Assign_Name (nm_local F5 rfl rfl upd_self (st_local F5 rfl rfl fun h6 tk6 F6 X6 => wpAny_execs_nil (wpAny_execs_nil (hQb _ _ _ (X35.trans X6) ?_))))))
        refine ⟨(lo + hi) / 2 - lo, by omega, _, lo, (lo + hi) / 2, tl, tm, F6, X6.good G5, ?_, ?_, ?_, ?_, ?_, by omega, by omega, by omega, ?_⟩
        · exact (upd_ne (by decide)).trans ((upd_ne (by decide)).trans ea)
        · exact (upd_ne (by decide)).trans ((upd_ne (by decide)).trans ex)
        · exact (upd_ne (by decide)).trans ((upd_ne (by decide)).trans ek)
        · exact (upd_ne (by decide)).trans ((upd_ne (by decide)).trans el)
        · exact upd_self
        · rw [← hb]
          exact (bs_down p hlt hf hp).symm
    · have e1 : decide (((lo : Nat) : Int) < ((hi : Nat) : Int)) = false := by simp [hlt]
      rw [e1]
      refine hout _ _ .refl ⟨m', tl, F', ?_⟩
      rw [el, ← hb, bs_end p f lo hi hlt]
  · rintro h3 tk3 X3 ⟨m', tl, F3, el⟩
    refine wpAny_execs_nil ?_
    refine wpAny_execs_cons (wpAny_Return_some (nm_local F3 rfl rfl el ?_))
    exact hQ _ _ _ (X12.trans (X3.mono hLn)) ⟨_, rfl⟩
end
end Mine

namespace Mine
open PySem PySem.W PySem.Spec PySem.Calls PyProof.Rows

section
variable {prog : Program} {w : World} {A : Around} {E : Value → Shared → Prop} {s : Shared} {H h h1 h2 : Heap} {mg mb : Str → Option Value} {env : Env}

theorem left_call {args : List Value} {kw : List (Str × Value)} {k l : Addr} {vs : Array Value} {x : Value} {p : Nat → Bool} {n lo0 : Nat} {t0 : Tok} (S : Stat H mg mb) (hA : Ok A (n + 3)) (G : Good H h)
    (hbind : ∀ pm (s : Shared), s.heap = h → BindsTo s (fdOf (topStmt 8) (.ref 57) (.ref 58) pm (.ref 64)) ⟨args, kw⟩ [(("a" : Str), Value.ref l), ("x", x), ("lo", .int (lo0 : Nat) t0), ("hi", .none), ("key", .ref k)])
    (ll : Lst H h l vs) (hk : FnObj H h k) (hsz : vs.size ≤ 1000) (hlo : lo0 ≤ vs.size) (hkey : KeyOk prog w H n .Lt false h k vs x p) :
    Do prog w H A (call (.ref 65) args kw) h Nil (fun v _ => ∃ t', v = .int (bs p (vs.size - lo0) lo0 vs.size : Nat) t') := by
  obtain ⟨pm, e⟩ := G.fn S.fLeft (by decide) (by decide)
  refine call_def (n := n + 2) hA G (G.nolimit S) e rfl rfl (G.codeRec (S.codes (64, "bisect_left") (by decide)) (by decide) (by decide)) (fun s hs => hbind pm s hs) rfl (locs rfl) rfl (fun h1 F X1 G1 => ?_)
  exact left_body S hA.deeper G1 X1 ⟨pm, rfl⟩ F (Nat.le_refl _) ll hk hsz hlo hkey

theorem left_bind1 {k l : Addr} {x : Value} (S : Stat H mg mb) (G : Good H h) : ∃ t0, ∀ pm (s : Shared), s.heap = h →
    BindsTo s (fdOf (topStmt 8) (.ref 57) (.ref 58) pm (.ref 64)) ⟨[.ref l, x], [("key", .ref k)]⟩ [(("a" : Str), Value.ref l), ("x", x), ("lo", .int ((0 : Nat) : Int) t0), ("hi", .none), ("key", .ref k)] := by
  obtain ⟨t, e⟩ := S.dLeft
  exact ⟨t, fun pm s hs => BindsTo.of_defaults rfl (hs ▸ G.old _ _ (by decide) (by decide) e) rfl rfl rfl⟩
theorem left_bind2 {k l : Addr} {x : Value} {lo : Nat} {t0 : Tok} (S : Stat H mg mb) (G : Good H h) : ∀ pm (s : Shared), s.heap = h →
    BindsTo s (fdOf (topStmt 8) (.ref 57) (.ref 58) pm (.ref 64)) ⟨[.ref l, x, .int (lo : Nat) t0, .none], [("key", .ref k)]⟩ [(("a" : Str), Value.ref l), ("x", x), ("lo", .int (lo : Nat) t0), ("hi", .none), ("key", .ref k)] := by
  obtain ⟨t, e⟩ := S.dLeft
  exact fun pm s hs => BindsTo.of_defaults rfl (hs ▸ G.old _ _ (by decide) (by decide) e) rfl rfl rfl
end
end Mine

namespace Mine
open PySem PySem.W PySem.Spec PySem.Calls PyProof.Rows

def StrL (vs : Array Value) (xs : List Str) : Prop := vs.size = xs.length ∧ ∀ (i : Nat) (x : Str), xs[i]? = some x → ∃ t, vs[i]? = some (Value.str x t)
def IntL (vs : Array Value) (xs : List Int) : Prop := vs.size = xs.length ∧ ∀ (i : Nat) (x : Int), xs[i]? = some x → ∃ t, vs[i]? = some (Value.int x t)

section
variable {prog : Program} {w : World} {A : Around} {E : Value → Shared → Prop} {s : Shared} {H h h1 h2 : Heap} {mg mb : Str → Option Value} {env : Env}

theorem frm_of_inC {fd : FuncData} {f : Addr} {m cm : Str → Option Value} (G : H.objs.size ≤ s.heap.objs.size) {s1 : Shared} (hL : (callEnvC fd s.heap.objs.size f).locals = s.heap.objs.size) (hnd : ((cellsFrom 0 fd.scope.names []).map (·.1)).Nodup)
    (x : InCallC s (callEnvC fd s.heap.objs.size f).locals m (callEnvC fd s.heap.objs.size f).cells cm s1) : Frm H (callEnvC fd s.heap.objs.size f) m cm s1.heap := by
  have hnd' : ((callEnvC fd s.heap.objs.size f).cells.map (·.1)).Nodup := cellsFrom_names fd.scope.names 0 (s.heap.objs.size + 1) [] [] rfl ▸ hnd
  refine ⟨by rw [hL]; exact G, x.toInCall.ns, fun n c hm => ⟨x.cell n c (lookup_of_mem_nodup hnd' hm), ?_⟩, x.apart, fun n c c' h1 h2 => nodup_uniq hnd' h1 h2⟩
  have := x.above n c hm
  rw [hL] at this
  exact Nat.le_trans G (Nat.le_of_lt this)

/-- a call of a def with cells -/
theorem call_defC {f : Addr} {fd : FuncData} {o : Obj} {body : List Stmt} {args : List Value} {binds : List (Str × Value)} {n : Nat} {S : Addr → Prop} {R : Value → Heap → Prop}
    (hA : Ok A (n + 1)) (G : Good H h) (hl : h.NoLimit) (ho : h.get? f = some o) (hd : o.data = .func fd) (hbody : fd.body = .stmts body) (hcd : h.CodeRec fd.code fd.qualname)
    (hbind : bindArgs fd ⟨args, []⟩ = pure binds) (hclo : fd.closure = [])
    (hkind : ∀ k : Nat, ∀ x ∈ binds, fd.scope.names.lookup x.1 = some .local ∨ (fd.scope.names.lookup x.1 = some .cell ∧ ((cellsFrom (k + 1) fd.scope.names []).lookup x.1).isSome = true))
    (hnd : ((cellsFrom 0 fd.scope.names []).map (·.1)).Nodup)
    (hB : ∀ h1, Frm H (callEnvC fd h.objs.size f) (bindL (callEnvC fd h.objs.size f).kindOf binds fun _ => none) (bindC (callEnvC fd h.objs.size f).kindOf binds fun _ => none) h1 → Ext H Nil h h1 → Good H h1 →
      Do prog w H (A.deeper (callEnvC fd h.objs.size f)) (execs body (callEnvC fd h.objs.size f)) h1 (fun b => S b ∨ h.objs.size ≤ b) (fun fl h' => R (retv fl) h'))
    (hco : fd.scope.isCoroutine = false := by rfl) (hgen : fd.scope.isGenerator = false := by rfl) (hk : fd.scope.kind = .function := by rfl) :
    Do prog w H A (call (.ref f) args []) h S R := by
  intro s Q E hs hQ
  subst hs
  refine wpAny_call (codeAny_call_cells hA.depth ho hd hl hcd hbody hbind hclo (hkind _) (fun s₁ x => ?_) hco hgen hk)
  obtain ⟨h₀, tk, rfl, hk₀⟩ := x.done
  have F : Frm H _ _ _ h₀ := frm_of_inC G.size rfl hnd x
  have X : Ext H Nil s.heap h₀ := Ext.ofKeeps (Nat.le_of_lt F.ns.lt) hk₀
  refine hB h₀ F X (X.good G) _ _ _ rfl fun fl h' tk' X' r => ?_
  exact hQ _ h' tk' ((X.to.trans (X'.mono fun b q => q)).fresh fun b q => q) r

/-- a list display -/
theorem l_list {elts : List Expr} {pos : Pos} {Q : Value → Shared → Prop}
    (h : wpAny (model prog w) A (spliced (elts.map fun e => (false, eval e env))) (fun vs s₁ => vs.length ≤ 1000 ∧ H.objs.size ≤ s₁.heap.objs.size ∧ ∀ a h' tk, Lst H h' a vs.toArray → Ext H Nil s₁.heap h' → s₁.heap.objs.size ≤ a → Q (.ref a) (put s₁ h' tk)) E s)
    (ht : backTo pos (starEach elts env) = elts.map fun e => (false, eval e env) := by rfl) :
    wpAny (model prog w) A (eval (.List elts pos) env) Q E s :=
  wpAny_List (wpAny_mono (ht ▸ h) (fun vs s₁ ⟨h1, h2, h3⟩ => ⟨Nat.le_trans h1 (by decide), h3 _ _ s₁.toks (Lst.push h2 vs) (Ext.push _) (Nat.le_refl _)⟩) fun _ _ e => e)

theorem gcall1 {x : Str} {f : Addr} {o : Obj} {fd : FuncData} {e₁ : Expr} {np pos : Pos} {Q : Value → Shared → Prop} (G : Good H s.heap) (S : Stat H mg mb) (hk : env.scope.kind = .function) (hx : env.kindOf x = some .globalImplicit) (hg : env.globals = mainGlobals) (hv : mg x = some (.ref f))
    (hf : H.get? f = some o) (hfd : o.data = .func fd) (h1 : f ≠ 100) (h2 : f ≠ 107)
    (h : wpAny (model prog w) A (eval e₁ env) (fun v s₁ => Good H s₁.heap ∧ wpAny (model prog w) A (call (.ref f) [v]) Q E s₁) E s)
    (hd : (x == ("__debug__" : Str)) = false := by decide) (htrees : backTo pos (starEach [e₁] env) = [(false, eval e₁ env)] := by rfl) :
    wpAny (model prog w) A (eval (.Call (.Name x np) [e₁] [] pos) env) Q E s :=
  wpAny_Call_ofName (nm_glob G S hk hx hg hv (by
    rw [htrees]
    exact callWith_function (evalArgs_plain (spliced_cons (wpAny_mono h (fun v s₁ h₃ => spliced_nil ⟨⟨h₃.1.old _ _ h1 h2 hf, hfd⟩, h₃.2⟩) fun _ _ e => e)))) hd)
theorem gcall2 {x : Str} {f : Addr} {o : Obj} {fd : FuncData} {e₁ e₂ : Expr} {np pos : Pos} {Q : Value → Shared → Prop} (G : Good H s.heap) (S : Stat H mg mb) (hk : env.scope.kind = .function) (hx : env.kindOf x = some .globalImplicit) (hg : env.globals = mainGlobals) (hv : mg x = some (.ref f))
    (hf : H.get? f = some o) (hfd : o.data = .func fd) (h1 : f ≠ 100) (h2 : f ≠ 107)
    (h : wpAny (model prog w) A (eval e₁ env) (fun v s₁ => wpAny (model prog w) A (eval e₂ env) (fun v' s₂ => Good H s₂.heap ∧ wpAny (model prog w) A (call (.ref f) [v, v']) Q E s₂) E s₁) E s)
    (hd : (x == ("__debug__" : Str)) = false := by decide) (htrees : backTo pos (starEach [e₁, e₂] env) = [(false, eval e₁ env), (false, eval e₂ env)] := by rfl) :
    wpAny (model prog w) A (eval (.Call (.Name x np) [e₁, e₂] [] pos) env) Q E s :=
  wpAny_Call_ofName (nm_glob G S hk hx hg hv (by
    rw [htrees]
    exact callWith_function (evalArgs_plain (spliced_cons (wpAny_mono h (fun v s₁ h₃ => spliced_cons (wpAny_mono h₃ (fun v' s₂ h₄ => spliced_nil ⟨⟨h₄.1.old _ _ h1 h2 hf, hfd⟩, h₄.2⟩) fun _ _ e => e)) fun _ _ e => e)))) hd)

/-- some positional arguments and one keyword -/
theorem gcallK {x kn : Str} {f : Addr} {o : Obj} {fd : FuncData} {e₁ : Expr} {es : List Expr} {ke : Expr} {kpos np pos : Pos} {Q : Value → Shared → Prop} (G : Good H s.heap) (S : Stat H mg mb) (hk : env.scope.kind = .function) (hx : env.kindOf x = some .globalImplicit) (hg : env.globals = mainGlobals) (hv : mg x = some (.ref f))
    (hf : H.get? f = some o) (hfd : o.data = .func fd) (h1 : f ≠ 100) (h2 : f ≠ 107)
    (h : wpAny (model prog w) A (spliced ((false, eval e₁ env) :: es.map fun e => (false, eval e env))) (fun vs s₁ => wpAny (model prog w) A (eval ke env) (fun vk s₂ => Good H s₂.heap ∧ wpAny (model prog w) A (call (.ref f) vs [(kn, vk)]) Q E s₂) E s₁) E s)
    (hd : (x == ("__debug__" : Str)) = false := by decide) (htrees : backTo pos (starEach (e₁ :: es) env) = (false, eval e₁ env) :: es.map fun e => (false, eval e env) := by rfl) (hkw : backToKw pos (keywordEach [{ arg := some kn, value := ke, pos := kpos }] env) = [(some kn, do let v ← eval ke env; standAt pos; pure v)] := by rfl) :
    wpAny (model prog w) A (eval (.Call (.Name x np) (e₁ :: es) [{ arg := some kn, value := ke, pos := kpos }] pos) env) Q E s := by
  refine wpAny_Call_ofName (nm_glob G S hk hx hg hv ?_ hd)
  rw [htrees]
  rw [hkw]
  refine callWith_function_kw (o := o) (fd := fd) (evalArgs_kw (Q := fun x s₁ => (s₁.heap.get? f = some o ∧ o.data = .func fd) ∧ wpAny (model prog w) A (call (.ref f) ([] ++ x.pos) x.kw) Q E s₁) rfl (wpAny_mono h (fun vs s₂ h₂ => ?_) fun _ _ e => e))
  refine wpAny_evalAll_cons ?_
  refine wpAny_bind (wpAny_mono h₂ (fun vk s₃ h₃ => wpAny_bind (wpAny_standAt (wpAny_pure (wpAny_evalAll_nil ?_)))) fun _ _ e => e)
  exact ⟨⟨h₃.1.old _ _ h1 h2 hf, hfd⟩, h₃.2⟩
end
end Mine

namespace Mine
open PySem PySem.W PySem.Spec PySem.Calls PyProof.Rows

def arg1 (x : Str) (p : Pos) : Arguments := { posonlyargs := [], args := [{ arg := x, annotation := none, pos := p }], vararg := none, kwonlyargs := [], kw_defaults := [], kwarg := none, defaults := [] }
def lamSc (names : List (Str × NameKind)) : Scope := { kind := .function, names := names, isGenerator := false, isCoroutine := false, more := [] }

/-- own list of ints, of strings, below K -/
def IL (H : Heap) (K : Addr) (h : Heap) (a : Addr) (xs : List Int) : Prop := a < K ∧ ∃ vs, Lst H h a vs ∧ IntL vs xs
def SL (H : Heap) (K : Addr) (h : Heap) (a : Addr) (xs : List Str) : Prop := a < K ∧ ∃ vs, Lst H h a vs ∧ StrL vs xs
def NotL (h : Heap) (b : Addr) : Prop := ∀ vs, ¬ h.IsList b vs

section
variable {prog : Program} {w : World} {A : Around} {E : Value → Shared → Prop} {s : Shared} {H h h1 h2 : Heap} {mg mb : Str → Option Value} {env : Env} {S : Addr → Prop} {K K' a : Addr}

theorem IL.calm {xs : List Int} (x : IL H K h1 a xs) (c : Calm H S h1 h2) (hS : ∀ b, S b → K ≤ b ∨ NotL h1 b) : IL H K h2 a xs := by
  obtain ⟨hk, vs, l, i⟩ := x
  exact ⟨hk, vs, l.calm c fun q => (hS _ q).elim (fun r => absurd hk (Nat.not_lt.mpr r)) fun r => r _ l.isList, i⟩
theorem SL.calm {xs : List Str} (x : SL H K h1 a xs) (c : Calm H S h1 h2) (hS : ∀ b, S b → K ≤ b ∨ NotL h1 b) : SL H K h2 a xs := by
  obtain ⟨hk, vs, l, i⟩ := x
  exact ⟨hk, vs, l.calm c fun q => (hS _ q).elim (fun r => absurd hk (Nat.not_lt.mpr r)) fun r => r _ l.isList, i⟩
theorem IL.nil {xs : List Int} (x : IL H K h1 a xs) (c : Calm H Nil h1 h2) : IL H K h2 a xs := x.calm c fun _ q => q.elim
theorem SL.nil {xs : List Str} (x : SL H K h1 a xs) (c : Calm H Nil h1 h2) : SL H K h2 a xs := x.calm c fun _ q => q.elim
theorem IL.up {xs : List Int} (x : IL H K h a xs) (hk : K ≤ K') : IL H K' h a xs := ⟨Nat.lt_of_lt_of_le x.1 hk, x.2⟩
theorem SL.up {xs : List Str} (x : SL H K h a xs) (hk : K ≤ K') : SL H K' h a xs := ⟨Nat.lt_of_lt_of_le x.1 hk, x.2⟩
theorem Frm.notL {m cm : Str → Option Value} (F : Frm H env m cm h) : ∀ b, Own env b → NotL h b := fun b hb vs l => F.notList l b hb rfl

theorem IntL.get {vs : Array Value} {xs : List Int} (x : IntL vs xs) {i : Nat} (h : i < xs.length) : ∃ t, vs[i]? = some (Value.int (xs.getD i 0) t) := by
  have := x.2 i xs[i] (by simp [h])
  simpa [List.getD, h] using this
theorem StrL.get {vs : Array Value} {xs : List Str} (x : StrL vs xs) {i : Nat} (h : i < xs.length) : ∃ t, vs[i]? = some (Value.str (xs.getD i "") t) := by
  have := x.2 i xs[i] (by simp [h])
  simpa [List.getD, h] using this

theorem IntL.nil : IntL #[] [] := ⟨rfl, fun i x h => by simp at h⟩
theorem IntL.ofCons {x : Int} {t : Tok} {vs : List Value} {xs : List Int} (h : IntL vs.toArray xs) : IntL (Value.int x t :: vs).toArray (x :: xs) := by
  refine ⟨by simpa using h.1, fun i y hy => ?_⟩
  cases i with
  | zero => simp at hy; subst hy; exact ⟨t, by simp⟩
  | succ i => simp at hy; simpa using h.2 i y (by simpa using hy)
theorem StrL.nil : StrL #[] [] := ⟨rfl, fun i x h => by simp at h⟩
theorem StrL.ofCons {x : Str} {t : Tok} {vs : List Value} {xs : List Str} (h : StrL vs.toArray xs) : StrL (Value.str x t :: vs).toArray (x :: xs) := by
  refine ⟨by simpa using h.1, fun i y hy => ?_⟩
  cases i with
  | zero => simp at hy; subst hy; exact ⟨t, by simp⟩
  | succ i => simp at hy; simpa using h.2 i y (by simpa using hy)

theorem sOn {l : Addr} {items : Array Value} {k : Int} {t : Tok} {x : Value} {Q : Value → Shared → Prop} (hl : s.heap.IsList l items) (h0 : 0 ≤ k) (hx : items[k.toNat]? = some x) (hs : items.size ≤ 1000) (h : Q x s) :
    SubscriptOn (model prog w) A (.ref l) (.int k t) Q E s :=
  ⟨"list", _, list_getitem_lookup, hl.typeIs, wpAny_getItem_list hl h0 (by
    have : k.toNat < items.size := by
      rcases Nat.lt_or_ge k.toNat items.size with q | q
      · exact q
      · rw [Array.getElem?_eq_none q] at hx; cases hx
    omega) hx h⟩

def apP (xs ys : List Str) (c : Int) (i : Nat) : Bool := decide (subCost (xs.getD i "") (ys.getD i "") < c)
def apartF (xs ys : List Str) : Int := 10 - (bs (apP xs ys 1) 5 0 5 : Nat) - (bs (apP xs ys 2) 5 0 5 : Nat)

def apNames : List (Str × NameKind) := [("level", .local), ("one", .free), ("other", .free), ("_substitution_cost", .globalImplicit)]

theorem apart_key {f a b ca cb : Addr} {np p1 p2 p3 p4 p5 p6 p7 p8 : Pos} {xs ys : List Str} {c : Int} {t : Tok} {n : Nat} {vs : Array Value} (S : Stat H mg mb) (G : Good H h)
    (L : LamAt H h f qApart (arg1 "level" p8) (.Call (.Name "_substitution_cost" np) [.Subscript (.Name "one" p1) (.Name "level" p2) p3, .Subscript (.Name "other" p4) (.Name "level" p5) p6] [] p7) (lamSc apNames) [("other", cb), ("one", ca)])
    (ha : h.IsCell ca (some (.ref a)) ∧ H.objs.size ≤ ca) (hb : h.IsCell cb (some (.ref b)) ∧ H.objs.size ≤ cb) (hne : cb ≠ ca)
    (la : SL H K h a xs) (lb : SL H K' h b ys) (hx : xs.length = 5) (hy : ys.length = 5) (hxs : ∀ x ∈ xs, x.length ≤ 100) (hys : ∀ x ∈ ys, x.length ≤ 100)
    (hvs : IntL vs [0, 1, 2, 3, 4]) : KeyOk prog w H (n + 4) .Lt false h f vs (.int c t) (apP xs ys c) := by
  intro i v h' A' hv X G' hA
  have hi : i < 5 := by
    rcases Nat.lt_or_ge i vs.size with q | q
    · have := hvs.1; simp at this; omega
    · rw [Array.getElem?_eq_none q] at hv; cases hv
  obtain ⟨tv, ev⟩ : ∃ tv, v = .int (i : Nat) tv := by
    obtain ⟨tv, e⟩ := hvs.get (i := i) (by simpa using hi)
    rw [e] at hv; cases hv
    refine ⟨tv, ?_⟩
    match i, hi with
    | 0, _ => rfl
    | 1, _ => rfl
    | 2, _ => rfl
    | 3, _ => rfl
    | 4, _ => rfl
  subst ev
  have cel : ∀ {k : Addr} {z : Option Value}, h.IsCell k z ∧ H.objs.size ≤ k → h'.IsCell k z ∧ H.objs.size ≤ k := fun {k z} x =>
    ⟨by obtain ⟨o, e, hd⟩ := x.1; exact ⟨o, X.keep _ o (fun q => q) x.2 (Solid.of fun vs q => by rw [hd] at q; cases q) e, hd⟩, x.2⟩
  refine Do.mono (R := fun r _ => ∃ t', r = .int (subCost (xs.getD i "") (ys.getD i "")) t') ?_ fun r h'' _ ⟨t', e⟩ => ?_
  · refine lam_call (n := n + 3) (binds := [("level", .int (i : Nat) tv)]) (cm := fun z => if z = "one" then some (.ref a) else if z = "other" then some (.ref b) else none) S hA G' (L.nil X.toCalm) (fun _ _ _ => rfl) rfl (locs rfl)
      (fun k c' hm => ?_) (by simp [hne]) (fun k c1 c2 h1 h2 => ?_) (fun cv h1 F X1 G1 => ?_)
    · simp only [List.mem_cons, List.not_mem_nil, or_false, Prod.mk.injEq] at hm
      rcases hm with ⟨rfl, rfl⟩ | ⟨rfl, rfl⟩
      · exact cel hb
      · exact cel ha
    · simp only [List.mem_cons, List.not_mem_nil, or_false, Prod.mk.injEq] at h1 h2
      rcases h1 with ⟨rfl, rfl⟩ | ⟨rfl, rfl⟩ <;> rcases h2 with ⟨h2, rfl⟩ | ⟨h2, rfl⟩ <;> first | rfl | (exact absurd h2 (by decide))
    · intro s Q E hs hQ
      subst hs
      obtain ⟨_, va, lla, sa⟩ := (la.nil X.toCalm).nil X1.toCalm
      obtain ⟨_, vb, llb, sb⟩ := (lb.nil X.toCalm).nil X1.toCalm
      obtain ⟨ta, ea⟩ := sa.get (i := i) (by omega)
      obtain ⟨tb, eb⟩ := sb.get (i := i) (by omega)
      have hf := S.fSub
      obtain ⟨pm, ef⟩ := hf
      refine gcall2 G1 S rfl rfl rfl S.gSub ef rfl (by decide) (by decide) ?_
      refine wpAny_Subscript_Name_late (nm_free F rfl rfl rfl rfl (nm_local F rfl rfl rfl (sOn lla.isList (by omega) ea (by have := sa.1; omega) ?_)))
      refine wpAny_Subscript_Name_late (nm_free F rfl rfl rfl rfl (nm_local F rfl rfl rfl (sOn llb.isList (by omega) eb (by have := sb.1; omega) ⟨G1, ?_⟩)))
      have g1 : (xs.getD i "").length ≤ 100 := by
        have : xs.getD i "" = xs[i] := by simp [List.getD, hx, hi]
        rw [this]; exact hxs _ (List.getElem_mem _)
      have g2 : (ys.getD i "").length ≤ 100 := by
        have : ys.getD i "" = ys[i] := by simp [List.getD, hy, hi]
        rw [this]; exact hys _ (List.getElem_mem _)
      refine sub_call (n := n + 1) S (Ok.deeper (n := n + 3) hA) G1 g1 g2 _ _ _ rfl fun v h3 tk3 X3 hv => ?_
      exact hQ _ _ _ X3.to hv
  · subst e
    intro h3 A3 X3 hA3 s Q E hs hQ
    subst hs
    simp only [Bool.false_eq_true, if_false]
    exact wpAny_lt_int (hQ _ _ _ .refl rfl)
end
end Mine

namespace Mine
open PySem PySem.W PySem.Spec PySem.Calls PyProof.Rows

section
variable {prog : Program} {w : World} {A : Around} {E : Value → Shared → Prop} {s : Shared} {H h h1 h2 : Heap} {mg mb : Str → Option Value} {env : Env} {S : Addr → Prop} {K K' a : Addr}

theorem LamAt.fn {f : Addr} {q : Str} {params : Arguments} {body : Expr} {scope : Scope} {clos : List (Str × Addr)} (L : LamAt H h f q params body scope clos) : FnObj H h f :=
  ⟨L.lo, let ⟨pm, c, ctv, e, _⟩ := L.ex; ⟨_, _, e, rfl⟩⟩

theorem apart_call {a b : Addr} {xs ys : List Str} {n : Nat} (S : Stat H mg mb) (hA : Ok A (n + 8)) (G : Good H h)
    (la : SL H K h a xs) (lb : SL H K' h b ys) (hx : xs.length = 5) (hy : ys.length = 5) (hxs : ∀ x ∈ xs, x.length ≤ 100) (hys : ∀ x ∈ ys, x.length ≤ 100) :
    Do prog w H A (call (.ref 105) [.ref a, .ref b]) h Nil (fun v _ => ∃ t', v = .int (apartF xs ys) t') := by
  obtain ⟨pm, e⟩ := G.fn S.fApart (by decide) (by decide)
  obtain ⟨pmL, eL⟩ := S.fLeft
  refine call_defC (n := n + 7) (binds := [("one", .ref a), ("other", .ref b)]) hA G (G.nolimit S) e rfl rfl (G.codeRec (S.codes (104, "_law_apart") (by decide)) (by decide) (by decide)) rfl rfl (fun k x hx => ?_) (of_decide_eq_true rfl) (fun h1 F X1 G1 => ?_)
  · simp only [List.mem_cons, List.not_mem_nil, or_false] at hx
    rcases hx with rfl | rfl <;> exact .inr ⟨rfl, rfl⟩
  have hA1 : Ok (A.deeper (callEnvC (fdOf (topStmt 16) .none .none pm (.ref 104)) h.objs.size 105)) (n + 7) := hA.deeper
  generalize hB : A.deeper (callEnvC (fdOf (topStmt 16) .none .none pm (.ref 104)) h.objs.size 105) = B at hA1 ⊢
  clear hB
  intro s Q E hs hQ
  subst hs
  have hLh : h.objs.size ≤ (callEnvC (fdOf (topStmt 16) .none .none pm (.ref 104)) h.objs.size 105).locals := Nat.le_refl _
  generalize hEnv : callEnvC (fdOf (topStmt 16) .none .none pm (.ref 104)) h.objs.size 105 = env at *
  have k1 : env.scope.kind = .function := by rw [← hEnv]; rfl
  have kc1 : env.kindOf "one" = some .cell := by rw [← hEnv]; rfl
  have kc2 : env.kindOf "other" = some .cell := by rw [← hEnv]; rfl
  have kl1 : env.kindOf "levels" = some .local := by rw [← hEnv]; rfl
  have kl2 : env.kindOf "parted" = some .local := by rw [← hEnv]; rfl
  have kl3 : env.kindOf "strange" = some .local := by rw [← hEnv]; rfl
  have kg1 : env.kindOf "bisect_left" = some .globalImplicit := by rw [← hEnv]; rfl
  have kg : env.globals = mainGlobals := by rw [← hEnv]; rfl
  have kb : env.builtins = builtinsNs := by rw [← hEnv]; rfl
  have kcode : env.code = .ref 104 := by rw [← hEnv]; rfl
  have kq : env.qual ++ "<lambda>" = qApart := by
    rw [← hEnv]
    show (Str.ofString "_law_apart" ++ Str.ofString ".<locals>.") ++ Str.ofString "<lambda>" = qApart
    decide +kernel
  have ec1 : env.cells.lookup ("one" : Str) = some (h.objs.size + 1) := by rw [← hEnv]; rfl
  have ec2 : env.cells.lookup ("other" : Str) = some (h.objs.size + 2) := by rw [← hEnv]; rfl
  have hcl : closureFor (lamSc apNames) env = pure [(("other" : Str), (h.objs.size + 2 : Addr)), ("one", h.objs.size + 1)] := by rw [← hEnv]; rfl
  have hm1 : bindC env.kindOf [("one", .ref a), ("other", .ref b)] (fun _ => none) "one" = some (.ref a) := by simp only [bindC, kc1, kc2]; rfl
  have hm2 : bindC env.kindOf [("one", .ref a), ("other", .ref b)] (fun _ => none) "other" = some (.ref b) := by simp only [bindC, kc1, kc2]; rfl
  clear hEnv
  have own : ∀ b, At env.locals b → Nil b ∨ h.objs.size ≤ b := fun b q => .inr (by have q' : b = env.locals := q; rw [q']; exact hLh)
  have cells : ∀ {h' : Heap} {m}, Frm H env m (bindC env.kindOf [("one", .ref a), ("other", .ref b)] (fun _ => none)) h' → (h'.IsCell (h.objs.size + 1) (some (.ref a)) ∧ H.objs.size ≤ h.objs.size + 1) ∧ (h'.IsCell (h.objs.size + 2) (some (.ref b)) ∧ H.objs.size ≤ h.objs.size + 2) := fun {h' m} F =>
    ⟨⟨hm1 ▸ (F.cell _ _ (mem_of_lookup ec1)).1, by have := G.size; omega⟩, ⟨hm2 ▸ (F.cell _ _ (mem_of_lookup ec2)).1, by have := G.size; omega⟩⟩
  -- levels
  refine wpAny_execs_cons (wpAny_Assign_Name (l_list (H := H) (spliced_cons (l_int fun t0 _ => spliced_cons (l_int fun t1 _ => spliced_cons (l_int fun t2 _ => spliced_cons (l_int fun t3 _ => spliced_cons (l_int fun t4 _ => spliced_nil ⟨by simp, G1.size, fun l h2 tk2 lv X2 hl => ?_⟩))))))))
  have iv : IntL #[Value.int 0 t0, .int 1 t1, .int 2 t2, .int 3 t3, .int 4 t4] [0, 1, 2, 3, 4] := .ofCons (.ofCons (.ofCons (.ofCons (.ofCons .nil))))
  refine st_local (F.nil X2.toCalm) k1 kl1 fun h3 tk3 F3 X3 => ?_
  have lv3 := lv.loc (F.nil X2.toCalm) X3.toCalm
  have X03 : Ext H (At env.locals) s.heap h3 := X2.to.trans X3
  have G3 := X03.good G1
  have L03 : Ext H Nil h h3 := X1.trans' X03 fun b q => by have q' : b = env.locals := q; rw [q']; exact hLh
  -- parted
  refine wpAny_execs_cons (wpAny_Assign_Name (gcallK G3 S k1 kg1 kg S.gLeft eL rfl (by decide) (by decide) (spliced_cons (nm_local F3 k1 kl1 upd_self (spliced_cons (l_int fun u1 _ => spliced_nil
    (mk_lam S G3 rfl hcl kg kcode kq (.inl ⟨rfl, rfl, rfl⟩) fun f h4 tk4 Lf X4 hf => ?_)))))))
  refine ⟨X4.good G3, ?_⟩
  have F4 := F3.nil X4.toCalm
  have G4 := X4.good G3
  have L04 : Ext H Nil h h4 := L03.trans X4
  have lv4 := lv3.nil X4.toCalm
  obtain ⟨td1, hb1⟩ := left_bind1 (k := f) (l := l) (x := .int 1 u1) S G4
  refine left_call (n := n + 4) (lo0 := 0) (p := apP xs ys 1) S hA1 G4 hb1 lv4 Lf.fn (by simp) (Nat.zero_le _) (apart_key S G4 Lf (cells F4).1 (cells F4).2 (Nat.succ_ne_self _) (la.nil L04.toCalm) (lb.nil L04.toCalm) hx hy hxs hys iv) _ _ _ rfl fun v h5 tk5 X5 hv => ?_
  obtain ⟨tv, rfl⟩ := hv
  have F5 := F4.nil X5.toCalm
  refine st_local F5 k1 kl2 fun h6 tk6 F6 X6 => ?_
  have lv6 := (lv4.nil X5.toCalm).loc F5 X6.toCalm
  have X06 : Ext H (At env.locals) s.heap h6 := X03.trans (X4.to.trans (X5.to.trans X6))
  have G6 := X06.good G1
  -- strange
  refine wpAny_execs_cons (wpAny_Assign_Name (gcallK G6 S k1 kg1 kg S.gLeft eL rfl (by decide) (by decide) (spliced_cons (nm_local F6 k1 kl1 ((upd_ne (by decide)).trans upd_self) (spliced_cons (l_int fun u2 _ => spliced_nil
    (mk_lam S G6 rfl hcl kg kcode kq (.inl ⟨rfl, rfl, rfl⟩) fun f2 h7 tk7 Lf2 X7 hf2 => ?_)))))))
  refine ⟨X7.good G6, ?_⟩
  have F7 := F6.nil X7.toCalm
  have G7 := X7.good G6
  have L07 : Ext H Nil h h7 := X1.trans' (X06.trans X7.to) fun b q => by have q' : b = env.locals := q; rw [q']; exact hLh
  have lv7 := lv6.nil X7.toCalm
  obtain ⟨td2, hb2⟩ := left_bind1 (k := f2) (l := l) (x := .int 2 u2) S G7
  refine left_call (n := n + 4) (lo0 := 0) (p := apP xs ys 2) S hA1 G7 hb2 lv7 Lf2.fn (by simp) (Nat.zero_le _) (apart_key S G7 Lf2 (cells F7).1 (cells F7).2 (Nat.succ_ne_self _) (la.nil L07.toCalm) (lb.nil L07.toCalm) hx hy hxs hys iv) _ _ _ rfl fun v h8 tk8 X8 hv => ?_
  obtain ⟨tv2, rfl⟩ := hv
  have F8 := F7.nil X8.toCalm
  refine st_local F8 k1 kl3 fun h9 tk9 F9 X9 => ?_
  have X09 : Ext H (At env.locals) s.heap h9 := X06.trans (X7.to.trans (X8.to.trans X9))
  refine wpAny_execs_cons (wpAny_Return_some (wpAny_BinOp (wpAny_BinOp (l_int fun _ _ => nm_local F9 k1 kl2 ((upd_ne (by decide)).trans upd_self) (l_sub fun _ _ => nm_local F9 k1 kl3 upd_self (l_sub fun tr _ => ?_))))))
  exact hQ _ _ _ (X09.mono own) ⟨tr, rfl⟩
end
end Mine

namespace Mine
open PySem PySem.W PySem.Spec PySem.Calls PyProof.Rows

section
variable {prog : Program} {w : World} {A : Around} {E : Value → Shared → Prop} {s : Shared} {H h h1 h2 : Heap} {mg mb : Str → Option Value} {env : Env}

theorem right_body {k l : Addr} {vs : Array Value} {x : Value} {p : Nat → Bool} {n lo0 : Nat} {t0 : Tok} {L : Addr} (S : Stat H mg mb) (hA : Ok A (n + 2)) (G : Good H h1) (hx : Ext H Nil h h1)
    {fd : FuncData} (hfd : ∃ pm, fd = fdOf (topStmt 6) (.ref 39) (.ref 40) pm (.ref 46))
    (F : Frm H (callEnv fd L 47) (fun z => ([(("a" : Str), Value.ref l), ("x", x), ("lo", .int (lo0 : Nat) t0), ("hi", .none), ("key", .ref k)]).reverse.lookup z) (fun _ => none) h1)
    (hL : h.objs.size ≤ L) (ll : Lst H h l vs) (hk : FnObj H h k) (hsz : vs.size ≤ 1000) (hlo : lo0 ≤ vs.size) (hkey : KeyOk prog w H n .Lt true h k vs x p) :
    Do prog w H A (execs (bodyOf (topStmt 6)) (callEnv fd L 47)) h1 (fun b => Nil b ∨ h.objs.size ≤ b) (fun fl h' => ∃ t', retv fl = .int (bs (fun i => !p i) (vs.size - lo0) lo0 vs.size : Nat) t') := by
  obtain ⟨pm, rfl⟩ := hfd
  intro s Q E hs hQ
  subst hs
  refine wpAny_execs_cons (wpAny_If (wpAny_isTrue_Compare1 (nm_local F rfl rfl rfl (l_int fun _ _ => wpAny_lt_int (wpAny_truthy_bool (ite_f (by simp) ?_))))))
  refine wpAny_execs_nil ?_
  have ll1 := ll.nil hx.toCalm
  have hk1 := hk.calm hx.toCalm fun q => q
  refine wpAny_execs_cons (wpAny_If (wpAny_isTrue_Compare1 (nm_local F rfl rfl rfl (wpAny_Constant_none (is_none (wpAny_truthy_bool (ite_t rfl ?_)))))))
  refine wpAny_execs_cons (wpAny_Assign_Name (bcall1 G S rfl rfl rfl rfl S.gLen rfl (by decide) (nm_local F rfl rfl rfl (l_len ll1.isList (by omega) fun th0 _ => ?_))))
  refine st_local F rfl rfl fun h2 tk2 F2 X2 => wpAny_execs_nil ?_
  have hLn : ∀ b, At L b → Nil b ∨ h.objs.size ≤ b := fun b q => .inr (by have q' : b = L := q; rw [q']; exact hL)
  have X12 : Ext H (fun b => Nil b ∨ h.objs.size ≤ b) s.heap h2 := X2.mono hLn
  have ll2 := ll1.loc F X2.toCalm
  have kL : k ≠ L := fun q => by
    obtain ⟨o, fd, e, hd⟩ := hk.2
    exact Nat.lt_irrefl _ (Nat.lt_of_lt_of_le (Heap.lt_size e) (q ▸ hL))
  have hk2 := hk1.calm X2.toCalm kL
  refine wpAny_execs_cons (wpAny_If (wpAny_isTrue_Compare1 (nm_local F2 rfl rfl rfl (wpAny_Constant_none (is_none (wpAny_truthy_bool (ite_f rfl ?_)))))))
  have G2 := X2.good G
  refine wpAny_execs_cons (while_rule (H := H) (S := At L)
    (fun f h' => ∃ m' lo hi tl th, Frm H (callEnv (fdOf (topStmt 6) (.ref 39) (.ref 40) pm (.ref 46)) L 47) m' (fun _ => none) h' ∧ Good H h' ∧ m' "a" = some (.ref l) ∧ m' "x" = some x ∧ m' "key" = some (.ref k) ∧
      m' "lo" = some (.int (lo : Nat) tl) ∧ m' "hi" = some (.int (hi : Nat) th) ∧ lo ≤ hi ∧ hi ≤ vs.size ∧ hi - lo ≤ f ∧ bs (fun i => !p i) f lo hi = bs (fun i => !p i) (vs.size - lo0) lo0 vs.size)
    (fun _ _ => False)
    (fun h' => ∃ m' tl, Frm H (callEnv (fdOf (topStmt 6) (.ref 39) (.ref 40) pm (.ref 46)) L 47) m' (fun _ => none) h' ∧ m' "lo" = some (.int (bs (fun i => !p i) (vs.size - lo0) lo0 vs.size : Nat) tl))
    (vs.size - lo0) ⟨_, lo0, vs.size, t0, _, F2, G2, rfl, rfl, rfl, rfl, rfl, hlo, Nat.le_refl _, Nat.le_refl _, rfl⟩ ?_ ?_ (fun v h' tk' X r => r.elim))
  · rintro f s₁ Q' E' ⟨m', lo, hi, tl, th, F', G', ea, ex, ek, el, eh, hlh, hh, hf, hb⟩ X' hout hin
    refine wpAny_isTrue_Compare1 (nm_local F' rfl rfl el (nm_local F' rfl rfl eh (wpAny_lt_int (wpAny_truthy_bool ?_))))
    by_cases hlt : lo < hi
    · have e1 : decide (((lo : Nat) : Int) < ((hi : Nat) : Int)) = true := by simp [hlt]
      rw [e1]
      refine hin _ ⟨_, _, rfl, .refl⟩ fun Qb hQb => ?_
      refine wpAny_execs_cons (wpAny_Assign_Name (wpAny_BinOp (wpAny_BinOp (nm_local F' rfl rfl el (nm_local F' rfl rfl eh (l_add fun _ _ => l_int fun _ _ => l_div (by decide) (by decide) fun tm _ => ?_))))))
      have em : Int.fdiv (((lo : Nat) : Int) + ((hi : Nat) : Int)) 2 = (((lo + hi) / 2 : Nat) : Int) := by
        rw [Int.fdiv_eq_ediv_of_nonneg _ (by decide)]; omega
      rw [em]
      refine st_local F' rfl rfl fun h3 tk3 F3 X3 => ?_
      have G3 := X3.good G'
      have hmid : (lo + hi) / 2 < vs.size := by omega
      have X03 : Ext H Nil h h3 := hx.trans' (X2.trans (X'.trans X3)) fun b q => by have q' : b = L := q; rw [q']; exact hL
      have ll3 := ll.nil X03.toCalm
      have hk3 := hk.calm X03.toCalm fun q => q
      obtain ⟨ho3, fd3, ek3, hfd3⟩ := hk3.2
      have hv : vs[(lo + hi) / 2]? = some vs[(lo + hi) / 2] := by simp [hmid]
      refine wpAny_execs_cons (wpAny_If (wpAny_isTrue_Compare1 (nm_local F3 rfl rfl ((upd_ne (by decide)).trans ex) (wpAny_Call_ofName (nm_local F3 rfl rfl ((upd_ne (by decide)).trans ek) (callWith_function (evalArgs_plain (spliced_cons
        (wpAny_Subscript_Name (T := "list") list_getitem_lookup (nm_local F3 rfl rfl ((upd_ne (by decide)).trans ea) (nm_local F3 rfl rfl upd_self ⟨ll3.isList.typeIs,
          wpAny_getItem_list ll3.isList (by omega) (by omega) hv (spliced_nil ⟨⟨ek3, hfd3⟩, ?_⟩)⟩)))))))))))
      refine hkey _ _ h3 A hv X03 G3 (hA.mono (by omega)) _ _ _ rfl fun r h4 tk4 X4 hr => ?_
      have F4 := F3.nil X4.toCalm
      refine hr h4 A .refl (hA.mono (by omega)) _ _ _ rfl fun c h5 tk5 X5 hc => ?_
      subst hc
      have F5 := F4.nil X5.toCalm
      have G5 := X5.good (X4.good G3)
      have X35 : Ext H (At L) s₁.heap h5 := X3.trans (X4.trans X5).to
      refine wpAny_truthy_bool ?_
      cases hp : p ((lo + hi) / 2) with
      | true =>
        refine ite_t rfl (wpAny_execs_cons (wpAny_Assign_Name (nm_local F5 rfl rfl upd_self (st_local F5 rfl rfl fun h6 tk6 F6 X6 => wpAny_execs_nil (wpAny_execs_nil (hQb _ _ _ (X35.trans X6) ?_))))))
        refine ⟨(lo + hi) / 2 - lo, by omega, _, lo, (lo + hi) / 2, tl, tm, F6, X6.good G5, ?_, ?_, ?_, ?_, ?_, by omega, by omega, by omega, ?_⟩
        · exact (upd_ne (by decide)).trans ((upd_ne (by decide)).trans ea)
        · exact (upd_ne (by decide)).trans ((upd_ne (by decide)).trans ex)
        · exact (upd_ne (by decide)).trans ((upd_ne (by decide)).trans ek)
        · exact (upd_ne (by decide)).trans ((upd_ne (by decide)).trans el)
        · exact upd_self
        · rw [← hb]
          exact (bs_down (fun i => !p i) hlt hf (by simp [hp])).symm
      | false =>
        refine ite_f rfl (wpAny_execs_cons (wpAny_Assign_Name (wpAny_BinOp (nm_local F5 rfl rfl upd_self (l_int fun _ _ => l_add fun t6 _ => st_local F5 rfl rfl fun h6 tk6 F6 X6 => wpAny_execs_nil (wpAny_execs_nil (hQb _ _ _ (X35.trans X6) ?_)))))))
        refine ⟨hi - ((lo + hi) / 2 + 1), by omega, _, (lo + hi) / 2 + 1, hi, t6, th, F6, X6.good G5, ?_, ?_, ?_, ?_, ?_, by omega, by omega, by omega, ?_⟩
        · exact (upd_ne (by decide)).trans ((upd_ne (by decide)).trans ea)
        · exact (upd_ne (by decide)).trans ((upd_ne (by decide)).trans ex)
        · exact (upd_ne (by decide)).trans ((upd_ne (by decide)).trans ek)
        · rw [upd_self]; congr 2
        · exact (upd_ne (by decide)).trans ((upd_ne (by decide)).trans eh)
        · rw [← hb]
          exact (bs_up (fun i => !p i) hlt hf (by simp [hp])).symm
    · have e1 : decide (((lo : Nat) : Int) < ((hi : Nat) : Int)) = false := by simp [hlt]
      rw [e1]
      refine hout _ _ .refl ⟨m', tl, F', ?_⟩
      rw [el, ← hb, bs_end _ f lo hi hlt]
  · rintro h3 tk3 X3 ⟨m', tl, F3, el⟩
    refine wpAny_execs_nil ?_
    refine wpAny_execs_cons (wpAny_Return_some (nm_local F3 rfl rfl el ?_))
    exact hQ _ _ _ (X12.trans (X3.mono hLn)) ⟨_, rfl⟩
theorem right_call {args : List Value} {kw : List (Str × Value)} {k l : Addr} {vs : Array Value} {x : Value} {p : Nat → Bool} {n lo0 : Nat} {t0 : Tok} (S : Stat H mg mb) (hA : Ok A (n + 3)) (G : Good H h)
    (hbind : ∀ pm (s : Shared), s.heap = h → BindsTo s (fdOf (topStmt 6) (.ref 39) (.ref 40) pm (.ref 46)) ⟨args, kw⟩ [(("a" : Str), Value.ref l), ("x", x), ("lo", .int (lo0 : Nat) t0), ("hi", .none), ("key", .ref k)])
    (ll : Lst H h l vs) (hk : FnObj H h k) (hsz : vs.size ≤ 1000) (hlo : lo0 ≤ vs.size) (hkey : KeyOk prog w H n .Lt true h k vs x p) :
    Do prog w H A (call (.ref 47) args kw) h Nil (fun v _ => ∃ t', v = .int (bs (fun i => !p i) (vs.size - lo0) lo0 vs.size : Nat) t') := by
  obtain ⟨pm, e⟩ := G.fn S.fRight (by decide) (by decide)
  refine call_def (n := n + 2) hA G (G.nolimit S) e rfl rfl (G.codeRec (S.codes (46, "bisect_right") (by decide)) (by decide) (by decide)) (fun s hs => hbind pm s hs) rfl (locs rfl) rfl (fun h1 F X1 G1 => ?_)
  exact right_body S hA.deeper G1 X1 ⟨pm, rfl⟩ F (Nat.le_refl _) ll hk hsz hlo hkey

theorem right_bind {k l : Addr} {x : Value} {lo : Nat} {t0 : Tok} (S : Stat H mg mb) (G : Good H h) : ∀ pm (s : Shared), s.heap = h →
    BindsTo s (fdOf (topStmt 6) (.ref 39) (.ref 40) pm (.ref 46)) ⟨[.ref l, x, .int (lo : Nat) t0], [("key", .ref k)]⟩ [(("a" : Str), Value.ref l), ("x", x), ("lo", .int (lo : Nat) t0), ("hi", .none), ("key", .ref k)] := by
  obtain ⟨t, e⟩ := S.dRight
  exact fun pm s hs => BindsTo.of_defaults rfl (hs ▸ G.old _ _ (by decide) (by decide) e) rfl rfl rfl
end
end Mine

namespace Mine
open PySem PySem.W PySem.Spec PySem.Calls PyProof.Rows
open AutoSeq1 (wpAny_loadPart')
open MeetsSeq MeetsSeq2 MeetsSeq3 SeqAt

def strLt (x y : Str) : Bool := decide (x.cps.toList < y.cps.toList)
def strsLt : List Str → List Str → Bool
  | x :: xs, y :: ys => if x == y then strsLt xs ys else strLt x y
  | [], _ :: _ => true
  | _, [] => false

theorem StrL.at {vs : Array Value} {xs : List Str} (x : StrL vs xs) {i : Nat} (h : i < vs.size) : ∃ t, vs[i] = Value.str (xs[i]'(by rw [← x.1]; exact h)) t := by
  have h' : i < xs.length := by rw [← x.1]; exact h
  obtain ⟨t, e⟩ := x.2 i xs[i] (by simp [h'])
  rw [Array.getElem?_eq_getElem h] at e
  exact ⟨t, Option.some.inj e⟩

theorem lt_loop (l b : Addr) (items items2 : Array Value) (n n2 : Nat) (dd dd2 : Option Addr) (sl sl2 : Array (Option Value)) (xs ys : List Str) (h1 : StrL items xs) (h2 : StrL items2 ys) (hl : xs.length = ys.length) (k : Nat) :
    ∀ i : Nat, items.size - i = k → Meets (Builtin.«list.__eq__.loop» ⟨[.ref l, .ref b, rawInt i, rawInt 0], []⟩)
      (fun A R s => s.heap.get? l = some { cls := .type "list", dict := dd, data := .seq items n, slots := sl } ∧ s.heap.get? b = some { cls := .type "list", dict := dd2, data := .seq items2 n2, slots := sl2 } ∧
        R (.ok (.ret (.bool (strsLt (xs.drop i) (ys.drop i))))) s) := by
  have hsz : items.size = items2.size := by rw [h1.1, h2.1, hl]
  induction k with
  | zero =>
    intro i hk prog w A R s h
    obtain ⟨hp, g, d, tk, os⟩ := s; obtain ⟨hl1, hb, h⟩ := h
    wp_walk using wpAny_loadPart' hl1, wpAny_loadPart' hb
    have hi1 : items[((i : Nat) : Int).toNat]? = none := by simp; omega
    have hi2 : items2[((i : Nat) : Int).toNat]? = none := by simp; omega
    have e1 := h1.1
    have e2 := h2.1
    rw [show xs.drop i = [] by simp; omega, show ys.drop i = [] by simp; omega] at h
    rw [hi1, hi2]
    wp_walk using wpAny_loadPart' hl1, wpAny_loadPart' hb
    show R (.ok (.ret (.bool (decide (items.size < items2.size))))) _
    rw [hsz]
    simpa [strsLt] using h
  | succ k ih =>
    intro i hk prog w A R s h
    obtain ⟨hp, g, d, tk, os⟩ := s; obtain ⟨hl1, hb, h⟩ := h
    wp_walk using wpAny_loadPart' hl1, wpAny_loadPart' hb
    have hlt : i < items.size := by omega
    have hlt2 : i < items2.size := by omega
    have hx : i < xs.length := by rw [← h1.1]; exact hlt
    have hy : i < ys.length := by rw [← h2.1]; exact hlt2
    have hi1 : items[((i : Nat) : Int).toNat]? = some items[i] := by simp [hlt]
    have hi2 : items2[((i : Nat) : Int).toNat]? = some items2[i] := by simp [hlt2]
    have hc : ((i : Int) + 1) = ((i + 1 : Nat) : Int) := by push_cast; rfl
    rw [List.drop_eq_getElem_cons hx, List.drop_eq_getElem_cons hy] at h
    obtain ⟨t1, q1⟩ := h1.at hlt
    obtain ⟨t2, q2⟩ := h2.at hlt2
    rw [hi1, hi2]
    rw [q1, q2]
    refine wpAny_bind (EqAt.str_str _ _ _ _ prog w _ _ ?_)
    unfold strsLt at h
    cases hb' : (xs[i] == ys[i]) with
    | true =>
      rw [hb', if_pos rfl] at h
      wp_walk
      rw [hc]
      exact ⟨plainId_quiet plain_eq_loop _, codeAny_builtin entry_eq_loop (by
        rw [Around.under_plainId plain_eq_loop _]
        exact ih (i + 1) (by omega) prog w A R _ ⟨hl1, hb, h⟩)⟩
    | false =>
      rw [hb'] at h
      simp only [Bool.false_eq_true, if_false] at h
      wp_walk using wpAny_loadPart' hl1, wpAny_loadPart' hb
      rw [hi1, hi2]
      rw [q1, q2]
      refine wpAny_bind ?_
      refine P.lt_str ?_
      exact wpAny_pure h

theorem list_lt (l b : Addr) (items items2 : Array Value) (n n2 : Nat) (dd dd2 : Option Addr) (sl sl2 : Array (Option Value)) (xs ys : List Str) (h1 : StrL items xs) (h2 : StrL items2 ys) (hl : xs.length = ys.length) :
    Meets (Builtin.«list.__lt__» ⟨[.ref l, .ref b], []⟩)
      (fun A R s => s.heap.get? l = some { cls := .type "list", dict := dd, data := .seq items n, slots := sl } ∧ s.heap.get? b = some { cls := .type "list", dict := dd2, data := .seq items2 n2, slots := sl2 } ∧
        R (.ok (.ret (.bool (strsLt xs ys)))) s) := by
  intro prog w A R s h
  obtain ⟨hp, g, d, tk, os⟩ := s; obtain ⟨hl1, hb, h⟩ := h
  have f3 := AutoSeq1.sub_list_list
  wp_walk using wpAny_loadPart' hl1, wpAny_loadPart' hb
  exact ⟨plainId_quiet plain_eq_loop _, codeAny_builtin entry_eq_loop (by
    rw [Around.under_plainId plain_eq_loop _]
    exact lt_loop l b items items2 n n2 dd dd2 sl sl2 xs ys h1 h2 hl _ 0 rfl prog w A R _ ⟨hl1, hb, by simpa using h⟩)⟩

section
variable {prog : Program} {w : World} {A : Around} {E : Value → Shared → Prop} {s : Shared} {H h h1 h2 : Heap} {mg mb : Str → Option Value} {env : Env}
theorem lt_strs {l b : Addr} {items items2 : Array Value} {xs ys : List Str} {Q : Value → Shared → Prop} (hl : s.heap.IsList l items) (hb : s.heap.IsList b items2) (h1 : StrL items xs) (h2 : StrL items2 ys) (hlen : xs.length = ys.length) (hu : A.units < cLine)
    (h : Q (.bool (strsLt xs ys)) s) : wpAny (model prog w) A (compareOp .Lt (.ref l) (.ref b)) Q E s := by
  obtain ⟨⟨cls, dd, data, sl⟩, ho, hc, n, hd⟩ := id hl
  obtain ⟨⟨cls2, dd2, data2, sl2⟩, ho2, hc2, n2, hd2⟩ := id hb
  simp only at hc hd hc2 hd2
  subst hc hd hc2 hd2
  show wpAny _ _ (richCompare .Lt (.ref l) (.ref b)) Q E s
  exact richCompare_meets_room (op := .Lt) ⟨_, ho, rfl⟩ ⟨_, ho2, rfl⟩ F.slot_list_lt F.entry_list_lt (F.args_list_lt_2 _ _) (list_lt l b items items2 n n2 dd dd2 sl sl2 xs ys h1 h2 hlen)
    ⟨ho, ho2, show Value.bool (strsLt xs ys) ≠ Value.notImplemented ∧ Q (.bool (strsLt xs ys)) s from ⟨(fun x => nomatch x), h⟩⟩ hu
end
end Mine

namespace Mine
open PySem PySem.W PySem.Spec PySem.Calls PyProof.Rows

def insAt {α : Type} (xs : List α) (i : Nat) (y : α) : List α := xs.take i ++ y :: xs.drop i

section
variable {prog : Program} {w : World} {A : Around} {E : Value → Shared → Prop} {s : Shared} {H h h1 h2 : Heap} {mg mb : Str → Option Value} {env : Env}

theorem meth_list1 {o e₁ : Expr} {name : Str} {id : String} {apos pos : Pos} {Q : Value → Shared → Prop} (slot : Slot "list" name id) (ty : typeOf (.builtin id) = pure (.type "method_descriptor"))
    (h : wpAny (model prog w) A (eval o env) (fun ov s₁ => ∃ l vs, ov = .ref l ∧ Lst H s₁.heap l vs ∧ wpAny (model prog w) A (eval e₁ env) (fun v s₂ => wpAny (model prog w) A (call (.builtin id) [.ref l, v]) Q E s₂) E s₁) E s)
    (hbase : attributeBase o name env (eval o env) = eval o env := by rfl) (hline : (apos.endLine == pos.line) = true := by rfl) (htrees : backTo pos (starEach [e₁] env) = [(false, eval e₁ env)] := by rfl) :
    wpAny (model prog w) A (eval (.Call (.Attribute o name apos) [e₁] [] pos) env) Q E s :=
  wpAny_Call_method1_late hbase hline htrees (wpAny_mono h (fun ov s₁ ⟨l, vs, e, ll, hc⟩ => by
    subst e
    obtain ⟨n, e⟩ := ll.2
    refine ⟨"list", id, F.plainAttrs_list, slot, ty, ll.isList.typeIs, fun a q => ?_, callWith_builtin rfl (evalArgs_plain (spliced_cons (wpAny_mono hc (fun v s₂ h₂ => spliced_nil h₂) fun _ _ e => e)))⟩
    cases q; exact ⟨_, e, rfl⟩) fun _ _ e => e)
theorem meth_list2 {o e₁ e₂ : Expr} {name : Str} {id : String} {apos pos : Pos} {Q : Value → Shared → Prop} (slot : Slot "list" name id) (ty : typeOf (.builtin id) = pure (.type "method_descriptor"))
    (h : wpAny (model prog w) A (eval o env) (fun ov s₁ => ∃ l vs, ov = .ref l ∧ Lst H s₁.heap l vs ∧ wpAny (model prog w) A (eval e₁ env) (fun v s₂ => wpAny (model prog w) A (eval e₂ env) (fun v' s₃ => wpAny (model prog w) A (call (.builtin id) [.ref l, v, v']) Q E s₃) E s₂) E s₁) E s)
    (hbase : attributeBase o name env (eval o env) = eval o env := by rfl) (hline : (apos.endLine == pos.line) = true := by rfl) (htrees : backTo pos (starEach [e₁, e₂] env) = [(false, eval e₁ env), (false, eval e₂ env)] := by rfl) :
    wpAny (model prog w) A (eval (.Call (.Attribute o name apos) [e₁, e₂] [] pos) env) Q E s :=
  wpAny_Call_method2_late hbase hline htrees (wpAny_mono h (fun ov s₁ ⟨l, vs, e, ll, hc⟩ => by
    subst e
    obtain ⟨n, e⟩ := ll.2
    refine ⟨"list", id, F.plainAttrs_list, slot, ty, ll.isList.typeIs, fun a q => ?_, callWith_builtin rfl (evalArgs_plain (spliced_cons (wpAny_mono hc (fun v s₂ h₂ => spliced_cons (wpAny_mono h₂ (fun v' s₃ h₃ => spliced_nil h₃) fun _ _ e => e)) fun _ _ e => e)))⟩
    cases q; exact ⟨_, e, rfl⟩) fun _ _ e => e)

theorem l_append {l : Addr} {vs : Array Value} {y : Value} {Q : Value → Shared → Prop} (ll : Lst H s.heap l vs) (hs : vs.size ≤ 1000)
    (h : ∀ h' tk, Lst H h' l (vs.push y) → Ext H (At l) s.heap h' → Q .none (put s h' tk)) : wpAny (model prog w) A (call (.builtin "list.append") [.ref l, y]) Q E s := by
  refine wpAny_list_append_plain ll.2 (fun h' l' s' => ?_) (Nat.le_trans hs (by decide))
  obtain ⟨n, e⟩ := ll.2
  exact h h' s.toks ⟨ll.1, l'⟩ (Ext.ofSame s' ll.1 e fun vs q => by cases q)

theorem l_insertI {l : Addr} {vs : Array Value} {y : Value} {i : Nat} {x : Int} {t : Tok} {Q : Value → Shared → Prop} (ll : Lst H s.heap l vs) (hs : vs.size ≤ 1000) (hx : x = (i : Nat)) (hi : i ≤ vs.size)
    (h : ∀ h' tk, Lst H h' l (insAt vs.toList i y).toArray → Ext H (At l) s.heap h' → Q .none (put s h' tk)) : wpAny (model prog w) A (call (.builtin "list.insert") [.ref l, .int x t, y]) Q E s := by
  obtain ⟨n, e⟩ := ll.2
  have q : Builtin.List.listFitsIndex x = true := fitsIndex_of (by omega) (by omega)
  have q2 : ¬ (!Builtin.List.listFitsIndex x) = true := by rw [q]; decide
  have q3 : vs.size ≤ sizeLine := Nat.le_trans hs (by decide)
  refine call_meets PySem.F.slot_list_insert ⟨_, e, rfl⟩ PySem.F.entry_list_insert (PySem.F.args_list_insert_3 _ _ _) (PySem.AutoSeq1.list_insert_list_int_val_1 l vs n x t y q2 q3) ⟨e, ?_⟩
  refine h _ _ ⟨ll.1, ?_⟩ (Ext.ofSame (Heap.SameBut.update ..) ll.1 e fun vs q => by cases q)
  have e1 : ¬ x < 0 := by omega
  have e2 : min x.toNat vs.size = i := by omega
  have eA : (fun xs : Array Value => have k := if x < 0 then (x + (xs.size : Int)).toNat else min x.toNat xs.size; (xs.extract 0 k).push y ++ xs.extract k) vs = (insAt vs.toList i y).toArray := by
    dsimp only
    rw [if_neg e1, e2]
    apply Array.ext'
    simp [insAt, List.take_of_length_le]
  have z := PySem.IsL.update e (fun xs : Array Value => have k := if x < 0 then (x + (xs.size : Int)).toNat else min x.toNat xs.size; (xs.extract 0 k).push y ++ xs.extract k)
  exact ⟨_, z.trans (by rw [show (have k := if x < 0 then (x + (vs.size : Int)).toNat else min x.toNat vs.size; (vs.extract 0 k).push y ++ vs.extract k) = (insAt vs.toList i y).toArray from eA])⟩
theorem l_insert {l : Addr} {vs : Array Value} {y : Value} {i : Nat} {t : Tok} {Q : Value → Shared → Prop} (ll : Lst H s.heap l vs) (hs : vs.size ≤ 1000) (hi : i ≤ vs.size)
    (h : ∀ h' tk, Lst H h' l (insAt vs.toList i y).toArray → Ext H (At l) s.heap h' → Q .none (put s h' tk)) : wpAny (model prog w) A (call (.builtin "list.insert") [.ref l, .int (i : Nat) t, y]) Q E s := l_insertI ll hs rfl hi h
end
end Mine

namespace Mine
open PySem PySem.W PySem.Spec PySem.Calls PyProof.Rows

section
variable {prog : Program} {w : World} {A : Around} {E : Value → Shared → Prop} {s : Shared} {H h h1 h2 : Heap} {mg mb : Str → Option Value} {env : Env}

theorem KeyOk.nil {n : Nat} {op : CmpOp} {swap : Bool} {k : Addr} {vs : Array Value} {x : Value} {p : Nat → Bool} (K : KeyOk prog w H n op swap h1 k vs x p) (X : Ext H Nil h1 h2) : KeyOk prog w H n op swap h2 k vs x p :=
  fun i v h' A' e X' G' hA => K i v h' A' e (X.trans X') G' hA

theorem insort_call {k l : Addr} {vs : Array Value} {x rv : Value} {p : Nat → Bool} {n : Nat} (S : Stat H mg mb) (hA : Ok A (n + 4)) (G : Good H h)
    (ll : Lst H h l vs) (hk : FnObj H h k) (hsz : vs.size ≤ 1000) (hkx : ∀ h' A', Ext H Nil h h' → Good H h' → Ok A' n → Do prog w H A' (call (.ref k) [x]) h' Nil fun r _ => r = rv)
    (hkey : KeyOk prog w H n .Lt false h k vs rv p) :
    Do prog w H A (call (.ref 56) [.ref l, x] [("key", .ref k)]) h (At l) (fun v h' => Lst H h' l (insAt vs.toList (bs p vs.size 0 vs.size) x).toArray) := by
  obtain ⟨pm, e⟩ := G.fn S.fInsort (by decide) (by decide)
  obtain ⟨td, ed⟩ := S.dInsort
  obtain ⟨pmL, eL⟩ := S.fLeft
  refine call_def (n := n + 3) (binds := [(("a" : Str), Value.ref l), ("x", x), ("lo", .int ((0 : Nat) : Int) td), ("hi", .none), ("key", .ref k)]) hA G (G.nolimit S) e rfl rfl (G.codeRec (S.codes (55, "insort_left") (by decide)) (by decide) (by decide)) (fun s hs => BindsTo.of_defaults rfl (hs ▸ G.old _ _ (by decide) (by decide) ed) rfl rfl rfl) rfl (locs rfl) rfl (fun h1 F X1 G1 => ?_)
  intro s Q E hs hQ
  subst hs
  have hA1 : Ok (A.deeper (callEnv (fdOf (topStmt 7) (.ref 48) (.ref 49) pm (.ref 55)) h.objs.size 56)) (n + 3) := hA.deeper
  generalize A.deeper (callEnv (fdOf (topStmt 7) (.ref 48) (.ref 49) pm (.ref 55)) h.objs.size 56) = B at hA1 ⊢
  have ll1 := ll.nil X1.toCalm
  have hk1 := hk.calm X1.toCalm fun q => q
  refine wpAny_execs_cons (wpAny_If (wpAny_isTrue_Compare1 (nm_local F rfl rfl rfl (wpAny_Constant_none (is_none (wpAny_truthy_bool (ite_f rfl ?_)))))))
  obtain ⟨ho1, fd1, ek1, hfd1⟩ := hk1.2
  refine wpAny_execs_cons (wpAny_Assign_Name (gcallK G1 S rfl rfl rfl S.gLeft eL rfl (by decide) (by decide) (spliced_cons (nm_local F rfl rfl rfl (spliced_cons
    (wpAny_Call_ofName (nm_local F rfl rfl rfl (callWith_function (evalArgs_plain (spliced_cons (nm_local F rfl rfl rfl (spliced_nil ⟨⟨ek1, hfd1⟩, ?_⟩))))))))))))
  refine hkx s.heap B X1 G1 (hA1.mono (by omega)) _ _ _ rfl fun r h2 tk2 X2 hr => ?_
  subst hr
  have F2 := F.nil X2.toCalm
  have G2 := X2.good G1
  refine spliced_cons (nm_local F2 rfl rfl rfl (spliced_cons (nm_local F2 rfl rfl rfl (spliced_nil (nm_local F2 rfl rfl rfl ⟨G2, ?_⟩)))))
  have ll2 := ll1.nil X2.toCalm
  have hk2 := hk1.calm X2.toCalm fun q => q
  refine left_call (n := n) (lo0 := 0) S hA1 G2 (left_bind2 S G2) ll2 hk2 hsz (Nat.zero_le _) (hkey.nil (X1.trans X2)) _ _ _ rfl fun v h3 tk3 X3 hv => ?_
  obtain ⟨tv, rfl⟩ := hv
  have F3 := F2.nil X3.toCalm
  have ll3 := ll2.nil X3.toCalm
  refine st_local F3 rfl rfl fun h4 tk4 F4 X4 => wpAny_execs_nil ?_
  have ll4 := ll3.loc F3 X4.toCalm
  refine wpAny_execs_cons (wpAny_Expr_any (meth_list2 PySem.F.slot_list_insert PySem.F.type_list_insert (nm_local F4 rfl rfl ((upd_ne (by decide)).trans rfl) ⟨l, vs, rfl, ll4, nm_local F4 rfl rfl upd_self (nm_local F4 rfl rfl ((upd_ne (by decide)).trans rfl)
    (l_insert ll4 hsz (bs_le _ _ _ _ (Nat.zero_le _)) fun h5 tk5 ll5 X5 => wpAny_execs_nil ?_))⟩)))
  have own : ∀ b, At (callEnv (fdOf (topStmt 7) (.ref 48) (.ref 49) pm (.ref 55)) h.objs.size 56).locals b → At l b ∨ h.objs.size ≤ b := fun b q => .inr (Nat.le_of_eq q.symm)
  refine hQ _ _ _ (X2.to.trans (X3.to.trans ((X4.mono own).trans (X5.mono fun b q => .inl q)))) ?_
  exact ll5
end
end Mine

namespace Mine
open PySem PySem.W PySem.Spec PySem.Calls PyProof.Rows PySem.Builtin PySem.Builtin.Re
open AutoSeq1 (wpAny_loadPart')

def failsIn : Nat → Sre.M → Bool
  | 0, _ => false
  | n + 1, m => let m := m.runFor reTurnSteps; match m.outcome with | some .failed => true | some _ => false | none => failsIn n m

def oRe (ps t0 : Value) : Obj := { cls := .type "re.Pattern", data := .fields #[ps, t0, .int 0 0, .none, .none, .ref 69, .int 0 0] }
def oCode : Obj := { cls := .type "tuple", data := .seq (#[14, 8, 1, 2, 4294967295, 1, 1, 46, 0, 16, 46, 24, 9, 1, 4294967295, 13, 4, 8, 0, 0, 1, 6, 5, 1].map fun i => Value.int i 0) }


section
variable {M : Model} {A : Around} {E : Value → Shared → Prop} {s : Shared}
theorem drive_fails {Q : Sre.M → Shared → Prop} (h : ∀ m', m'.outcome = some .failed → Q m' s) : ∀ (n k : Nat) (m : Sre.M), n ≤ k → failsIn n m = true → wpAny M A (reDrive k m) Q E s
  | 0, _, _, _, hf => by cases hf
  | n + 1, 0, _, hk, _ => by omega
  | n + 1, k + 1, m, hk, hf => by
    unfold failsIn at hf
    unfold reDrive
    generalize m.runFor reTurnSteps = m1 at hf ⊢
    dsimp only at hf ⊢
    cases ho : m1.outcome with
    | none =>
      rw [ho] at hf
      rw [if_neg (by simp)]
      exact wpAny_bind (wpAny_rule (drive_fails h n k m1 (by omega) hf))
    | some o =>
      rw [ho] at hf
      rw [if_pos (by rfl)]
      cases o <;> first | (cases hf; done) | exact wpAny_pure (h m1 ho)

theorem run_fails {Q : Option Sre.M → Shared → Prop} {n : Nat} {m : Sre.M} (hn : n ≤ 2 ^ 64) (hf : failsIn n m = true) (h : Q none s) : wpAny M A (reRunToEnd m) Q E s := by
  unfold reRunToEnd
  refine wpAny_bind (drive_fails (fun m' ho => ?_) n _ m hn hf)
  refine wpAny_bind ?_
  have loop : ∀ (l : List Nat) (Q' : PUnit → Shared → Prop), Q' ⟨⟩ s → wpAny M A (forIn l PUnit.unit fun i r => if m'.seen.has i = true then rule (Sre.names.getD i "") >>= fun _ => pure (ForInStep.yield PUnit.unit) else pure (ForInStep.yield PUnit.unit)) Q' E s := by
    intro l
    induction l with
    | nil => intro Q' hq; rw [List.forIn_nil]; exact wpAny_pure hq
    | cons a r ih =>
      intro Q' hq
      rw [List.forIn_cons]
      refine wpAny_bind ?_
      split
      · exact wpAny_bind (wpAny_rule (wpAny_pure (ih _ hq)))
      · exact wpAny_pure (ih _ hq)
  refine loop _ _ ?_
  rw [ho]
  exact wpAny_pure h
end

def codeR : Array Nat := #[14, 8, 1, 2, 4294967295, 1, 1, 46, 0, 16, 46, 24, 9, 1, 4294967295, 13, 4, 8, 0, 0, 1, 6, 5, 1]
/-- the search finds nothing in x -/
def NoAddr (x : Str) : Prop := failsIn 40 (Sre.forSearch codeR x.cps 0 0 x.cps.size false) = true

theorem search_fails (x : Str) (t : Tok) (ps t0 : Value) (hx : NoAddr x) (hl : x.cps.size ≤ 1000) :
    Meets («re.Pattern.search» ⟨[.ref 70, .str x t], []⟩)
      (fun A R s => s.heap.get? 70 = some (oRe ps t0) ∧ s.heap.get? 69 = some oCode ∧ R (.ok (.ret .none)) s) := by
  intro prog w A R s h
  obtain ⟨hp, g, d, tk, os⟩ := s; obtain ⟨hl, hb, h⟩ := h
  unfold oRe at hl
  unfold oCode at hb
  unfold «re.Pattern.search»
  refine wpAny_bind (wpAny_mono (Q := fun tg s' => tg = { pattern := .ref 70, string := .str x t, code := codeR, text := x.cps, kind := 0, groups := 0, pos := 0, lim := x.cps.size } ∧ s' = ⟨hp, g, d, tk, os⟩) ?_ (fun tg s' q => ?_) fun _ _ e => e)
  · wp_walk using wpAny_loadPart' hl, wpAny_loadPart' hb
    refine ⟨?_, rfl⟩
    have e1 : (fun i : Int => Min.min i.toNat x.cps.size) 0 = 0 := by simp
    have e2 : (fun i : Int => Min.min i.toNat x.cps.size) (2 ^ 63 - 1) = x.cps.size := by
      have : ((2 : Int) ^ 63 - 1).toNat = 9223372036854775807 := by decide
      dsimp only
      rw [this]; omega
    have e3 : Array.map (fun x : Int => x.toNat) (Array.map reRawOf ((some (Array.map (fun i => Value.int i 0) #[14, 8, 1, 2, 4294967295, 1, 1, 46, 0, 16, 46, 24, 9, 1, 4294967295, 13, 4, 8, 0, 0, 1, 6, 5, 1])).getD #[])) = codeR := by decide +kernel
    rw [e1, e2, e3]
    rfl
  · obtain ⟨rfl, rfl⟩ := q
    unfold reAnswer
    refine wpAny_bind (run_fails (n := 40) (by decide) hx ?_)
    exact wpAny_pure h

theorem plainAttrs_re : PlainAttrs "re.Pattern" :=
  ⟨⟨"object.__getattribute__", by rw [typeLookup_type, builtinLookup_eq_fast]; kernel_rfl, by decide +kernel⟩, by rw [typeLookup_type, builtinLookup_eq_fast]; kernel_rfl⟩
theorem slot_re_search : Slot "re.Pattern" "search" "re.Pattern.search" :=
  .of (owner := "re.Pattern") (n := "search") (by rw [typeLookup_type, builtinLookup_eq_fast]; kernel_rfl) (by decide +kernel) (by decide +kernel) (by decide +kernel)
    (by first | exact .inl (by decide +kernel) | exact .inr (by decide +kernel)) (by rw [isSubtype_type]; kernel_rfl)
theorem type_re_search : typeOf (.builtin "re.Pattern.search") = pure (.type "method_descriptor") := by show builtinType _ = _; rw [builtinType_eq_fast]; kernel_rfl
theorem entry_re_search : entryFor table "re.Pattern.search" = some Builtin.«re.Pattern.search» := entryFor_of_tree (by kernel_rfl)
theorem owner_re : Manifest.owners.lookup (String.ofList ['n', 'r', 'e', 't', 't', 'a', 'P', '.', 'e', 'r'].reverse) = some Manifest.sig_re_Pattern := by kernel_rfl
theorem args_re_search (a b : Value) : argsOk "re.Pattern.search" ⟨[a, b], []⟩ := by
  unfold argsOk; rw [signature?_of (id := "re.Pattern.search") (n := ['h', 'c', 'r', 'a', 'e', 's']) (o := ['n', 'r', 'e', 't', 't', 'a', 'P', '.', 'e', 'r']) (by kernel_rfl) owner_re]; kernel_rfl
end Mine

namespace Mine
open PySem PySem.W PySem.Spec PySem.Calls PyProof.Rows

def dot : Str := "."
/-- x is a name of a host as the text asks -/
def hdnOk (x : Str) : Bool :=
  decide (x.cps.size ≤ 1000) && failsIn 40 (Sre.forSearch codeR x.cps 0 0 x.cps.size false) && !(x == "") && (Txt.charAt x 0).isSome && (Txt.charAt x (-1)).isSome && !(Txt.item x 0 == dot) && !(Txt.item x (-1) == dot)

def sliceFrom (x : Str) (k : Int) : Str := ⟨((slicePicked x (some (k, 0)) none none).filterMap (x.cps[·]?)).toArray⟩
def fromOk (x : Str) (k : Int) (b : Str) : Bool := !((slicePicked x (some (k, 0)) none none).length == x.length) && (sliceFrom x k == b) && decide (b.length ≤ 1000)

/-- reach(x) is "." ++ b -/
def reachOk (x b : Str) : Bool :=
  hdnOk x && decide (0 ≤ Txt.find x dot) && fromOk x (Txt.find x dot + 1) b && (decide (0 ≤ Txt.find b dot) || b == "local")

section
variable {prog : Program} {w : World} {A : Around} {E : Value → Shared → Prop} {s : Shared} {H h h1 h2 : Heap} {mg mb : Str → Option Value} {env : Env}

theorem l_from {value : Expr} {e : Expr} {p pos : Pos} {Q : Value → Shared → Prop}
    (h : wpAny (model prog w) A (eval value env) (fun o s₁ => wpAny (model prog w) A (eval e env) (fun v s₂ => ∃ x t k u b, o = .str x t ∧ v = .int k u ∧ fromOk x k b = true ∧ ∀ h' t' tk, Ext H Nil s₂.heap h' → Q (.str b t') (put s₂ h' tk)) E s₁) E s)
    (ht : ∀ o r, letTemporaryGo value o r = pure () := by intro _ _; rfl) :
    wpAny (model prog w) A (eval (.Subscript value (.Slice (some e) none none p) pos) env) Q E s := by
  refine wpAny_Subscript_str_slice (wpAny_mono h (fun o s₁ h₁ => wpAny_mono (t := eval e env) h₁ (fun v s₂ h₂ => ?_) fun _ _ e => e) fun _ _ e => e) ht
  rw [evalPart_none]
  obtain ⟨x, t, k, u, b, rfl, rfl, hf, hQ⟩ := h₂
  refine wpAny_pure ⟨x, t, some (k, u), none, rfl, rfl, rfl, ?_⟩
  simp only [fromOk, Bool.and_eq_true, Bool.not_eq_true', decide_eq_true_eq] at hf
  obtain ⟨⟨h1, h2⟩, h3⟩ := hf
  have h2 := eq_of_beq h2
  have e1 : sliceMade x t (some (k, u)) none none = .str b := by
    unfold sliceMade
    rw [if_neg]
    · rw [← h2]; rfl
    · show ¬ ((((none : Option (Int × Tok)).map (·.1)).getD 1 == 1 && (slicePicked x (some (k, 0)) none none).length == x.length) = true)
      rw [h1]; simp
  rw [e1]
  exact ⟨Nat.le_trans h3 (by decide), hQ _ _ _ (Ext.push _)⟩

theorem hdn_call {x : Str} {t : Tok} {n : Nat} (S : Stat H mg mb) (hA : Ok A (n + 2)) (G : Good H h) (hx : hdnOk x = true) :
    Do prog w H A (call (.ref 77) [.str x t]) h Nil (fun v _ => v = .bool true) := by
  obtain ⟨pm, e⟩ := G.fn S.fHdn (by decide) (by decide)
  simp only [hdnOk, Bool.and_eq_true, Bool.not_eq_true', decide_eq_true_eq] at hx
  obtain ⟨⟨⟨⟨⟨⟨hsz, hno⟩, hne⟩, hc0⟩, hc1⟩, hd0⟩, hd1⟩ := hx
  refine call_def (binds := [("text", .str x t)]) hA G (G.nolimit S) e rfl rfl (G.codeRec (S.codes (76, "is_HDN") (by decide)) (by decide) (by decide)) (fun s _ => BindsTo.of_eq rfl) rfl (locs rfl) rfl (fun h1 Fm X1 G1 => ?_)
  intro s Q E hs hQ
  subst hs
  obtain ⟨ps, t0, hre⟩ := S.oRe
  have hre' := G1.old _ _ (by decide) (by decide) hre
  have hco := G1.old _ _ (by decide) (by decide) S.oCode
  refine wpAny_execs_cons (wpAny_If (wpAny_isTrue_value (wpAny_Call_method1_late rfl rfl rfl (nm_glob G1 S rfl rfl rfl S.gRe ⟨"re.Pattern", _, plainAttrs_re, slot_re_search, type_re_search, ⟨_, hre', rfl⟩, fun a q => by cases q; exact ⟨_, hre', rfl⟩,
    callWith_builtin rfl (evalArgs_plain (spliced_cons (nm_local Fm rfl rfl rfl (spliced_nil (call_meets slot_re_search ⟨_, hre', rfl⟩ entry_re_search (args_re_search _ _) (search_fails x t ps t0 hno hsz) ⟨hre', hco, ?_⟩)))))⟩))))
  refine truthy_none (ite_f rfl (wpAny_execs_nil ?_))
  refine wpAny_execs_cons (wpAny_If (wpAny_isTrue_Compare1 (nm_local Fm rfl rfl rfl (l_str fun _ _ => eq_str (wpAny_truthy_bool (ite_f hne (wpAny_execs_nil ?_)))))))
  refine wpAny_execs_cons (wpAny_If (wpAny_isTrue_BoolOp (wpAny_allTrue_Or_cons (wpAny_isTrue_Compare1 (PySem.Subscript_Constant (nm_local Fm rfl rfl rfl (l_int fun _ _ => SB.item rfl hc0 (l_str fun _ _ => eq_str (wpAny_truthy_bool (ite_f hd0 ?_))))))))))
  refine wpAny_allTrue_Or_cons (wpAny_isTrue_Compare1 (PySem.Subscript_UnaryOp (nm_local Fm rfl rfl rfl (wpAny_UnaryOp (l_int fun _ _ => PyProof.Rows.neg_int (SB.item rfl hc1 (l_str fun _ _ => eq_str (wpAny_truthy_bool (ite_f hd1 ?_)))))))))
  refine wpAny_allTrue_Or_nil (ite_f rfl (wpAny_execs_nil ?_))
  exact wpAny_execs_cons (wpAny_Return_some (wpAny_Constant_bool (hQ _ _ _ .refl rfl)))
end
end Mine

namespace Mine
open PySem PySem.W PySem.Spec PySem.Calls PyProof.Rows

section
variable {prog : Program} {w : World} {A : Around} {E : Value → Shared → Prop} {s : Shared} {H h h1 h2 : Heap} {mg mb : Str → Option Value} {env : Env}

theorem reach_call {x b : Str} {t : Tok} {n : Nat} (S : Stat H mg mb) (hA : Ok A (n + 3)) (G : Good H h) (hx : reachOk x b = true) :
    Do prog w H A (call (.ref 84) [.str x t]) h Nil (fun v _ => ∃ t', v = .str (dot ++ b) t') := by
  obtain ⟨pm, e⟩ := G.fn S.fReach (by decide) (by decide)
  obtain ⟨pmH, eH⟩ := S.fHdn
  simp only [reachOk, Bool.and_eq_true, Bool.or_eq_true, decide_eq_true_eq] at hx
  obtain ⟨⟨⟨hh, hf⟩, hs⟩, hb⟩ := hx
  have hbl : b.length ≤ 1000 := by simp only [fromOk, Bool.and_eq_true, decide_eq_true_eq] at hs; exact hs.2
  refine call_def (binds := [("h", .str x t)]) hA G (G.nolimit S) e rfl rfl (G.codeRec (S.codes (83, "reach") (by decide)) (by decide) (by decide)) (fun s _ => BindsTo.of_eq rfl) rfl (locs rfl) rfl (fun h1 Fm X1 G1 => ?_)
  intro s Q E hs' hQ
  subst hs'
  have hA1 : Ok (A.deeper (callEnv (fdOf (topStmt 12) .none .none pm (.ref 83)) h.objs.size 84)) (n + 2) := hA.deeper
  generalize A.deeper (callEnv (fdOf (topStmt 12) .none .none pm (.ref 83)) h.objs.size 84) = B at hA1 ⊢
  have own : ∀ b, At (callEnv (fdOf (topStmt 12) .none .none pm (.ref 83)) h.objs.size 84).locals b → Nil b ∨ h.objs.size ≤ b := fun b q => .inr (Nat.le_of_eq q.symm)
  refine wpAny_execs_cons (wpAny_Assign_Name (meth_str1 F.slot_str_find F.type_str_find (nm_local Fm rfl rfl rfl ⟨_, _, rfl, l_str fun _ _ => l_find fun ti _ => ?_⟩)))
  refine st_local Fm rfl rfl fun h2 tk2 F2 X2 => ?_
  refine wpAny_execs_cons (wpAny_If (wpAny_isTrue_Compare1 (nm_local F2 rfl rfl upd_self (l_int fun _ _ => ge_int (wpAny_truthy_bool (ite_t (decide_eq_true hf) ?_))))))
  refine wpAny_execs_cons (wpAny_Assign_Name (l_from (H := H) (nm_local F2 rfl rfl ((upd_ne (by decide)).trans rfl) (wpAny_BinOp (nm_local F2 rfl rfl upd_self (l_int fun _ _ => l_add fun _ _ => ⟨_, _, _, _, _, rfl, rfl, hs, fun h3 tb tk3 X3 => ?_⟩))))))
  refine st_local (F2.nil X3.toCalm) rfl rfl fun h4 tk4 F4 X4 => ?_
  refine wpAny_execs_cons (wpAny_Assign_Name (meth_str1 F.slot_str_find F.type_str_find (nm_local F4 rfl rfl upd_self ⟨_, _, rfl, l_str fun _ _ => l_find fun tj _ => ?_⟩)))
  refine st_local F4 rfl rfl fun h5 tk5 F5 X5 => ?_
  have X05 := X2.trans (X3.to.trans (X4.trans X5))
  have G5 := X05.good G1
  refine wpAny_execs_cons (wpAny_If (wpAny_isTrue_BoolOp (wpAny_allTrue_And_cons (wpAny_isTrue_value (gcall1 G5 S rfl rfl rfl S.gHdn eH rfl (by decide) (by decide) (nm_local F5 rfl rfl ((upd_ne (by decide)).trans ((upd_ne (by decide)).trans ((upd_ne (by decide)).trans rfl))) ⟨G5, ?_⟩))))))
  refine hdn_call S hA1 G5 hh _ _ _ rfl fun v h6 tk6 X6 hv => ?_
  subst hv
  have F6 := F5.nil X6.toCalm
  refine wpAny_truthy_bool (ite_t rfl ?_)
  have ret : ∀ (Q' : Flow → Shared → Prop) (s1 : Shared), s1.heap = h6 → (∀ t' tk', Q' (.ret (.str (dot ++ b) t')) (put s1 h6 tk')) → wpAny (model prog w) B (execs [.Return (some (.BinOp (.Constant (.str ".") 0 ⟨74, 19, 74, 22⟩) .Add (.Name "b" ⟨74, 25, 74, 26⟩) ⟨74, 19, 74, 26⟩)) ⟨74, 12, 74, 26⟩] (callEnv (fdOf (topStmt 12) .none .none pm (.ref 83)) h.objs.size 84))
      Q' E s1 := by
    intro Q' s1 e1 hq
    subst e1
    refine wpAny_execs_cons (wpAny_Return_some (wpAny_BinOp (l_str fun _ _ => nm_local F6 rfl rfl ((upd_ne (by decide)).trans upd_self) (l_cat (fun tr _ => ?_) ?_))))
    · exact hq tr _
    · have : (Str.ofString ".").length = 1 := by decide +kernel
      rw [this]
      exact Nat.le_trans (Nat.add_le_add_left hbl 1) (by decide)
  have X06 := ((X05.trans X6.to).mono own)
  refine wpAny_allTrue_And_cons (wpAny_isTrue_BoolOp (wpAny_allTrue_Or_cons (wpAny_isTrue_Compare1 (nm_local F6 rfl rfl upd_self (l_int fun _ _ => ge_int (wpAny_truthy_bool ?_))))))
  by_cases hc : 0 ≤ Txt.find b dot
  · refine ite_t (decide_eq_true hc) (ite_t rfl (wpAny_allTrue_And_nil (ite_t rfl ?_)))
    exact ret _ _ rfl fun t' tk' => hQ _ _ _ X06 ⟨t', rfl⟩
  · refine ite_f (decide_eq_false hc) (wpAny_allTrue_Or_cons (wpAny_isTrue_Compare1 (nm_local F6 rfl rfl ((upd_ne (by decide)).trans upd_self) (l_str fun _ _ => eq_str (wpAny_truthy_bool (ite_t (hb.resolve_left hc) (ite_t rfl (wpAny_allTrue_And_nil (ite_t rfl ?_)))))))))
    exact ret _ _ rfl fun t' tk' => hQ _ _ _ X06 ⟨t', rfl⟩
end
end Mine

namespace Mine
open PySem PySem.W PySem.Spec PySem.Calls PyProof.Rows

theorem nfmod (n k : Nat) : Int.fmod (n : Nat) (k : Nat) = ((n % k : Nat) : Int) := by rw [Int.fmod_eq_emod_of_nonneg _ (Int.natCast_nonneg k)]; rfl
theorem nfdiv (n k : Nat) : Int.fdiv (n : Nat) (k : Nat) = ((n / k : Nat) : Int) := by rw [Int.fdiv_eq_ediv_of_nonneg _ (Int.natCast_nonneg k)]; rfl

section
variable {prog : Program} {w : World} {A : Around} {E : Value → Shared → Prop} {s : Shared} {H h h1 h2 : Heap} {mg mb : Str → Option Value} {env : Env}

theorem sub_any {value slice : Expr} {pos : Pos} {Q : Value → Shared → Prop}
    (h : wpAny (model prog w) A (eval value env) (fun o s₁ => wpAny (model prog w) A (eval slice env) (fun i s₂ => SubscriptOn (model prog w) A o i Q E s₂) E s₁) E s)
    (hs : ∀ o i, subscripted slice false o i = operate [o, i] (getItem o i) := by intro _ _; rfl) :
    wpAny (model prog w) A (eval (.Subscript value slice pos) env) Q E s :=
  Subscript_ (wpAny_mono h (fun o s₁ h₁ => wpAny_mono h₁ (fun i s₂ ⟨T, id, hl, hT, hg⟩ => tail_any hT hl hg (hs o i)) fun _ _ e => e) fun _ _ e => e)

theorem sub_slice {value : Expr} {lower upper step : Option Expr} {p pos : Pos} {Q : Value → Shared → Prop} {T id : String} (hl : typeLookup (.type T) "__getitem__" = pure (some (.builtin id)))
    (h : wpAny (model prog w) A (eval value env) (fun o s₁ => wpAny (model prog w) A (evalPart lower env) (fun vl s₂ => wpAny (model prog w) A (evalPart upper env) (fun vu s₃ => wpAny (model prog w) A (evalPart step env) (fun vs s₄ =>
      (∀ h', (∀ b o, s₄.heap.get? b = some o → h'.get? b = some o) → (put s₄ h' s₄.toks).TypeIs o T) ∧ wpAny (model prog w) A (getItem o (.ref s₄.heap.objs.size)) Q E { s₄ with heap := s₄.heap.push { cls := .type "slice", data := .fields #[vl, vu, vs] } }) E s₃) E s₂) E s₁) E s)
    (hs : ∀ o i, ∃ ops, subscripted (.Slice lower upper step p) false o i = operate ops (getItem o i) := by exact fun o i => ⟨_, rfl⟩) :
    wpAny (model prog w) A (eval (.Subscript value (.Slice lower upper step p) pos) env) Q E s :=
  Subscript_ (wpAny_mono h (fun o s₁ h₁ => wpAny_Slice (wpAny_mono h₁ (fun vl s₂ h₂ => wpAny_mono h₂ (fun vu s₃ h₃ => wpAny_mono h₃ (fun vs s₄ h₄ => by
    obtain ⟨ops, ho⟩ := hs o (.ref s₄.heap.objs.size)
    exact tail_any (h₄.1 _ fun b o e => Heap.get?_push_of_some _ e) hl h₄.2 ho) fun _ _ e => e) fun _ _ e => e) fun _ _ e => e)) fun _ _ e => e)

/-- a list's slice -/
theorem l_slice {value : Expr} {lower upper step : Option Expr} {p pos : Pos} {Q : Value → Shared → Prop}
    (h : wpAny (model prog w) A (eval value env) (fun o s₁ => wpAny (model prog w) A (evalPart lower env) (fun vl s₂ => wpAny (model prog w) A (evalPart upper env) (fun vu s₃ => wpAny (model prog w) A (evalPart step env) (fun vs s₄ =>
      ∃ l items lo hi st, o = .ref l ∧ s₄.heap.IsList l items ∧ items.size ≤ 1000 ∧ IsPart vl lo ∧ IsPart vu hi ∧ IsPart vs st ∧ st ≠ some 0 ∧ H.objs.size ≤ s₄.heap.objs.size ∧
        ∀ a h' tk, Lst H h' a (slicePick items lo hi st) → Ext H Nil s₄.heap h' → s₄.heap.objs.size ≤ a → Q (.ref a) (put s₄ h' tk)) E s₃) E s₂) E s₁) E s)
    (hs : ∀ o i, ∃ ops, subscripted (.Slice lower upper step p) false o i = operate ops (getItem o i) := by exact fun o i => ⟨_, rfl⟩) :
    wpAny (model prog w) A (eval (.Subscript value (.Slice lower upper step p) pos) env) Q E s := by
  refine sub_slice (T := "list") list_getitem_lookup (wpAny_mono h (fun o s₁ h₁ => wpAny_mono h₁ (fun vl s₂ h₂ => wpAny_mono h₂ (fun vu s₃ h₃ => wpAny_mono h₃ (fun vs s₄ h₄ => ?_) fun _ _ e => e) fun _ _ e => e) fun _ _ e => e) fun _ _ e => e) hs
  obtain ⟨l, items, lo, hi, st, rfl, hl, hsz, pl, pu, ps, h0, hH, hQ⟩ := h₄
  refine ⟨fun h' hk => ?_, wpAny_getItem_list_slice (hl.push _) (Heap.IsSliceOf.new ..) pl pu ps h0 ?_ (Nat.le_trans hsz (by decide))⟩
  · obtain ⟨o, e, hc, _⟩ := hl
    exact ⟨o, hk _ _ e, hc⟩
  · have e : (slicePick items lo hi st) = (slicePick items lo hi st).toList.toArray := (Array.toArray_toList ..).symm
    rw [e]
    refine hQ _ _ s₄.toks ?_ ((Ext.push _).trans (Ext.push _)) (by rw [Heap.size_push]; exact Nat.le_succ _)
    rw [← e]
    have := Lst.push (H := H) (h := s₄.heap.push { cls := .type "slice", data := .fields #[vl, vu, vs] }) (by rw [Heap.size_push]; omega) (slicePick items lo hi st).toList
    rw [← e] at this
    exact this

/-- a text's tail -/
theorem l_from' {value : Expr} {e : Expr} {p pos : Pos} {Q : Value → Shared → Prop}
    (h : wpAny (model prog w) A (eval value env) (fun o s₁ => wpAny (model prog w) A (eval e env) (fun v s₂ => ∃ x t k u b, o = .str x t ∧ v = .int k u ∧ fromOk x k b = true ∧ ∀ h' t' tk, Ext H Nil s₂.heap h' → Q (.str b t') (put s₂ h' tk)) E s₁) E s) :
    wpAny (model prog w) A (eval (.Subscript value (.Slice (some e) none none p) pos) env) Q E s := by
  refine sub_slice (T := "str") F.slot_str_getitem.lookup (wpAny_mono h (fun o s₁ h₁ => wpAny_mono (t := eval e env) h₁ (fun v s₂ h₂ => ?_) fun _ _ e => e) fun _ _ e => e) fun o i => ⟨_, rfl⟩
  rw [evalPart_none]
  obtain ⟨x, t, k, u, b, rfl, rfl, hf, hQ⟩ := h₂
  refine wpAny_pure (wpAny_pure ⟨fun h' _ => typeIs_str _ x t, wpAny_getItem_str_slice (l := some (k, u)) (u := none) (st := none) ⟨_, Heap.get?_push_size _ rfl, rfl, rfl⟩ rfl ?_⟩)
  simp only [fromOk, Bool.and_eq_true, Bool.not_eq_true', decide_eq_true_eq] at hf
  obtain ⟨⟨h1, h2⟩, h3⟩ := hf
  have h2 := eq_of_beq h2
  have e1 : sliceMade x t (some (k, u)) none none = .str b := by
    unfold sliceMade
    rw [if_neg]
    · rw [← h2]; rfl
    · show ¬ ((((none : Option (Int × Tok)).map (·.1)).getD 1 == 1 && (slicePicked x (some (k, 0)) none none).length == x.length) = true)
      rw [h1]; simp
  rw [e1]
  exact ⟨Nat.le_trans h3 (by decide), hQ _ _ _ (Ext.push _)⟩
end
end Mine

namespace Mine
open PySem PySem.W PySem.Spec PySem.Calls PyProof.Rows

def topS (n : Nat) : Str := (["a", "local"] : List Str).getD (n % 2) ""
def midS (n : Nat) : Str := (["b", "7"] : List Str).getD (n / 2 % 2) ""
def lowS (n : Nat) : Str := (["com", "c"] : List Str).getD (n / 4 % 2) ""
def headS (n : Nat) : Str := (["x", "y", "X", "Y"] : List Str).getD (n / 8 % 4) ""
def labelsS (n : Nat) : List Str := [headS n, lowS n, midS n, topS n, "local"]

theorem m2 (n : Nat) : Int.fmod (n : Nat) 2 = ((n % 2 : Nat) : Int) := by rw [Int.fmod_eq_emod_of_nonneg _ (by decide)]; omega
theorem m4 (n : Nat) : Int.fmod (n : Nat) 4 = ((n % 4 : Nat) : Int) := by rw [Int.fmod_eq_emod_of_nonneg _ (by decide)]; omega
theorem d2m2 (n : Nat) : Int.fmod (Int.fdiv (n : Nat) 2) 2 = ((n / 2 % 2 : Nat) : Int) := by rw [Int.fdiv_eq_ediv_of_nonneg _ (by decide), Int.fmod_eq_emod_of_nonneg _ (by decide)]; omega
theorem d4m2 (n : Nat) : Int.fmod (Int.fdiv (n : Nat) 4) 2 = ((n / 4 % 2 : Nat) : Int) := by rw [Int.fdiv_eq_ediv_of_nonneg _ (by decide), Int.fmod_eq_emod_of_nonneg _ (by decide)]; omega
theorem d8m4 (n : Nat) : Int.fmod (Int.fdiv (n : Nat) 8) 4 = ((n / 8 % 4 : Nat) : Int) := by rw [Int.fdiv_eq_ediv_of_nonneg _ (by decide), Int.fmod_eq_emod_of_nonneg _ (by decide)]; omega

section
variable {prog : Program} {w : World} {A : Around} {E : Value → Shared → Prop} {s : Shared} {H h h1 h2 : Heap} {mg mb : Str → Option Value} {env : Env}

/-- v is a new list of strings -/
def NewS (H h h' : Heap) (v : Value) (xs : List Str) : Prop := ∃ a vs, v = .ref a ∧ h.objs.size ≤ a ∧ Lst H h' a vs ∧ StrL vs xs
def NewI (H h h' : Heap) (v : Value) (xs : List Int) : Prop := ∃ a vs, v = .ref a ∧ h.objs.size ≤ a ∧ Lst H h' a vs ∧ IntL vs xs

theorem sOnS {l : Addr} {vs : Array Value} {xs : List Str} {i : Nat} {k : Int} {t : Tok} {Q : Value → Shared → Prop} (ll : s.heap.IsList l vs) (hx : StrL vs xs) (hk : k = (i : Nat)) (hi : i < xs.length) (hs : xs.length ≤ 1000)
    (h : ∀ t', Q (.str (xs.getD i "") t') s) : SubscriptOn (model prog w) A (.ref l) (.int k t) Q E s := by
  obtain ⟨t', e⟩ := hx.get hi
  subst hk
  exact sOn ll (by omega) e (by rw [hx.1]; exact hs) (h t')
theorem sOnI {l : Addr} {vs : Array Value} {xs : List Int} {i : Nat} {k : Int} {t : Tok} {Q : Value → Shared → Prop} (ll : s.heap.IsList l vs) (hx : IntL vs xs) (hk : k = (i : Nat)) (hi : i < xs.length) (hs : xs.length ≤ 1000)
    (h : ∀ t', Q (.int (xs.getD i 0) t') s) : SubscriptOn (model prog w) A (.ref l) (.int k t) Q E s := by
  obtain ⟨t', e⟩ := hx.get hi
  subst hk
  exact sOn ll (by omega) e (by rw [hx.1]; exact hs) (h t')

set_option maxHeartbeats 1000000 in
theorem labels_call {n k : Nat} {t : Tok} (S : Stat H mg mb) (hA : Ok A (k + 2)) (G : Good H h) :
    Do prog w H A (call (.ref 91) [.int (n : Nat) t]) h Nil (fun v h' => NewS H h h' v (labelsS n)) := by
  obtain ⟨pm, e⟩ := G.fn S.fLabels (by decide) (by decide)
  refine call_def (binds := [("number", .int (n : Nat) t)]) hA G (G.nolimit S) e rfl rfl (G.codeRec (S.codes (90, "_law_labels") (by decide)) (by decide) (by decide)) (fun s _ => BindsTo.of_eq rfl) rfl (locs rfl) rfl (fun h1 Fm X1 G1 => ?_)
  intro s Q E hs hQ
  subst hs
  have own : ∀ b, At (callEnv (fdOf (topStmt 14) .none .none pm (.ref 90)) h.objs.size 91).locals b → Nil b ∨ h.objs.size ≤ b := fun b q => .inr (Nat.le_of_eq q.symm)
  -- top
  refine wpAny_execs_cons (wpAny_Assign_Name (sub_any (l_list (H := H) (spliced_cons (l_str fun _ _ => spliced_cons (l_str fun _ _ => spliced_nil ⟨by simp, G1.size, fun a h2 tk2 ll X2 ha => ?_⟩))))))
  refine wpAny_BinOp (nm_local (Fm.nil X2.toCalm) rfl rfl rfl (l_int fun _ _ => l_mod (by decide) fun _ _ => ?_))
  refine sOnS ll.isList (xs := ["a", "local"]) (.ofCons (.ofCons .nil)) (m2 n) (by simp; omega) (by decide) fun t1 => ?_
  refine st_local (Fm.nil X2.toCalm) rfl rfl fun h3 tk3 F3 X3 => ?_
  have X03 := X2.to.trans X3
  clear ll X2 X3
  -- middle
  refine wpAny_execs_cons (wpAny_Assign_Name (sub_any (l_list (H := H) (spliced_cons (l_str fun _ _ => spliced_cons (l_str fun _ _ => spliced_nil ⟨by simp, (X03.good G1).size, fun a h4 tk4 ll X4 ha => ?_⟩))))))
  refine wpAny_BinOp (wpAny_BinOp (nm_local (F3.nil X4.toCalm) rfl rfl ((upd_ne (by decide)).trans rfl) (l_int fun _ _ => l_div (by decide) (by decide) fun _ _ => l_int fun _ _ => l_mod (by decide) fun _ _ => ?_)))
  refine sOnS ll.isList (xs := ["b", "7"]) (.ofCons (.ofCons .nil)) (d2m2 n) (by simp; omega) (by decide) fun t2 => ?_
  refine st_local (F3.nil X4.toCalm) rfl rfl fun h5 tk5 F5 X5 => ?_
  have X05 := X03.trans (X4.to.trans X5)
  clear ll X4 X5
  -- low
  refine wpAny_execs_cons (wpAny_Assign_Name (sub_any (l_list (H := H) (spliced_cons (l_str fun _ _ => spliced_cons (l_str fun _ _ => spliced_nil ⟨by simp, (X05.good G1).size, fun a h6 tk6 ll X6 ha => ?_⟩))))))
  refine wpAny_BinOp (wpAny_BinOp (nm_local (F5.nil X6.toCalm) rfl rfl ((upd_ne (by decide)).trans ((upd_ne (by decide)).trans rfl)) (l_int fun _ _ => l_div (by decide) (by decide) fun _ _ => l_int fun _ _ => l_mod (by decide) fun _ _ => ?_)))
  refine sOnS ll.isList (xs := ["com", "c"]) (.ofCons (.ofCons .nil)) (d4m2 n) (by simp; omega) (by decide) fun t3 => ?_
  refine st_local (F5.nil X6.toCalm) rfl rfl fun h7 tk7 F7 X7 => ?_
  have X07 := X05.trans (X6.to.trans X7)
  clear ll X6 X7
  -- the answer
  refine wpAny_execs_cons (wpAny_Return_some (l_list (H := H) (spliced_cons (sub_any (l_list (H := H) (spliced_cons (l_str fun _ _ => spliced_cons (l_str fun _ _ => spliced_cons (l_str fun _ _ => spliced_cons (l_str fun _ _ => spliced_nil ⟨by simp, (X07.good G1).size, fun a h8 tk8 ll X8 ha => ?_⟩))))))))))
  refine wpAny_BinOp (wpAny_BinOp (nm_local (F7.nil X8.toCalm) rfl rfl ((upd_ne (by decide)).trans ((upd_ne (by decide)).trans ((upd_ne (by decide)).trans rfl))) (l_int fun _ _ => l_div (by decide) (by decide) fun _ _ => l_int fun _ _ => l_mod (by decide) fun _ _ => ?_)))
  refine sOnS ll.isList (xs := ["x", "y", "X", "Y"]) (.ofCons (.ofCons (.ofCons (.ofCons .nil)))) (d8m4 n) (by simp; omega) (by decide) fun t4 => ?_
  have F8 := F7.nil X8.toCalm
  refine spliced_cons (nm_local F8 rfl rfl upd_self (spliced_cons (nm_local F8 rfl rfl ((upd_ne (by decide)).trans upd_self) (spliced_cons (nm_local F8 rfl rfl ((upd_ne (by decide)).trans ((upd_ne (by decide)).trans upd_self)) (spliced_cons (l_str fun t9 _ => spliced_nil ⟨by simp, (X8.good (X07.good G1)).size, fun a9 h9 tk9 l9 X9 ha9 => ?_⟩)))))))
  refine hQ _ _ _ ((X07.trans (X8.to.trans X9.to)).mono own) ⟨a9, _, rfl, Nat.le_trans (Nat.le_trans X1.size (X07.trans X8.to).size) ha9, l9, ?_⟩
  exact .ofCons (.ofCons (.ofCons (.ofCons (.ofCons .nil))))
end
end Mine

namespace Mine
open PySem PySem.W PySem.Spec PySem.Calls PyProof.Rows

section
variable {prog : Program} {w : World} {A : Around} {E : Value → Shared → Prop} {s : Shared} {H h h1 h2 : Heap} {mg mb : Str → Option Value} {env : Env}

theorem range_iter {n : Nat} {t : Tok} {Q : Value → Shared → Prop} (hn : n ≤ 1000)
    (h : ∀ I h' tk, s.heap.objs.size ≤ I → Ext H Nil s.heap h' → IsRangeIter h' I ((0 : Nat) : Int) ((n : Int) - ((0 : Nat) : Int)) 1 → Q (.ref I) (put s h' tk)) :
    wpAny (model prog w) A (call (.type "range") [.int (n : Nat) t]) (fun v s₁ => wpAny (model prog w) A (pyIter v) Q E s₁) E s := by
  refine call_range_1 ?_
  refine wpAny_pyIter_range (IsRange.new ..) (small_one (by omega) (by omega) (by omega) (by omega)) ?_
  refine h _ _ _ ?_ ((Ext.push _).trans (Ext.push _)) ?_
  · show s.heap.objs.size ≤ (s.heap.push _).objs.size
    rw [Heap.size_push]; omega
  · unfold IsRangeIter
    refine (Heap.get?_push_size _ rfl).trans ?_
    have e : Builtin.Range.rangeSize 0 (n : Nat) 1 = (n : Int) - ((0 : Nat) : Int) := by
      unfold Builtin.Range.rangeSize
      simp only [show (1 : Int) > 0 by decide, if_true, Int.ediv_one]
      split <;> omega
    rw [e]; rfl

/-- for over range(..) -/
theorem st_for_range {x : Str} {px np cpos pos : Pos} {e₁ : Expr} {body : List Stmt} {n : Nat} {S' : Addr → Prop} {Q : Flow → Shared → Prop} (hh : A.handled = none) (G : Good H s.heap) (S : Stat H mg mb) (hk : env.scope.kind = .function) (hx : env.kindOf "range" = some .globalImplicit) (hg : env.globals = mainGlobals) (hb : env.builtins = builtinsNs)
    (hn : n ≤ 1000) (he : ∀ Q' : Value → Shared → Prop, (∀ t tk, Q' (.int (n : Nat) t) (tick s tk)) → wpAny (model prog w) A (eval e₁ env) Q' E s)
    (Inv : Nat → Heap → Prop) (Rr : Value → Heap → Prop) (i0 : Inv 0 s.heap)
    (calm : ∀ i h1 h2, Inv i h1 → Calm H Nil h1 h2 → Inv i h2)
    (turn : ∀ i t (s₁ : Shared) (Q : Flow → Shared → Prop) (E' : Value → Shared → Prop), i < n → Inv i s₁.heap → Ext H S' s.heap s₁.heap →
      (∀ fl h' tk', Ext H S' s₁.heap h' → (match fl with | .next | .cont => Inv (i + 1) h' | .brk => False | .ret v => Rr v h') → Q fl (put s₁ h' tk')) →
      wpAny (model prog w) A (storeName env x (.int (i : Nat) t)) (fun _ s₂ => wpAny (model prog w) A (execs body env) Q E' s₂) E' s₁)
    (hQ : ∀ h' tk', Ext H S' s.heap h' → Inv n h' → Q .next (put s h' tk'))
    (hR : ∀ v h' tk', Ext H S' s.heap h' → Rr v h' → Q (.ret v) (put s h' tk'))
    (htrees : backTo cpos (starEach [e₁] env) = [(false, eval e₁ env)] := by rfl) :
    wpAny (model prog w) A (exec (.For (.Name x px) (.Call (.Name "range" np) [e₁] [] cpos) body [] pos) env) Q E s := by
  refine wpAny_For (tcall1 G S hk hx hg hb S.gRange rfl (by decide) (he _ fun t tk => ?_) (by decide) htrees)
  refine range_iter (H := H) hn fun I h1 tk1 hI X1 hr => ?_
  refine for_src (h0 := s.heap) (S := S') Inv Rr (Src.range hh n (Nat.le_trans G.size hI)) hI X1.to hr (calm _ _ _ i0 X1.toCalm) (fun _ q => q.elim) calm (fun i v s₁ Q E' hi hv iv X hq => ?_) (fun v s₁ Q E' o e hc hq => lotg_name v s₁ Q E' o e hc hq) (fun h' tk' X iv => hQ h' tk' X iv) (fun v h' tk' X r => hR v h' tk' X r)
  obtain ⟨t, rfl⟩ := hv
  exact wpAny_assign_Name (turn i t s₁ Q E' hi iv X hq)

/-- for over a list -/
theorem st_for_list {target iter : Expr} {body : List Stmt} {pos : Pos} {n : Nat} {P : Nat → Value → Prop} {S' : Addr → Prop} {Q : Flow → Shared → Prop} (hh : A.handled = none)
    (Inv : Nat → Heap → Prop) (Rr : Value → Heap → Prop)
    (he : wpAny (model prog w) A (eval iter env) (fun v s₁ => ∃ l vs h1 tk1, v = .ref l ∧ s₁ = put s h1 tk1 ∧ Lst H h1 l vs ∧ H.objs.size ≤ s.heap.objs.size ∧ ¬ S' l ∧ Ext H Nil s.heap h1 ∧ Inv 0 h1 ∧ vs.size = n ∧ ∀ i v, vs[i]? = some v → P i v) E s)
    (calm : ∀ i h1 h2, Inv i h1 → Calm H Nil h1 h2 → Inv i h2)
    (turn : ∀ i v (s₁ : Shared) (Q : Flow → Shared → Prop) (E' : Value → Shared → Prop), i < n → P i v → Inv i s₁.heap → Ext H S' s.heap s₁.heap →
      (∀ fl h' tk', Ext H S' s₁.heap h' → (match fl with | .next | .cont => Inv (i + 1) h' | .brk => False | .ret v => Rr v h') → Q fl (put s₁ h' tk')) →
      wpAny (model prog w) A (assign target env v) (fun _ s₂ => wpAny (model prog w) A (execs body env) Q E' s₂) E' s₁)
    (ht : ∀ I v (s₁ : Shared) (Q : Unit → Shared → Prop) (E' : Value → Shared → Prop) (o : Obj), s₁.heap.get? I = some o → (o.cls = .type "list_iterator" ∨ o.cls = .type "range_iterator") → Q () s₁ → wpAny (model prog w) A (letOwnedTupleGo target (.ref I) v) Q E' s₁)
    (hQ : ∀ h' tk', Ext H S' s.heap h' → Inv n h' → Q .next (put s h' tk'))
    (hR : ∀ v h' tk', Ext H S' s.heap h' → Rr v h' → Q (.ret v) (put s h' tk'))
    (hs : ∀ x, foldedSetIterable iter env x = pure x := by intro _; rfl) :
    wpAny (model prog w) A (exec (.For target iter body [] pos) env) Q E s := by
  refine wpAny_For (wpAny_mono he (fun v s₁ q => ?_) fun _ _ e => e) hs
  obtain ⟨l, vs, h1, tk1, rfl, rfl, ll, hH, hl, X1, iv, hvn, hP⟩ := q
  subst hvn
  refine wpAny_pyIter_list ll.isList ?_
  have XI : Ext H Nil h1 (h1.push { cls := .type "list_iterator", data := .fields #[.ref l, .int 0 0] }) := Ext.push _
  refine for_src (h0 := s.heap) (S := S') Inv Rr (Src.list hh vs (Nat.le_trans hH X1.size) ll.1) X1.size (X1.trans XI).to ⟨⟨_, Heap.get?_push_size _ rfl, rfl, rfl⟩, (ll.nil XI.toCalm).isList⟩ (calm _ _ _ iv XI.toCalm) (fun b q => by have q' : b = l := q; rw [q']; exact hl) calm (fun i v s₁ Q E' hi hv iv X hq => ?_) (fun v s₁ Q E' o e hc hq => ht _ v s₁ Q E' o e hc hq) (fun h' tk' X iv => hQ h' tk' X iv) (fun v h' tk' X r => hR v h' tk' X r)
  exact turn i v s₁ Q E' hi (hP i v hv) iv X hq
end
end Mine

namespace Mine
open PySem PySem.W PySem.Spec PySem.Calls PyProof.Rows

theorem StrL.cons {x : Str} {t : Tok} {vs : Array Value} {xs : List Str} (h : StrL vs xs) : StrL (insAt vs.toList 0 (Value.str x t)).toArray (x :: xs) := by
  show StrL (Value.str x t :: vs.toList).toArray (x :: xs)
  exact StrL.ofCons (by rw [Array.toArray_toList]; exact h)

/-- the ladder of x0, with tails b 0, b 1, .. -/
def ladAt (x0 : Str) (b : Nat → Str) : Nat → List Str
  | 0 => [dot ++ b 0, x0]
  | i + 1 => (dot ++ b (i + 1)) :: ladAt x0 b i

def ladOk (x0 : Str) (b : Nat → Str) : Bool :=
  reachOk x0 (b 0) && (List.range 3).all fun i => fromOk (dot ++ b i) 1 (b i) && reachOk (b i) (b (i + 1))

theorem ladAt_head (x0 : Str) (b : Nat → Str) (i : Nat) : (ladAt x0 b i).getD 0 "" = dot ++ b i := by cases i <;> rfl
theorem ladAt_len (x0 : Str) (b : Nat → Str) (i : Nat) : (ladAt x0 b i).length = i + 2 := by
  induction i with
  | zero => rfl
  | succ i ih => simp [ladAt, ih]

section
variable {prog : Program} {w : World} {A : Around} {E : Value → Shared → Prop} {s : Shared} {H h h1 h2 : Heap} {mg mb : Str → Option Value} {env : Env}

set_option maxHeartbeats 1000000 in
theorem ladder_call {x0 : Str} {b : Nat → Str} {t : Tok} {n : Nat} (S : Stat H mg mb) (hA : Ok A (n + 4)) (G : Good H h) (hx : ladOk x0 b = true) :
    Do prog w H A (call (.ref 98) [.str x0 t]) h Nil (fun v h' => NewS H h h' v (ladAt x0 b 3)) := by
  obtain ⟨pm, e⟩ := G.fn S.fLadder (by decide) (by decide)
  obtain ⟨pmR, eR⟩ := S.fReach
  simp only [ladOk, Bool.and_eq_true, List.all_eq_true, List.mem_range] at hx
  obtain ⟨hx0, hx1⟩ := hx
  refine call_def (binds := [("host", .str x0 t)]) hA G (G.nolimit S) e rfl rfl (G.codeRec (S.codes (97, "_law_ladder") (by decide)) (by decide) (by decide)) (fun s _ => BindsTo.of_eq rfl) rfl (locs rfl) rfl (fun h1 Fm X1 G1 => ?_)
  intro s Q E hs hQ
  subst hs
  have hA1 : Ok (A.deeper (callEnv (fdOf (topStmt 15) .none .none pm (.ref 97)) h.objs.size 98)) (n + 3) := hA.deeper
  generalize A.deeper (callEnv (fdOf (topStmt 15) .none .none pm (.ref 97)) h.objs.size 98) = B at hA1 ⊢
  have hL : (callEnv (fdOf (topStmt 15) .none .none pm (.ref 97)) h.objs.size 98).locals = h.objs.size := rfl
  have hbody : bodyOf (topStmt 15) = bodyOf (topStmt 15) := rfl
  have hm0 : (fun x_1 => List.lookup x_1 [(("host" : Str), Value.str x0 t)].reverse) "host" = some (.str x0 t) := rfl
  generalize hM : (fun x_1 => List.lookup x_1 [(("host" : Str), Value.str x0 t)].reverse) = m0 at Fm hm0
  generalize hEnv : callEnv (fdOf (topStmt 15) .none .none pm (.ref 97)) h.objs.size 98 = env at *
  have k1 : env.scope.kind = .function := by rw [← hEnv]; rfl
  have kl1 : env.kindOf "host" = some .local := by rw [← hEnv]; rfl
  have kl2 : env.kindOf "rungs" = some .local := by rw [← hEnv]; rfl
  have kl3 : env.kindOf "turn" = some .local := by rw [← hEnv]; rfl
  have kg1 : env.kindOf "reach" = some .globalImplicit := by rw [← hEnv]; rfl
  have kg2 : env.kindOf "range" = some .globalImplicit := by rw [← hEnv]; rfl
  have kg : env.globals = mainGlobals := by rw [← hEnv]; rfl
  have kb : env.builtins = builtinsNs := by rw [← hEnv]; rfl
  have ki : interactive env = false := by rw [← hEnv]; rfl
  clear hEnv hM
  refine wpAny_execs_cons (wpAny_Assign_Name (l_list (H := H) (spliced_cons (gcall1 G1 S k1 kg1 kg S.gReach eR rfl (by decide) (by decide) (nm_local Fm k1 kl1 hm0 ⟨G1, ?_⟩)))))
  refine reach_call S hA1 G1 hx0 _ _ _ rfl fun v h2 tk2 X2 hv => ?_
  obtain ⟨t2, rfl⟩ := hv
  have F2 := Fm.nil X2.toCalm
  have G2 := X2.good G1
  refine spliced_cons (nm_local F2 k1 kl1 hm0 (spliced_nil ⟨by simp, G2.size, fun l h3 tk3 ll X3 hl => ?_⟩))
  refine st_local (F2.nil X3.toCalm) k1 kl2 fun h4 tk4 F4 X4 => ?_
  have ll4 := ll.loc (F2.nil X3.toCalm) X4.toCalm
  have G4 := X4.good (X3.good G2)
  have X04 : Ext H (At env.locals) s.heap h4 := X2.to.trans (X3.to.trans X4)
  have hll : h.objs.size ≤ l := Nat.le_trans (Nat.le_trans X1.size X2.size) hl
  refine wpAny_execs_cons ?_
  refine st_for_range (n := 3) (S' := fun b => b = env.locals ∨ b = l) (hA1.1) G4 S k1 kg2 kg kb (by decide) (fun Q' hq => l_int fun t tk => hq t tk)
    (fun i h' => ∃ m' vs, Frm H env m' (fun _ => none) h' ∧ Good H h' ∧ m' "rungs" = some (.ref l) ∧ Lst H h' l vs ∧ StrL vs (ladAt x0 b i)) (fun _ _ => False)
    ⟨_, _, F4, G4, upd_self, ll4, .ofCons (.ofCons .nil)⟩
    (fun i h1 h2 ⟨m', vs, F, G, e, l1, l2⟩ c => ⟨m', vs, F.nil c, c.good G, e, l1.nil c, l2⟩) ?_ ?_ (fun _ _ _ _ r => r.elim)
  · rintro i ti s₁ Q' E' hi ⟨m', vs, F', G', er, ll', hvs⟩ X' hq
    refine st_local F' k1 kl3 fun h5 tk5 F5 X5 => ?_
    have ll5 := ll'.loc F' X5.toCalm
    have G5 := X5.good G'
    have er5 : upd m' "turn" (.int (i : Nat) ti) "rungs" = some (.ref l) := (upd_ne (by decide)).trans er
    have hlen := ladAt_len x0 b i
    refine wpAny_execs_cons (wpAny_Expr_any (meth_list2 PySem.F.slot_list_insert PySem.F.type_list_insert (nm_local F5 k1 kl2 er5 ⟨l, vs, rfl, ll5, l_int fun t0 _ => gcall1 G5 S k1 kg1 kg S.gReach eR rfl (by decide) (by decide)
      (l_from' (H := H) (sub_any (nm_local F5 k1 kl2 er5 (l_int fun _ _ => sOnS (i := 0) ll5.isList hvs rfl (by omega) (by omega) fun t1 => l_int fun _ _ => ⟨_, _, _, _, b i, rfl, rfl, by rw [ladAt_head]; exact (hx1 i hi).1, fun h6 t6 tk6 X6 => ⟨X6.good G5, ?_⟩⟩))))⟩)) ki (by rfl))
    refine reach_call S hA1 (X6.good G5) (hx1 i hi).2 _ _ _ rfl fun v h7 tk7 X7 hv => ?_
    obtain ⟨t7, rfl⟩ := hv
    have ll7 := (ll5.nil X6.toCalm).nil X7.toCalm
    have F7 := (F5.nil X6.toCalm).nil X7.toCalm
    refine l_insert (i := 0) ll7 (by rw [hvs.1]; omega) (Nat.zero_le _) fun h8 tk8 ll8 X8 => wpAny_execs_nil ?_
    refine hq _ _ _ ((X5.mono fun b q => .inl q).trans (X6.to.trans (X7.to.trans (X8.mono fun b q => .inr q)))) ?_
    exact ⟨_, _, F7.list ll7.isList X8.toCalm, X8.good (X7.good (X6.good G5)), er5, ll8, hvs.cons⟩
  · rintro h5 tk5 X5 ⟨m', vs, F', G', er, ll', hvs⟩
    refine wpAny_execs_cons (wpAny_Return_some (nm_local F' k1 kl2 er ?_))
    refine hQ _ _ _ ((X04.mono fun b q => .inr ?_).trans (X5.mono fun b q => .inr ?_)) ⟨l, vs, rfl, hll, ll', hvs⟩
    · rcases q with q | q
      · exact Nat.le_of_eq (hL.symm.trans q.symm)
      · rw [q]; exact hll
    · exact Nat.le_of_eq (hL.symm.trans q.symm)
end
end Mine

namespace Mine
open PySem PySem.W PySem.Spec PySem.Calls PyProof.Rows

/-- the cells that a scope takes along -/
def closOf (C : Str → Addr) : List (Str × NameKind) → List (Str × Addr) → List (Str × Addr)
  | [], acc => acc
  | (n, k) :: r, acc => closOf C r (if k == .free then (n, C n) :: acc else acc)

theorem clos_eq {scope : Scope} {env : Env} {C : Str → Addr} (h : ∀ n, (n, NameKind.free) ∈ scope.names → env.cells.lookup n = some (C n)) : closureFor scope env = pure (closOf C scope.names []) := by
  unfold closureFor
  have gen : ∀ (l : List (Str × NameKind)) (acc : List (Str × Addr)), (∀ n, (n, NameKind.free) ∈ l → env.cells.lookup n = some (C n)) →
      (forIn l acc fun (x : Str × NameKind) (cs : List (Str × Addr)) => match x with | (name, kind) => if (kind == NameKind.free) = true then do let c ← cellOf env name; pure (ForInStep.yield ((name, c) :: cs)) else pure (ForInStep.yield cs) : Sem (List (Str × Addr))) = pure (closOf C l acc) := by
    intro l
    induction l with
    | nil => intro acc _; rw [List.forIn_nil]; rfl
    | cons p r ih =>
      obtain ⟨n, k⟩ := p
      intro acc hl
      rw [List.forIn_cons]
      unfold closOf
      dsimp only
      by_cases hk : (k == NameKind.free) = true
      · have e := hl n (by rw [eq_of_beq hk]; exact List.mem_cons_self)
        rw [if_pos hk, if_pos hk]
        unfold cellOf
        rw [e]
        exact ih _ fun n' hn => hl n' (List.mem_cons_of_mem _ hn)
      · rw [if_neg hk, if_neg hk]
        exact ih _ fun n' hn => hl n' (List.mem_cons_of_mem _ hn)
  have := gen scope.names [] h
  show (forIn scope.names [] _ >>= fun cs => pure cs) = _
  rw [← this]
  exact bind_pure _

/-- families of values -/
structure Fam (H : Heap) (P : (Addr → Prop) → Nat → Value → Heap → Prop) : Prop where
  calm : ∀ R j y h1 h2 S, P R j y h1 → Calm H S h1 h2 → (∀ b, S b → NotL h1 b ∨ ¬ R b) → P R j y h2
  mono : ∀ R R' j y h, P R j y h → (∀ a, a < h.objs.size → R a → R' a) → P R' j y h

def FI (f : Nat → Int) : (Addr → Prop) → Nat → Value → Heap → Prop := fun _ j y _ => ∃ t, y = .int (f j) t
def FS (f : Nat → Str) : (Addr → Prop) → Nat → Value → Heap → Prop := fun _ j y _ => ∃ t, y = .str (f j) t
/-- an own list of a family -/
def FL (H : Heap) (P : (Addr → Prop) → Nat → Value → Heap → Prop) (n : Nat) (R : Addr → Prop) (h : Heap) (a : Addr) : Prop := R a ∧ ∃ ys, Lst H h a ys ∧ ys.size = n ∧ ∀ j y, ys[j]? = some y → P R j y h
def Row (H : Heap) (P : Nat → (Addr → Prop) → Nat → Value → Heap → Prop) (n : Nat → Nat) : (Addr → Prop) → Nat → Value → Heap → Prop := fun R j y h => ∃ a, y = .ref a ∧ FL H (P j) (n j) R h a

section
variable {H : Heap} {P : (Addr → Prop) → Nat → Value → Heap → Prop}
theorem FI.fam {f : Nat → Int} : Fam H (FI f) := ⟨fun _ _ _ _ _ _ x _ _ => x, fun _ _ _ _ _ x _ => x⟩
theorem FS.fam {f : Nat → Str} : Fam H (FS f) := ⟨fun _ _ _ _ _ _ x _ _ => x, fun _ _ _ _ _ x _ => x⟩
theorem FL.calm (W : Fam H P) {n : Nat} {R S : Addr → Prop} {h1 h2 : Heap} {a : Addr} (x : FL H P n R h1 a) (c : Calm H S h1 h2) (hS : ∀ b, S b → NotL h1 b ∨ ¬ R b) : FL H P n R h2 a := by
  obtain ⟨hr, ys, l, hn, hp⟩ := x
  exact ⟨hr, ys, l.calm c fun q => (hS a q).elim (fun r => r _ l.isList) fun r => r hr, hn, fun j y e => W.calm _ _ _ _ _ _ (hp j y e) c hS⟩
theorem FL.mono (W : Fam H P) {n : Nat} {R R' : Addr → Prop} {h : Heap} {a : Addr} (x : FL H P n R h a) (hR : ∀ a, a < h.objs.size → R a → R' a) : FL H P n R' h a := by
  obtain ⟨hr, ys, l, hn, hp⟩ := x
  exact ⟨hR _ l.lt hr, ys, l, hn, fun j y e => W.mono _ _ _ _ _ (hp j y e) hR⟩
theorem FL.nil (W : Fam H P) {n : Nat} {R : Addr → Prop} {h1 h2 : Heap} {a : Addr} (x : FL H P n R h1 a) (c : Calm H Nil h1 h2) : FL H P n R h2 a := x.calm W c fun _ q => q.elim
theorem Row.fam {P : Nat → (Addr → Prop) → Nat → Value → Heap → Prop} {n : Nat → Nat} (W : ∀ j, Fam H (P j)) : Fam H (Row H P n) :=
  ⟨fun R j y h1 h2 S ⟨a, e, x⟩ c hS => ⟨a, e, x.calm (W j) c hS⟩, fun R R' j y h ⟨a, e, x⟩ hR => ⟨a, e, x.mono (W j) hR⟩⟩
theorem FL.own (W : Fam H P) {n : Nat} {R : Addr → Prop} {h1 h2 : Heap} {a : Addr} {env : Env} {m cm : Str → Option Value} {S : Addr → Prop} (x : FL H P n R h1 a) (F : Frm H env m cm h1) (c : Calm H S h1 h2) (hS : ∀ b, S b → Own env b ∨ ¬ R b) : FL H P n R h2 a :=
  x.calm W c fun b q => (hS b q).imp (F.notL b) id
theorem FL.loc (W : Fam H P) {n : Nat} {R : Addr → Prop} {h1 h2 : Heap} {a : Addr} {env : Env} {m cm : Str → Option Value} (x : FL H P n R h1 a) (F : Frm H env m cm h1) (c : Calm H (At env.locals) h1 h2) : FL H P n R h2 a :=
  x.calm W c fun b q => .inl (F.notL b (.inl q))
theorem FL.cel (W : Fam H P) {n : Nat} {R : Addr → Prop} {h1 h2 : Heap} {a : Addr} {env : Env} {m cm : Str → Option Value} {z : Str} {k : Addr} (x : FL H P n R h1 a) (F : Frm H env m cm h1) (hk : env.cells.lookup z = some k) (c : Calm H (At k) h1 h2) : FL H P n R h2 a :=
  x.calm W c fun b q => .inl (F.notL b (.inr ⟨z, q ▸ mem_of_lookup hk⟩))
end

/-- what a loop is fed with -/
def Feed (prog : Program) (w : World) (H : Heap) (A : Around) (cl : List (Str × Addr)) (I : Addr) (n : Nat) (P : Nat → Value → Prop) (h : Heap) : Prop :=
  ∃ St fp, Src prog w H A I n P St fp ∧ St 0 h ∧ ∀ b, fp b → b < h.objs.size ∧ ∀ p ∈ cl, p.2 ≠ b

section
variable {prog : Program} {w : World} {A : Around} {E : Value → Shared → Prop} {s : Shared} {H h h1 h2 : Heap} {mg mb : Str → Option Value} {env : Env} {m cm : Str → Option Value}

theorem feed_list {cl : List (Str × Addr)} {l : Addr} {vs : Array Value} {P : Nat → Value → Prop} {Q : Value → Shared → Prop} (hh : A.handled = none) (hH : H.objs.size ≤ s.heap.objs.size) (ll : Lst H s.heap l vs) (hP : ∀ i v, vs[i]? = some v → P i v) (hcl : ∀ p ∈ cl, p.2 ≠ l)
    (h : ∀ I h', s.heap.objs.size ≤ I → Ext H Nil s.heap h' → Feed prog w H A cl I vs.size P h' → Q (.ref I) (put s h' s.toks)) : wpAny (model prog w) A (pyIter (.ref l)) Q E s := by
  refine wpAny_pyIter_list ll.isList ?_
  have XI : Ext H Nil s.heap (s.heap.push { cls := .type "list_iterator", data := .fields #[.ref l, .int 0 0] }) := Ext.push _
  have W := Src.list (prog := prog) (w := w) (H := H) (A := A) hh (I := s.heap.objs.size) (l := l) vs hH ll.1
  have FD : Feed prog w H A cl s.heap.objs.size vs.size P (s.heap.push { cls := .type "list_iterator", data := .fields #[.ref l, .int 0 0] }) :=
    ⟨fun i h' => h'.IsListIter s.heap.objs.size l i ∧ h'.IsList l vs, At l,
      { item := fun i s Q E hi st hQ => W.item i s Q E hi st fun v h' tk' e => hQ v h' tk' (hP i v e), done := W.done, self := W.self, lasts := W.lasts, iter := W.iter },
      ⟨⟨_, Heap.get?_push_size _ rfl, rfl, rfl⟩, (ll.nil XI.toCalm).isList⟩, fun b q => by
        have q' : b = l := q
        subst q'
        exact ⟨Nat.lt_of_lt_of_le ll.lt XI.size, hcl⟩⟩
  exact h _ _ (Nat.le_refl _) XI FD

theorem feed_range {cl : List (Str × Addr)} {n : Nat} {t : Tok} {Q : Value → Shared → Prop} (hh : A.handled = none) (hH : H.objs.size ≤ s.heap.objs.size) (hn : n ≤ 1000)
    (h : ∀ I h' tk, s.heap.objs.size ≤ I → Ext H Nil s.heap h' → Feed prog w H A cl I n (fun i v => ∃ t, v = .int (i : Nat) t) h' → Q (.ref I) (put s h' tk)) :
    wpAny (model prog w) A (call (.type "range") [.int (n : Nat) t]) (fun v s₁ => wpAny (model prog w) A (pyIter v) Q E s₁) E s :=
  range_iter (H := H) hn fun I h' tk hI X hr => h I h' tk hI X ⟨_, _, Src.range hh n (Nat.le_trans hH hI), hr, fun _ q => q.elim⟩

/-- a name is stored, whatever it is -/
theorem st_any {x : Str} {v : Value} {loc : Bool} {Q : Unit → Shared → Prop} (F : Frm H env m cm s.heap) (hk : env.scope.kind = .function) (hl : env.kindOf x = some (if loc then .local else .cell)) (hc : loc = false → ∃ c, env.cells.lookup x = some c)
    (h : ∀ m' cm' h' tk', Frm H env m' cm' h' → (if loc then m' x = some v ∧ cm' = cm else cm' x = some v ∧ ∀ z, z ≠ x → cm' z = cm z) → Ext H (Own env) s.heap h' → (loc = true → Ext H (At env.locals) s.heap h') → (∀ c, env.cells.lookup x = some c → loc = false → Ext H (At c) s.heap h') → Q () (put s h' tk')) :
    wpAny (model prog w) A (storeName env x v) Q E s := by
  cases loc with
  | true => exact st_local F hk hl fun h' tk' F' X' => h _ _ h' tk' F' ⟨upd_self, rfl⟩ (X'.mono Own.loc) (fun _ => X') (fun _ _ q => by cases q)
  | false =>
    obtain ⟨c, hc⟩ := hc rfl
    exact st_cell F hk hl hc fun h' tk' F' X' => h _ _ h' tk' F' ⟨upd_self, fun z hz => upd_ne hz⟩ (X'.mono (Own.cell hc)) (fun q => by cases q) fun c' hc' _ => by rw [hc] at hc'; cases hc'; exact X'
end
end Mine

namespace Mine
open PySem PySem.W PySem.Spec PySem.Calls PyProof.Rows

/-- what a comprehension asks of its scope -/
structure CompOk (scope : Scope) (env : Env) (cl : List (Str × Addr)) : Prop where
  clos : closureFor scope env = pure cl
  sub : ∀ p ∈ cl, p ∈ env.cells
  nd : ((cellsFrom 0 scope.names cl).map (·.1)).Nodup
  free : ∀ p ∈ cl, isCellOf scope p.1 = false
  kind : scope.kind = .function
  names : ∀ x ∈ scope.names, x.2 = .local → scope.names.lookup x.1 = some .local

section
variable {prog : Program} {w : World} {A : Around} {E : Value → Shared → Prop} {s : Shared} {H h h1 h2 : Heap} {mg mb : Str → Option Value} {env : Env} {m cm : Str → Option Value} {cl : List (Str × Addr)} {scope : Scope}

theorem CompOk.cells (K : CompOk scope env cl) {C : Addr} {x : Str} {c : Addr} (hx : isCellOf scope x = true) (h : (cenvOf scope env cl C).cells.lookup x = some c) : C + 1 ≤ c := by
  rcases cellsFrom_mem _ _ _ _ _ (mem_of_lookup h) with q | ⟨_, q⟩
  · have := K.free _ q; rw [hx] at this; cases this
  · exact q

set_option maxHeartbeats 1000000 in
/-- a comprehension that keeps every item: what it makes of each -/
theorem comp_map {elt iter : Expr} {pos px ipos : Pos} {x : Str} {loc : Bool} {n : Nat} {P : Nat → Value → Prop} {PY : (Addr → Prop) → Nat → Value → Heap → Prop} {use : Option (Value → Sem Unit)} {Q : Value → Shared → Prop}
    (hh : A.handled = none) (G0 : Good H s.heap) (F : Frm H env m cm s.heap) (K : CompOk scope env cl) (hn : n ≤ 1000)
    (hs : ∀ x, foldedSetIterable iter env x = pure x)
    (hfirst : wpAny (model prog w) A (eval iter env) (fun x s₁ => wpAny (model prog w) A (pyIter x) (fun it s₂ => ∃ I h2 tk2, it = .ref I ∧ s₂ = put s h2 tk2 ∧ s.heap.objs.size ≤ I ∧ Ext H Nil s.heap h2 ∧ Feed prog w H A cl I n P h2) E s₁) E s)
    (hx : ∀ C, (cenvOf scope env cl C).kindOf x = some (if loc then .local else .cell)) (hxc : loc = false → isCellOf scope x = true ∧ ∀ C, ∃ c, (cenvOf scope env cl C).cells.lookup x = some c)
    (W : Fam H PY)
    (turn : ∀ C i v m' cm' (s₁ : Shared) (Q' : Value → Shared → Prop) (E' : Value → Shared → Prop), i < n → P i v → Frm H (cenvOf scope env cl C) m' cm' s₁.heap → (if loc then m' x = some v else cm' x = some v) → (∀ z, z ≠ x → isCellOf scope z = false → cm' z = cm z) →
      Ext H Nil s.heap s₁.heap → Good H s₁.heap → (∀ y h' tk', Ext H Nil s₁.heap h' → PY (fun a => s₁.heap.objs.size ≤ a) i y h' → Q' y (put s₁ h' tk')) → wpAny (model prog w) A (eval elt (cenvOf scope env cl C)) Q' E' s₁)
    (fin : ∀ D C h' tk', Ext H Nil s.heap h' → FL H PY n (fun a => s.heap.objs.size ≤ a) h' D → (∃ m', h'.Ns C m') → s.heap.objs.size ≤ C → compPost (model prog w) A E use Q (.ref D) C (.ok .next) (put s h' tk'))
    : wpAny (model prog w) A (comprehension (.ListComp elt [⟨.Name x px, iter, [], 0⟩] scope pos) scope env ipos (newList []) false (eval iter env) use) Q E s := by
  refine wpAny_comprehension_free rfl hs K.clos K.kind K.names (wpAny_mono hfirst (fun xv s₁ h₁ => wpAny_mono h₁ (fun it s₂ h₂ => ?_) fun _ _ e => e) fun _ _ e => e)
  obtain ⟨I, h2, tk2, rfl, rfl, hI, X2, St, fp, Wsrc, st0, hfp⟩ := h₂
  have F2 := F.nil X2.toCalm
  refine comp_core (n := n) (Res := fun C D i ys h' => (h2.objs.size ≤ D ∧ D < C) ∧ ∃ m' cm', Frm H (cenvOf scope env cl C) m' cm' h' ∧ (∀ z, z ≠ x → isCellOf scope z = false → cm' z = cm z) ∧ Good H h' ∧ ys.size = i ∧ ∀ j y, ys[j]? = some y → PY (fun a => D < a) j y h')
    Wsrc (Nat.le_trans hn (by decide)) st0 X2 hI (Nat.le_trans G0.size X2.size) F2 K.sub K.nd K.free hfp ?start ?frm ?calm ?grow ?turn (fun v => rfl) ?fin
  case start =>
    intro C D h' hD hDC F' X'
    exact ⟨⟨hD, hDC⟩, _, _, F', (fun z _ hz => by unfold compCm; rw [hz]; rfl), X'.good (X2.good G0), rfl, fun j y e => by simp at e⟩
  case frm =>
    rintro C D i ys h' ⟨_, m', cm', F', _⟩
    exact ⟨m', F'.ns⟩
  case calm =>
    rintro C D i ys h1 h2 ⟨hb, m', cm', F', hc, G', hy, hp⟩ c
    exact ⟨hb, m', cm', F'.nil c, hc, c.good G', hy, fun j y e => W.calm _ _ _ _ _ _ (hp j y e) c fun _ q => q.elim⟩
  case grow =>
    rintro C D i ys ha hb' ⟨hb, m', cm', F', hc, G', hy, hp⟩ c
    refine ⟨hb, m', cm', F'.calm c fun b hown q => ?_, hc, c.good G', hy, fun j y e => W.calm _ _ _ _ _ _ (hp j y e) c fun b q => .inr fun r => ?_⟩
    · have q' : b = D := q
      subst q'
      rcases hown with r | ⟨z, r⟩
      · have r' : b = C := r
        exact Nat.lt_irrefl _ (r' ▸ hb.2)
      · rcases cellsFrom_mem _ _ _ _ _ r with r | ⟨_, r⟩
        · exact Nat.lt_irrefl _ (Nat.lt_of_lt_of_le (F2.lt _ (.inr ⟨z, K.sub _ r⟩)) hb.1)
        · exact Nat.lt_irrefl _ (Nat.lt_of_lt_of_le (Nat.lt_trans hb.2 (Nat.lt_succ_self _)) r)
    · have q' : b = D := q
      subst q'; exact Nat.lt_irrefl _ r
  case turn =>
    rintro C D i v ys s₁ Kq E' hD hDC hi hv ⟨hDD, m', cm', F', hc, G', hy, hp⟩ X' hlt hq
    refine wpAny_assign_Name (st_any F' K.kind (hx C) (fun q => (hxc q).2 C) fun m2 cm2 h3 tk3 F3 hm3 X3 XL XC => ?_)
    rw [List.forIn_nil]
    refine wpAny_pure (ite_t rfl ?_)
    have XS : Ext H (fun b => Own (cenvOf scope env cl C) b ∧ h2.objs.size ≤ b) s₁.heap h3 := by
      cases hl : loc with
      | true => exact (XL hl).mono fun b q => ⟨.inl q, by have q' : b = C := q; rw [q']; exact Nat.le_of_lt (Nat.lt_of_le_of_lt hD hDC)⟩
      | false =>
        obtain ⟨c, hcc⟩ := (hxc hl).2 C
        exact (XC c hcc hl).mono fun b q => ⟨.inr ⟨x, (by have q' : b = c := q; rw [q']; exact mem_of_lookup hcc)⟩, by
          have q' : b = c := q
          have := K.cells (hxc hl).1 hcc
          rw [q']
          exact Nat.le_trans (Nat.le_of_lt (Nat.lt_of_le_of_lt hD hDC)) (Nat.le_of_succ_le this)⟩
    have X03 : Ext H Nil s.heap h3 := X'.trans' XS fun b q => Nat.le_trans X2.size q.2
    have hc3 : ∀ z, z ≠ x → isCellOf scope z = false → cm2 z = cm z := fun z hz hz' => by
      cases hl : loc with
      | true => rw [hl] at hm3; rw [hm3.2]; exact hc z hz hz'
      | false => rw [hl] at hm3; rw [hm3.2 z hz]; exact hc z hz hz'
    refine turn C i v m2 cm2 _ _ _ hi hv F3 ?_ hc3 X03 (XS.good G') fun y h4 tk4 X4 hy4 => ?_
    · cases hl : loc with
      | true => rw [hl] at hm3; exact hm3.1
      | false => rw [hl] at hm3; exact hm3.1
    · refine hq (some y) _ _ (XS.trans X4.to) ⟨hDD, m2, cm2, F3.nil X4.toCalm, hc3, X4.good (XS.good G'), by rw [Array.size_push, hy], fun j y' e => ?_⟩
      rw [Array.getElem?_push] at e
      split at e
      · rename_i hj
        cases e
        rw [hj, hy]
        exact W.mono _ _ _ _ _ hy4 fun a _ q => Nat.lt_of_lt_of_le hlt (Nat.le_trans XS.size q)
      · refine W.calm _ _ _ _ _ _ (hp j y' e) (XS.trans X4.to).toCalm fun b q => .inl (F'.notL b q.1)
  case fin =>
    rintro C D h' tk' ys hD hDC lD hys ⟨_, m', cm', F', hc, G', hy, hp⟩ X'
    refine fin D C h' tk' X' ⟨Nat.le_trans X2.size hD, ys, lD, hy, fun j y e => W.mono _ _ _ _ _ (hp j y e) fun a _ q => Nat.le_trans (Nat.le_trans X2.size hD) (Nat.le_of_lt q)⟩ ⟨m', F'.ns⟩ (Nat.le_trans (Nat.le_trans X2.size hD) (Nat.le_of_lt hDC))
end
end Mine

namespace Mine
open PySem PySem.W PySem.Spec PySem.Calls PyProof.Rows

section
variable {prog : Program} {w : World} {A : Around} {E : Value → Shared → Prop} {s : Shared} {H h h1 h2 : Heap} {mg mb : Str → Option Value} {env : Env} {m cm : Str → Option Value} {cl : List (Str × Addr)} {scope : Scope}

/-- how a comprehension of the frame ends, its value left -/
theorem end_none {h0 : Heap} {D C : Addr} {h' : Heap} {tk' : Nat} {Q : Value → Shared → Prop} (hH : H.objs.size ≤ h0.objs.size) (X : Ext H Nil h0 h') (hns : ∃ m', h'.Ns C m') (hC : h0.objs.size ≤ C)
    (k : ∀ h'', Ext H Nil h0 h'' → Ext H (At C) h' h'' → (∀ vs, ¬ h'.IsList C vs) → Q (.ref D) (put s h'' tk')) : compPost (model prog w) A E none Q (.ref D) C (.ok .next) (put s h' tk') := by
  obtain ⟨m', ns⟩ := hns
  refine ⟨m', ns, fun h'' hs => ?_⟩
  obtain ⟨o, es, ep, e, hd, _⟩ := id ns
  have X' : Ext H (At C) h' h'' := Ext.ofSame hs (Nat.le_trans hH hC) e fun vs q => by rw [hd] at q; cases q
  refine k h'' (X.trans' X' fun b q => by have q' : b = C := q; rw [q']; exact hC) X' fun vs l => ?_
  obtain ⟨o', e', _, n', hd'⟩ := l
  rw [e] at e'; cases e'; rw [hd] at hd'; cases hd'

/-- ... and its value stored in a local -/
theorem end_use {h0 : Heap} {D C : Addr} {h' : Heap} {tk' : Nat} {t : Str} {pt : Pos} {Q : Value → Shared → Prop} (hH : H.objs.size ≤ h0.objs.size) (F : Frm H env m cm h0) (hk : env.scope.kind = .function) (hl : env.kindOf t = some .local) (X : Ext H Nil h0 h') (hns : ∃ m', h'.Ns C m') (hC : h0.objs.size ≤ C)
    (k : ∀ h'' tk'', Frm H env (upd m t (.ref D)) cm h'' → Ext H (At env.locals) h0 h'' → Ext H (fun b => b = env.locals ∨ b = C) h' h'' → (∀ b vs, b = env.locals ∨ b = C → ¬ h'.IsList b vs) → Q .none (put s h'' tk'')) :
    compPost (model prog w) A E (some (assign (.Name t pt) env)) Q (.ref D) C (.ok .next) (put s h' tk') := by
  obtain ⟨m', ns⟩ := hns
  show wpAny (model prog w) A (assign (.Name t pt) env (.ref D)) _ E _
  have F' := F.nil X.toCalm
  have hLC : env.locals ≠ C := fun q => Nat.lt_irrefl _ (Nat.lt_of_lt_of_le (F.lt _ (.inl rfl)) (q ▸ hC))
  refine wpAny_assign_Name (st_local F' hk hl fun h2 tk2 F2 X2 => ?_)
  obtain ⟨o, es, ep, e, hd, hrest⟩ := id ns
  have eC : h2.get? C = some o := X2.keep C o (fun q => hLC q.symm) (Nat.le_trans hH hC) (Solid.of fun vs q => by rw [hd] at q; cases q) e
  refine ⟨m', ns.at' fun o' e' => by rw [e] at e'; cases e'; exact eC, fun h'' hs => ?_⟩
  have X3 : Ext H (At C) h2 h'' := Ext.ofSame hs (Nat.le_trans hH hC) eC fun vs q => by rw [hd] at q; cases q
  refine k h'' tk2 (F2.calm X3.toCalm fun b hb q => ?_) ((X.to.trans X2).trans' X3 fun b q => by have q' : b = C := q; rw [q']; exact hC) ((X2.mono fun b q => .inl q).trans (X3.mono fun b q => .inr q)) ?_
  · have q' : b = C := q
    subst q'
    exact Nat.lt_irrefl _ (Nat.lt_of_lt_of_le (F.lt _ hb) hC)
  · rintro b vs (rfl | rfl) l
    · exact F'.notL _ (.inl rfl) vs l
    · obtain ⟨o', e', _, n', hd'⟩ := l
      rw [e] at e'; cases e'; rw [hd] at hd'; cases hd'

/-- a comprehension of one clause whose value is used where it stands -/
theorem eval_comp {elt iter : Expr} {pos px : Pos} {x : Str} {loc : Bool} {n : Nat} {P : Nat → Value → Prop} {PY : (Addr → Prop) → Nat → Value → Heap → Prop} {Q : Value → Shared → Prop}
    (hh : A.handled = none) (G0 : Good H s.heap) (F : Frm H env m cm s.heap) (K : CompOk scope env cl) (hn : n ≤ 1000)
    (hfirst : wpAny (model prog w) A (eval iter env) (fun x s₁ => wpAny (model prog w) A (pyIter x) (fun it s₂ => ∃ I h2 tk2, it = .ref I ∧ s₂ = put s h2 tk2 ∧ s.heap.objs.size ≤ I ∧ Ext H Nil s.heap h2 ∧ Feed prog w H A cl I n P h2) E s₁) E s)
    (hx : ∀ C, (cenvOf scope env cl C).kindOf x = some (if loc then .local else .cell)) (hxc : loc = false → isCellOf scope x = true ∧ ∀ C, ∃ c, (cenvOf scope env cl C).cells.lookup x = some c)
    (W : Fam H PY)
    (turn : ∀ C i v m' cm' (s₁ : Shared) (Q' : Value → Shared → Prop) (E' : Value → Shared → Prop), i < n → P i v → Frm H (cenvOf scope env cl C) m' cm' s₁.heap → (if loc then m' x = some v else cm' x = some v) → (∀ z, z ≠ x → isCellOf scope z = false → cm' z = cm z) →
      Ext H Nil s.heap s₁.heap → Good H s₁.heap → (∀ y h' tk', Ext H Nil s₁.heap h' → PY (fun a => s₁.heap.objs.size ≤ a) i y h' → Q' y (put s₁ h' tk')) → wpAny (model prog w) A (eval elt (cenvOf scope env cl C)) Q' E' s₁)
    (fin : ∀ D h' tk', Ext H Nil s.heap h' → FL H PY n (fun a => s.heap.objs.size ≤ a) h' D → Q (.ref D) (put s h' tk'))
    (hs : ∀ x, foldedSetIterable iter env x = pure x := by intro _; rfl) :
    wpAny (model prog w) A (eval (.ListComp elt [⟨.Name x px, iter, [], 0⟩] scope pos) env) Q E s := by
  rw [eval_ListComp]
  refine comp_map hh G0 F K hn hs hfirst hx hxc W turn fun D C h' tk' X fl hns hC => ?_
  exact end_none G0.size X hns hC fun h'' X'' XC hno => fin D h'' tk' X'' (fl.calm W XC.toCalm fun b q => .inl fun vs l => by have q' : b = C := q; subst q'; exact hno vs l)

/-- the items that pass a test -/
theorem comp_filter {iter test : Expr} {pos px pe ipos : Pos} {x : Str} {n : Nat} {f : Nat → Int} {p : Nat → Bool} {use : Option (Value → Sem Unit)} {Q : Value → Shared → Prop}
    (hh : A.handled = none) (G0 : Good H s.heap) (F : Frm H env m cm s.heap) (K : CompOk scope env cl) (hn : n ≤ 1000)
    (hs : ∀ x, foldedSetIterable iter env x = pure x)
    (hfirst : wpAny (model prog w) A (eval iter env) (fun x s₁ => wpAny (model prog w) A (pyIter x) (fun it s₂ => ∃ I h2 tk2, it = .ref I ∧ s₂ = put s h2 tk2 ∧ s.heap.objs.size ≤ I ∧ Ext H Nil s.heap h2 ∧ Feed prog w H A cl I n (fun i v => ∃ t, v = .int (f i) t) h2) E s₁) E s)
    (hx : ∀ C, (cenvOf scope env cl C).kindOf x = some .local)
    (turn : ∀ C i t m' cm' (s₁ : Shared) (Q' : Bool → Shared → Prop) (E' : Value → Shared → Prop), i < n → Frm H (cenvOf scope env cl C) m' cm' s₁.heap → m' x = some (.int (f i) t) → (∀ z, isCellOf scope z = false → cm' z = cm z) →
      Ext H Nil s.heap s₁.heap → Good H s₁.heap → (∀ h' tk', Ext H Nil s₁.heap h' → Q' (p i) (put s₁ h' tk')) → wpAny (model prog w) A (isTrue test (cenvOf scope env cl C) (eval test (cenvOf scope env cl C))) Q' E' s₁)
    (hxd : (x == ("__debug__" : Str)) = false)
    (fin : ∀ D C h' tk' ys, Ext H Nil s.heap h' → Lst H h' D ys → s.heap.objs.size ≤ D → IntL ys (((List.range n).filter p).map f) → (∃ m', h'.Ns C m') → s.heap.objs.size ≤ C → compPost (model prog w) A E use Q (.ref D) C (.ok .next) (put s h' tk'))
    : wpAny (model prog w) A (comprehension (.ListComp (.Name x pe) [⟨.Name x px, iter, [test], 0⟩] scope pos) scope env ipos (newList []) false (eval iter env) use) Q E s := by
  refine wpAny_comprehension_free rfl hs K.clos K.kind K.names (wpAny_mono hfirst (fun xv s₁ h₁ => wpAny_mono h₁ (fun it s₂ h₂ => ?_) fun _ _ e => e) fun _ _ e => e)
  obtain ⟨I, h2, tk2, rfl, rfl, hI, X2, St, fp, Wsrc, st0, hfp⟩ := h₂
  have F2 := F.nil X2.toCalm
  refine comp_core (n := n) (Res := fun C D i ys h' => (h2.objs.size ≤ D ∧ D < C) ∧ ∃ m' cm', Frm H (cenvOf scope env cl C) m' cm' h' ∧ (∀ z, isCellOf scope z = false → cm' z = cm z) ∧ Good H h' ∧ IntL ys (((List.range i).filter p).map f))
    Wsrc (Nat.le_trans hn (by decide)) st0 X2 hI (Nat.le_trans G0.size X2.size) F2 K.sub K.nd K.free hfp ?start ?frm ?calm ?grow ?turn (fun v => rfl) ?fin
  case start =>
    intro C D h' hD hDC F' X'
    exact ⟨⟨hD, hDC⟩, _, _, F', (fun z hz => by unfold compCm; rw [hz]; rfl), X'.good (X2.good G0), .nil⟩
  case frm =>
    rintro C D i ys h' ⟨_, m', cm', F', _⟩
    exact ⟨m', F'.ns⟩
  case calm =>
    rintro C D i ys h1 h2 ⟨hb, m', cm', F', hc, G', hy⟩ c
    exact ⟨hb, m', cm', F'.nil c, hc, c.good G', hy⟩
  case grow =>
    rintro C D i ys ha hb' ⟨hb, m', cm', F', hc, G', hy⟩ c
    refine ⟨hb, m', cm', F'.calm c fun b hown q => ?_, hc, c.good G', hy⟩
    have q' : b = D := q
    subst q'
    rcases hown with r | ⟨z, r⟩
    · have r' : b = C := r
      exact Nat.lt_irrefl _ (r' ▸ hb.2)
    · rcases cellsFrom_mem _ _ _ _ _ r with r | ⟨_, r⟩
      · exact Nat.lt_irrefl _ (Nat.lt_of_lt_of_le (F2.lt _ (.inr ⟨z, K.sub _ r⟩)) hb.1)
      · exact Nat.lt_irrefl _ (Nat.lt_of_lt_of_le (Nat.lt_trans hb.2 (Nat.lt_succ_self _)) r)
  case turn =>
    rintro C D i v ys s₁ Kq E' hD hDC hi ⟨t, rfl⟩ ⟨hDD, m', cm', F', hc, G', hy⟩ X' hlt hq
    refine wpAny_assign_Name (st_local F' K.kind (hx C) fun h3 tk3 F3 X3 => ?_)
    have hCs : s.heap.objs.size ≤ C := Nat.le_trans X2.size (Nat.le_of_lt (Nat.lt_of_le_of_lt hD hDC))
    have XS : Ext H (fun b => Own (cenvOf scope env cl C) b ∧ h2.objs.size ≤ b) s₁.heap h3 := X3.mono fun b q => ⟨.inl q, by have q' : b = C := q; rw [q']; exact Nat.le_of_lt (Nat.lt_of_le_of_lt hD hDC)⟩
    have X03 : Ext H Nil s.heap h3 := X'.trans' XS fun b q => Nat.le_trans X2.size q.2
    rw [List.forIn_cons]
    refine wpAny_bind (show wpAny (model prog w) A (isTrue test (cenvOf scope env cl C) (eval test (cenvOf scope env cl C)) >>= fun ok => pure (ForInStep.yield ok)) _ _ _ from wpAny_bind ?_)
    refine turn C i t _ cm' _ _ _ hi F3 upd_self hc X03 (XS.good G') fun h4 tk4 X4 => ?_
    refine wpAny_pure ?_
    dsimp only
    rw [List.forIn_nil]
    refine wpAny_pure ?_
    have F4 := F3.nil X4.toCalm
    have G4 := X4.good (XS.good G')
    cases hp : p i with
    | true =>
      refine ite_t rfl (nm_local F4 K.kind (hx C) upd_self (hq (some _) _ _ (XS.trans X4.to) ⟨hDD, _, cm', F4, hc, G4, ?_⟩) hxd)
      rw [List.range_succ, List.filter_append, List.map_append]
      simp only [List.filter_cons, hp, if_true, List.filter_nil, List.map_cons, List.map_nil]
      refine ⟨by rw [Array.size_push, hy.1, List.length_append]; rfl, fun j z hz => ?_⟩
      rw [Array.getElem?_push]
      by_cases hj : j = ys.size
      · rw [if_pos hj]
        rw [List.getElem?_append_right (by rw [hj, hy.1]; exact Nat.le_refl _), hj, hy.1, Nat.sub_self] at hz
        cases hz
        exact ⟨t, rfl⟩
      · rw [if_neg hj]
        have : j < ys.size := by
          rcases Nat.lt_or_ge j (ys.size + 1) with q | q
          · omega
          · rw [List.getElem?_eq_none (by rw [List.length_append, ← hy.1]; simpa using q)] at hz; cases hz
        rw [List.getElem?_append_left (by rw [← hy.1]; exact this)] at hz
        exact hy.2 j z hz
    | false =>
      refine ite_f rfl (hq none _ _ (XS.trans X4.to) ⟨hDD, _, cm', F4, hc, G4, ?_⟩)
      rw [List.range_succ, List.filter_append]
      simp only [List.filter_cons, hp, Bool.false_eq_true, if_false, List.filter_nil, List.append_nil]
      exact hy
  case fin =>
    rintro C D h' tk' ys hD hDC lD hys ⟨_, m', cm', F', hc, G', hy⟩ X'
    exact fin D C h' tk' ys X' lD (Nat.le_trans X2.size hD) hy ⟨m', F'.ns⟩ (Nat.le_trans (Nat.le_trans X2.size hD) (Nat.le_of_lt hDC))
end
end Mine

namespace Mine
open PySem PySem.W PySem.Spec PySem.Calls PyProof.Rows

/-- the law's frame -/
structure LawEnv (env : Env) (C : Str → Addr) : Prop where
  k : env.scope.kind = .function
  g : env.globals = mainGlobals
  b : env.builtins = builtinsNs
  code : env.code = .ref 109
  q : env.qual ++ "<lambda>" = qLaw
  i : interactive env = false
  k_script : env.kindOf "script" = some .local
  k_numbers : env.kindOf "numbers" = some .cell
  k_ladders : env.kindOf "ladders" = some .cell
  k_number : env.kindOf "number" = some .local
  k_labels : env.kindOf "labels" = some .cell
  k_ladder : env.kindOf "ladder" = some .local
  k_k : env.kindOf "k" = some .local
  k_apart : env.kindOf "apart" = some .cell
  k_row : env.kindOf "row" = some .local
  k_place : env.kindOf "place" = some .cell
  k_orders : env.kindOf "orders" = some .local
  k_order : env.kindOf "order" = some .local
  k_grown : env.kindOf "grown" = some .local
  k_way : env.kindOf "way" = some .local
  k_came : env.kindOf "came" = some .cell
  k_stops : env.kindOf "stops" = some .cell
  k_now : env.kindOf "now" = some .local
  k_due : env.kindOf "due" = some .local
  k_step : env.kindOf "step" = some .cell
  k_weight : env.kindOf "weight" = some .local
  k_start : env.kindOf "start" = some .local
  k_first : env.kindOf "first" = some .cell
  k_stop : env.kindOf "stop" = some .local
  k_side : env.kindOf "side" = some .local
  k_alike : env.kindOf "alike" = some .local
  k_near : env.kindOf "near" = some .local
  k_names : env.kindOf "names" = some .cell
  k_size : env.kindOf "size" = some .cell
  k_len : env.kindOf "len" = some .globalImplicit
  k_law_labels : env.kindOf "_law_labels" = some .globalImplicit
  k_law_ladder : env.kindOf "_law_ladder" = some .globalImplicit
  k_range : env.kindOf "range" = some .globalImplicit
  k_insort_left : env.kindOf "insort_left" = some .globalImplicit
  k_sum : env.kindOf "sum" = some .globalImplicit
  k_bisect_right : env.kindOf "bisect_right" = some .globalImplicit
  k_sorted : env.kindOf "sorted" = some .globalImplicit
  c_numbers : env.cells.lookup ("numbers" : Str) = some (C "numbers")
  c_ladders : env.cells.lookup ("ladders" : Str) = some (C "ladders")
  c_labels : env.cells.lookup ("labels" : Str) = some (C "labels")
  c_apart : env.cells.lookup ("apart" : Str) = some (C "apart")
  c_place : env.cells.lookup ("place" : Str) = some (C "place")
  c_came : env.cells.lookup ("came" : Str) = some (C "came")
  c_stops : env.cells.lookup ("stops" : Str) = some (C "stops")
  c_step : env.cells.lookup ("step" : Str) = some (C "step")
  c_first : env.cells.lookup ("first" : Str) = some (C "first")
  c_names : env.cells.lookup ("names" : Str) = some (C "names")
  c_size : env.cells.lookup ("size" : Str) = some (C "size")

set_option maxHeartbeats 2000000 in
theorem lawEnv (pm : Value) (L : Addr) : LawEnv (callEnvC (fdOf (topStmt 17) .none .none pm (.ref 109)) L 110) (fun x => (List.lookup x (callEnvC (fdOf (topStmt 17) .none .none pm (.ref 109)) L 110).cells).getD 0) where
  k := rfl
  g := rfl
  b := rfl
  code := rfl
  q := by
    show (Str.ofString "law" ++ Str.ofString ".<locals>.") ++ Str.ofString "<lambda>" = qLaw
    decide +kernel
  i := rfl
  k_script := rfl
  k_numbers := rfl
  k_ladders := rfl
  k_number := rfl
  k_labels := rfl
  k_ladder := rfl
  k_k := rfl
  k_apart := rfl
  k_row := rfl
  k_place := rfl
  k_orders := rfl
  k_order := rfl
  k_grown := rfl
  k_way := rfl
  k_came := rfl
  k_stops := rfl
  k_now := rfl
  k_due := rfl
  k_step := rfl
  k_weight := rfl
  k_start := rfl
  k_first := rfl
  k_stop := rfl
  k_side := rfl
  k_alike := rfl
  k_near := rfl
  k_names := rfl
  k_size := rfl
  k_len := rfl
  k_law_labels := rfl
  k_law_ladder := rfl
  k_range := rfl
  k_insort_left := rfl
  k_sum := rfl
  k_bisect_right := rfl
  k_sorted := rfl
  c_numbers := rfl
  c_ladders := rfl
  c_labels := rfl
  c_apart := rfl
  c_place := rfl
  c_came := rfl
  c_stops := rfl
  c_step := rfl
  c_first := rfl
  c_names := rfl
  c_size := rfl

theorem relabel_lookup {env : Env} (x : Str) : ∀ names : List (Str × NameKind), (names.map fun (n, k) => if (k == .free && env.scope.kind == .function && env.kindOf n == some .cell) then (n, NameKind.cell) else (n, k)).lookup x =
    (names.lookup x).map fun k => if (k == .free && env.scope.kind == .function && env.kindOf x == some .cell) then NameKind.cell else k
  | [] => rfl
  | (n, k) :: r => by
    have ih := relabel_lookup (env := env) x r
    rw [List.map_cons]
    by_cases hx : x = n
    · subst hx
      by_cases hc : (k == .free && env.scope.kind == .function && env.kindOf x == some .cell) = true
      · simp only [hc, if_true, List.lookup_cons, beq_self_eq_true, Option.map_some]
      · simp only [hc, if_false, List.lookup_cons, beq_self_eq_true, Option.map_some]
        simp [hc]
    · have hb : (x == n) = false := by simpa using hx
      by_cases hc : (k == .free && env.scope.kind == .function && env.kindOf n == some .cell) = true
      · simp only [hc, if_true, List.lookup_cons, hb]; exact ih
      · have e : List.lookup x ((n, k) :: r) = List.lookup x r := by rw [List.lookup_cons, hb]
        rw [e, ← ih]
        refine (congrArg (fun p => List.lookup x (p :: r.map _)) (if_neg hc)).trans ?_
        dsimp only
        rw [List.lookup_cons, hb]

section
variable {scope : Scope} {env : Env} {cl : List (Str × Addr)} {C : Addr} {x : Str}
theorem ck_local (h : scope.names.lookup x = some .local) : (cenvOf scope env cl C).kindOf x = some .local := (relabel_lookup x scope.names).trans (by rw [h]; rfl)
theorem ck_cell (h : scope.names.lookup x = some .cell) : (cenvOf scope env cl C).kindOf x = some .cell := (relabel_lookup x scope.names).trans (by rw [h]; rfl)
theorem ck_glob (h : scope.names.lookup x = some .globalImplicit) : (cenvOf scope env cl C).kindOf x = some .globalImplicit := (relabel_lookup x scope.names).trans (by rw [h]; rfl)
theorem ck_free (h : scope.names.lookup x = some .free) (hk : env.scope.kind = .function) (he : env.kindOf x = some .cell) : (cenvOf scope env cl C).kindOf x = some .cell := (relabel_lookup x scope.names).trans (by rw [h, hk, he]; rfl)
end
end Mine

namespace Mine
open PySem PySem.W PySem.Spec PySem.Calls PyProof.Rows
open SeqAt

theorem IntL.cons_inv {v : Value} {vs : List Value} {xs : List Int} (h : IntL (v :: vs).toArray xs) : ∃ x t r, v = .int x t ∧ xs = x :: r ∧ IntL vs.toArray r := by
  cases xs with
  | nil => have := h.1; simp at this
  | cons x r =>
    obtain ⟨t, e⟩ := h.2 0 x rfl
    refine ⟨x, t, r, by simpa using e, rfl, by have := h.1; simpa using this, fun i y hy => ?_⟩
    have := h.2 (i + 1) y hy
    simpa using this
theorem IntL.are : ∀ {vs : List Value} {xs : List Int}, IntL vs.toArray xs → IntsAre vs xs
  | [], xs, h => by
    cases xs with
    | nil => exact .nil
    | cons x r => have := h.1; simp at this
  | v :: vs, xs, h => by
    obtain ⟨x, t, r, rfl, rfl, h'⟩ := h.cons_inv
    exact .cons x t h'.are
theorem IntL.ofAre {vs : List Value} {xs : List Int} (h : IntsAre vs xs) : IntL vs.toArray xs := by
  induction h with
  | nil => exact IntL.nil
  | cons n t _ ih => exact IntL.ofCons ih
theorem IntL.are' {vs : Array Value} {xs : List Int} (h : IntL vs xs) : IntsAre vs.toList xs := IntL.are (by rw [Array.toArray_toList]; exact h)
theorem IntL.ofAre' {vs : Array Value} {xs : List Int} (h : IntsAre vs.toList xs) : IntL vs xs := by have := IntL.ofAre h; rwa [Array.toArray_toList] at this

theorem IntL.append {vs ws : Array Value} {xs ys : List Int} (h1 : IntL vs xs) (h2 : IntL ws ys) : IntL (vs ++ ws) (xs ++ ys) := by
  refine ⟨by rw [Array.size_append, List.length_append, h1.1, h2.1], fun i x hx => ?_⟩
  by_cases hi : i < xs.length
  · rw [List.getElem?_append_left hi] at hx
    rw [Array.getElem?_append_left (by rw [h1.1]; exact hi)]
    exact h1.2 i x hx
  · rw [List.getElem?_append_right (by omega)] at hx
    rw [Array.getElem?_append_right (by rw [h1.1]; omega), h1.1]
    exact h2.2 _ x hx
theorem StrL.append {vs ws : Array Value} {xs ys : List Str} (h1 : StrL vs xs) (h2 : StrL ws ys) : StrL (vs ++ ws) (xs ++ ys) := by
  refine ⟨by rw [Array.size_append, List.length_append, h1.1, h2.1], fun i x hx => ?_⟩
  by_cases hi : i < xs.length
  · rw [List.getElem?_append_left hi] at hx
    rw [Array.getElem?_append_left (by rw [h1.1]; exact hi)]
    exact h1.2 i x hx
  · rw [List.getElem?_append_right (by omega)] at hx
    rw [Array.getElem?_append_right (by rw [h1.1]; omega), h1.1]
    exact h2.2 _ x hx
theorem IntL.take {vs : Array Value} {xs : List Int} (h : IntL vs xs) (k : Nat) : IntL (vs.toList.take k).toArray (xs.take k) := by
  refine ⟨by simp [h.1], fun i x hx => ?_⟩
  rw [List.getElem?_take] at hx
  split at hx
  · rename_i hi
    obtain ⟨t, e⟩ := h.2 i x hx
    exact ⟨t, by simp [List.getElem?_take, hi, e]⟩
  · cases hx
theorem StrL.take {vs : Array Value} {xs : List Str} (h : StrL vs xs) (k : Nat) : StrL (vs.toList.take k).toArray (xs.take k) := by
  refine ⟨by simp [h.1], fun i x hx => ?_⟩
  rw [List.getElem?_take] at hx
  split at hx
  · rename_i hi
    obtain ⟨t, e⟩ := h.2 i x hx
    exact ⟨t, by simp [List.getElem?_take, hi, e]⟩
  · cases hx
theorem IntL.drop {vs : Array Value} {xs : List Int} (h : IntL vs xs) (k : Nat) : IntL (vs.toList.drop k).toArray (xs.drop k) := by
  refine ⟨by simp [h.1], fun i x hx => ?_⟩
  rw [List.getElem?_drop] at hx
  obtain ⟨t, e⟩ := h.2 _ x hx
  exact ⟨t, by simp [e]⟩
theorem StrL.drop {vs : Array Value} {xs : List Str} (h : StrL vs xs) (k : Nat) : StrL (vs.toList.drop k).toArray (xs.drop k) := by
  refine ⟨by simp [h.1], fun i x hx => ?_⟩
  rw [List.getElem?_drop] at hx
  obtain ⟨t, e⟩ := h.2 _ x hx
  exact ⟨t, by simp [e]⟩
theorem IntL.reverse {vs : Array Value} {xs : List Int} (h : IntL vs xs) : IntL vs.toList.reverse.toArray xs.reverse := by
  refine ⟨by simp [h.1], fun i x hx => ?_⟩
  have hi : i < xs.length := by
    rcases Nat.lt_or_ge i xs.length with q | q
    · exact q
    · rw [List.getElem?_eq_none (by simpa using q)] at hx; cases hx
  rw [List.getElem?_reverse hi] at hx
  obtain ⟨t, e⟩ := h.2 _ x hx
  refine ⟨t, ?_⟩
  rw [List.getElem?_toArray, List.getElem?_reverse (by simpa [h.1] using hi)]
  simpa [h.1] using e
theorem IntL.set {vs : Array Value} {xs : List Int} (h : IntL vs xs) {i : Nat} {x : Int} {t : Tok} : IntL (vs.setIfInBounds i (.int x t)) (xs.set i x) := by
  refine ⟨by simp [h.1], fun j y hy => ?_⟩
  rw [List.getElem?_set] at hy
  rw [Array.getElem?_setIfInBounds]
  by_cases hij : i = j
  · subst hij
    rw [if_pos rfl] at hy ⊢
    split at hy
    · rename_i hlt
      cases hy
      rw [if_pos (by rw [h.1]; exact hlt)]
      exact ⟨t, rfl⟩
    · cases hy
  · rw [if_neg hij] at hy ⊢
    exact h.2 j y hy

section
variable {prog : Program} {w : World} {A : Around} {E : Value → Shared → Prop} {s : Shared} {H h h1 h2 : Heap} {mg mb : Str → Option Value} {env : Env}

theorem ep_none {Q : Value → Shared → Prop} (h : Q .none s) : wpAny (model prog w) A (evalPart none env) Q E s := wpAny_pure h
theorem ep_some {e : Expr} {Q : Value → Shared → Prop} (h : wpAny (model prog w) A (eval e env) Q E s) : wpAny (model prog w) A (evalPart (some e) env) Q E s := h

theorem l_addl {l b : Addr} {items items2 : Array Value} {Q : Value → Shared → Prop} (hl : Lst H s.heap l items) (hb : Lst H s.heap b items2) (hs : items.size + items2.size ≤ 1000) (hH : H.objs.size ≤ s.heap.objs.size)
    (h : ∀ a h' tk, Lst H h' a (items ++ items2) → Ext H Nil s.heap h' → s.heap.objs.size ≤ a → Q (.ref a) (put s h' tk)) : wpAny (model prog w) A (binaryOp .Add (.ref l) (.ref b)) Q E s := by
  obtain ⟨n, e⟩ := hl.2
  obtain ⟨n2, e2⟩ := hb.2
  refine P.add_list e e2 (h _ _ s.toks ?_ (Ext.push _) (Nat.le_refl _)) (Nat.le_trans hs (by decide))
  have := Lst.push (H := H) hH (items ++ items2).toList
  rwa [Array.toArray_toList] at this

theorem l_sum {l : Addr} {vs : Array Value} {xs : List Int} {Q : Value → Shared → Prop} (hh : A.handled = none) (hl : s.heap.IsList l vs) (hx : IntL vs xs)
    (h : ∀ h' tk t', Ext H Nil s.heap h' → Q (.int xs.sum t') (put s h' tk)) : wpAny (model prog w) A (call (.builtin "sum") [.ref l]) Q E s := by
  have hi := hx.are'
  obtain ⟨ys, hy⟩ := hi.allInts.items
  have hl' : s.heap.IsList l (intItems ys) := by rw [← hy, Array.toArray_toList]; exact hl
  refine szd (sum_intListG hh hl' fun h' tk t' hk hsz => ?_)
  have e1 : xs = ys.toList.map (·.1) := by
    rw [← nums_intItems, ← hy]
    exact (show numsOf vs.toList.toArray.toList = xs from hi.numsOf).symm
  have e2 : preSum (numAt ys) ys.size = xs.sum := by
    rw [preSum_eq, e1, List.take_of_length_le (by simp)]
  rw [e2]
  exact h h' tk t' (Ext.ofKeeps hsz hk)

theorem l_sorted {l : Addr} {vs : Array Value} {xs : List Int} {Q : Value → Shared → Prop} (hH : H.objs.size ≤ s.heap.objs.size) (hl : s.heap.IsList l vs) (hx : IntL vs xs) (hs : xs.length < 64)
    (h : ∀ a h' vs' ys, Ext H Nil s.heap h' → s.heap.objs.size ≤ a → Lst H h' a vs' → IntL vs' ys → ys.Perm xs → ys.Pairwise (· ≤ ·) → Q (.ref a) (put s h' s.toks)) : wpAny (model prog w) A (call (.builtin "sorted") [.ref l]) Q E s := by
  refine szd (sorted_ints (vs := vs.toList) (by rw [Array.toArray_toList]; exact hl) hx.are' (by have := hx.1; simpa [this] using hs) fun out ns' h1 h2 h3 hsz => ?_)
  obtain ⟨e, he⟩ := sortedAll_at s.heap vs.toList out
  exact h _ _ out ns' (Ext.ofKeeps hsz fun b o q => sortedAll_old q) (Nat.le_succ _) ⟨Nat.le_trans hH (Nat.le_succ _), e, he⟩ (IntL.ofAre' h1) h2 h3

theorem l_join {D : Addr} {x : Str} {t : Tok} {vs : Array Value} {xs : List Str} {Q : Value → Shared → Prop} (hl : s.heap.IsList D vs) (hx : StrL vs xs) (hok : JoinOk x xs = true)
    (h : ∀ t' tk, Q (.str (Txt.join x xs) t') (tick s tk)) : wpAny (model prog w) A (call (.builtin "str.join") [.str x t, .ref D]) Q E s := by
  have key : ∀ (vs : List Value) (xs : List Str), StrL vs.toArray xs → ∃ l : List (Str × Tok), vs = strValues l ∧ l.map (·.1) = xs := by
    intro vs
    induction vs with
    | nil =>
      intro xs hx
      cases xs with
      | nil => exact ⟨[], rfl, rfl⟩
      | cons y r => have := hx.1; simp at this
    | cons v vs ih =>
      intro xs hx
      cases xs with
      | nil => have := hx.1; simp at this
      | cons y r =>
        obtain ⟨t, e⟩ := hx.2 0 y rfl
        obtain ⟨l, e1, e2⟩ := ih r ⟨by have := hx.1; simpa using this, fun i z hz => by have := hx.2 (i + 1) z hz; simpa using this⟩
        refine ⟨(y, t) :: l, ?_, by simp [e2]⟩
        have ev : v = .str y t := by simpa using e
        rw [ev, e1]; rfl
  obtain ⟨l, e1, e2⟩ := key vs.toList xs (by rw [Array.toArray_toList]; exact hx)
  exact SC.join (by rw [← e1, Array.toArray_toList]; exact hl) e2 hok fun t' k => h t' k

theorem l_eq_ints {a b : Addr} {vs ws : Array Value} {xs ys : List Int} {Q : Value → Shared → Prop} (ha : s.heap.IsList a vs) (hb : s.heap.IsList b ws) (hi : IntL vs xs) (hj : IntL ws ys) (hu : A.units + 64 < cLine) (h : Q (.bool (decide (xs = ys))) s) :
    wpAny (model prog w) A (compareOp .Eq (.ref a) (.ref b)) Q E s := ke_eq_ints (xs := vs.toList) (ys := ws.toList) (by rw [Array.toArray_toList]; exact ha) (by rw [Array.toArray_toList]; exact hb) hi.are' hj.are' hu h
theorem l_ne_ints {a b : Addr} {vs ws : Array Value} {xs ys : List Int} {Q : Value → Shared → Prop} (ha : s.heap.IsList a vs) (hb : s.heap.IsList b ws) (hi : IntL vs xs) (hj : IntL ws ys) (hu : A.units + 64 < cLine) (h : Q (.bool (!decide (xs = ys))) s) :
    wpAny (model prog w) A (compareOp .NotEq (.ref a) (.ref b)) Q E s := ke_ne_ints (xs := vs.toList) (ys := ws.toList) (by rw [Array.toArray_toList]; exact ha) (by rw [Array.toArray_toList]; exact hb) hi.are' hj.are' hu h

/-- two lists of the same strings -/
theorem l_ne_strs {a b : Addr} {vs ws : Array Value} {xs : List Str} {Q : Value → Shared → Prop} (ha : s.heap.IsList a vs) (hb : s.heap.IsList b ws) (hi : StrL vs xs) (hj : StrL ws xs) (hu : A.units < cLine) (h : Q (.bool false) s) :
    wpAny (model prog w) A (compareOp .NotEq (.ref a) (.ref b)) Q E s := by
  obtain ⟨⟨cls, dd, data, sl⟩, ho, hc, n, hd⟩ := id ha
  obtain ⟨⟨cls2, dd2, data2, sl2⟩, ho2, hc2, n2, hd2⟩ := id hb
  simp only at hc hd hc2 hd2
  subst hc hd hc2 hd2
  show wpAny _ _ (richCompare .NotEq (.ref a) (.ref b)) Q E s
  have hsz : vs.size = ws.size := by rw [hi.1, hj.1]
  refine richCompare_meets_room (op := .NotEq) ⟨_, ho, rfl⟩ ⟨_, ho2, rfl⟩ F.slot_list_ne F.entry_list_ne (F.args_list_ne_2 _ _) (list_neAt a b vs ws n n2 dd dd2 sl sl2 hsz fun _ => true)
    ⟨ho, ho2, fun j h1 h2 => ?_, ?_⟩ hu
  · obtain ⟨t1, e1⟩ := hi.at h1
    obtain ⟨t2, e2⟩ := hj.at h2
    rw [e1, e2]
    have := EqAt.str_str (A := A.in1) (s := s) (xs[j]'(by rw [← hi.1]; exact h1)) t1 (xs[j]'(by rw [← hi.1]; exact h1)) t2
    simpa using this
  · have e : (!(List.range vs.size).all fun _ => true) = false := by simp
    rw [e]
    exact show Value.bool false ≠ Value.notImplemented ∧ Q (.bool false) s from ⟨(fun x => nomatch x), h⟩

theorem l_in {l : Addr} {vs : Array Value} {xs : List Int} {x : Int} {t : Tok} {Q : Value → Shared → Prop} (hl : s.heap.IsList l vs) (hx : IntL vs xs) (h : Q (.bool (xs.contains x)) s) :
    wpAny (model prog w) A (compareOp .In (.int x t) (.ref l)) Q E s := by
  have hi := hx.are'
  refine PySem.SeqInW.in_listW (fun y => match y with | .int k _ => k == x | _ => false) (fun y hy => ?_) hl ?_
  · have key : ∀ (vs : List Value) (xs : List Int), IntsAre vs xs → ∀ y ∈ vs, ∃ k u, y = .int k u := by
      intro vs xs h
      induction h with
      | nil => intro y hy; cases hy
      | cons n t _ ih =>
        intro y hy
        rcases List.mem_cons.mp hy with rfl | hy
        · exact ⟨_, _, rfl⟩
        · exact ih y hy
    obtain ⟨k, u, rfl⟩ := key _ _ hi y (by simpa using hy)
    exact MeetsSeq.EqGives.int _ _ _ _
  · have key : ∀ (vs : List Value) (xs : List Int), IntsAre vs xs → (vs.any fun y => match y with | .int k _ => k == x | _ => false) = xs.contains x := by
      intro vs xs h
      induction h with
      | nil => rfl
      | cons n t _ ih => rw [List.any_cons, ih, List.contains_cons, Bool.beq_comm]
    rw [← Array.any_toList, key _ _ hi]
    exact h

/-- an own list of ints that is written -/
def GI (H h : Heap) (a : Addr) (xs : List Int) : Prop := H.objs.size ≤ a ∧ ∃ vs, h.IsList a vs ∧ IntL vs xs
theorem GI.calm {S : Addr → Prop} {a : Addr} {xs : List Int} (x : GI H h1 a xs) (c : Calm H S h1 h2) (ha : ¬ S a) : GI H h2 a xs := by
  obtain ⟨lo, vs, ⟨o, e, hc, n, hd⟩, hx⟩ := x
  exact ⟨lo, vs, ⟨o, c.keep a o ha lo (Solid.of fun vs q => by rw [hd] at q; cases q) e, hc, n, hd⟩, hx⟩
theorem GI.nil {a : Addr} {xs : List Int} (x : GI H h1 a xs) (c : Calm H Nil h1 h2) : GI H h2 a xs := x.calm c fun q => q
theorem GI.own {S : Addr → Prop} {a : Addr} {xs : List Int} {m cm : Str → Option Value} (x : GI H h1 a xs) (F : Frm H env m cm h1) (c : Calm H S h1 h2) (hS : ∀ b, S b → Own env b ∨ b ≠ a) : GI H h2 a xs :=
  x.calm c fun q => by
    obtain ⟨_, vs, l, _⟩ := x
    exact (hS a q).elim (fun r => F.notL a r vs l) fun r => r rfl

theorem l_set {l : Addr} {xs : List Int} {i : Nat} {k : Int} {x : Int} {t u : Tok} {Q : Unit → Shared → Prop} (ll : GI H s.heap l xs) (hk : k = (i : Nat)) (hi : i < xs.length) (hs : xs.length ≤ 1000)
    (h : ∀ h', GI H h' l (xs.set i x) → Ext H (At l) s.heap h' → Q () (put s h' s.toks)) : wpAny (model prog w) A (setItem (.ref l) (.int k t) (.int x u)) Q E s := by
  obtain ⟨lo, vs, hl, hx⟩ := ll
  obtain ⟨o, e, hc, n, hd⟩ := id hl
  refine wpAny_setItem_list hl (by omega) (by omega) (by have := hx.1; omega) fun h' l' hs' => h h' ⟨lo, _, l', ?_⟩ (Ext.ofSame hs' lo e fun vs q => by rw [hd] at q; cases q)
  have : k.toNat = i := by omega
  rw [this]
  exact hx.set
end
end Mine

namespace Mine
open PySem PySem.W PySem.Spec PySem.Calls PyProof.Rows

def lawStmt (k : Nat) : Stmt := (bodyOf (topStmt 17)).getD k default

theorem compOk0 {scope : Scope} {env : Env} (hf' : (scope.names.all fun x => x.2 != .free) = true) (nd : ((cellsFrom 0 scope.names []).map (·.1)).Nodup) (kind : scope.kind = .function) (names : ∀ x ∈ scope.names, x.2 = .local → scope.names.lookup x.1 = some .local) : CompOk scope env [] := by
  have hf : ∀ n, (n, NameKind.free) ∈ scope.names → False := fun n hn => by have := List.all_eq_true.mp hf' _ hn; simp at this
  refine ⟨?_, nofun, nd, nofun, kind, names⟩
  have := clos_eq (scope := scope) (env := env) (C := fun _ => 0) fun n hn => (hf n hn).elim
  rw [this]
  have key : ∀ (l : List (Str × NameKind)) (acc : List (Str × Addr)), (∀ n, (n, NameKind.free) ∈ l → False) → closOf (fun _ => 0) l acc = acc := by
    intro l
    induction l with
    | nil => intro acc _; rfl
    | cons p r ih =>
      obtain ⟨n, k⟩ := p
      intro acc h
      unfold closOf
      rw [if_neg]
      · exact ih acc fun n hn => h n (List.mem_cons_of_mem _ hn)
      · intro hk
        exact h n (by rw [eq_of_beq hk]; exact List.mem_cons_self)
  rw [key _ _ hf]

theorem swaps_cell {env : Env} {elt : Expr} {gens : List Comprehension} {scope : Scope} {pos pt : Pos} {t : Str} {line : Nat} (hc : env.kindOf t = some .cell) : swapsWith (.ListComp elt gens scope pos) (some (.Name t pt)) line env = pure false := by
  show (pure (env.blockKind == .function && env.kindOf t == some .local && pt.line == pos.line && !(scope.names.any fun (n, k) => n == t && (k == .local || k == .cell))) : Sem Bool) = pure false
  rw [hc]
  congr 1
  simp
theorem swaps_local {env : Env} {elt : Expr} {gens : List Comprehension} {scope : Scope} {pos pt : Pos} {t : Str} {line : Nat} (hk : env.scope.kind = .function) (hl : env.kindOf t = some .local) (h1 : (pt.line == pos.line) = true)
    (h2 : (scope.names.any fun (n, k) => n == t && (k == .local || k == .cell)) = false) : swapsWith (.ListComp elt gens scope pos) (some (.Name t pt)) line env = pure true := by
  show (pure (env.blockKind == .function && env.kindOf t == some .local && pt.line == pos.line && !(scope.names.any fun (n, k) => n == t && (k == .local || k == .cell))) : Sem Bool) = pure true
  have e : env.blockKind = .function := by unfold Env.blockKind; rw [hk]; rfl
  rw [hl, h1, h2, e]
  rfl

def padded (ns : List Int) : List Int := ns.take 4 ++ ([12, 5, 21, 2] : List Int).drop (ns.take 4).length
def numOf (ns : List Int) (i : Nat) : Int := Int.fmod ((padded ns).getD i 0) 32
theorem padded_len (ns : List Int) : (padded ns).length = 4 := by unfold padded; simp; omega

section
variable {prog : Program} {w : World} {A : Around} {E : Value → Shared → Prop} {s : Shared} {H h h1 h2 : Heap} {mg mb : Str → Option Value} {env : Env} {m cm : Str → Option Value} {C : Str → Addr}

set_option maxHeartbeats 1000000 in
theorem ph_numbers {l0 : Addr} {vs : Array Value} {ns : List Int} {n : Nat} {Q : Flow → Shared → Prop} (S : Stat H mg mb) (hA : Ok A n) (G : Good H s.heap) (V : LawEnv env C) (F : Frm H env m cm s.heap) (hm : m "script" = some (.ref l0)) (hl : ∀ h', Good H h' → h'.IsList l0 vs) (hi : IntL vs ns) (hn : ns.length ≤ 63)
    (k : ∀ D h' tk', Frm H env m (upd cm "numbers" (.ref D)) h' → Ext H (At (C "numbers")) s.heap h' → FL H (FI (numOf ns)) 4 (fun a => s.heap.objs.size ≤ a) h' D → Q .next (put s h' tk')) :
    wpAny (model prog w) A (exec (lawStmt 0) env) Q E s := by
  have hsz : vs.size ≤ 1000 := by rw [hi.1]; omega
  refine wpAny_Assign_Name (hs := swaps_cell V.k_numbers) (eval_comp (n := 4) (loc := true) (P := fun i v => ∃ t, v = .int ((padded ns).getD i 0) t) (PY := FI (numOf ns)) (hA.1) G F (compOk0 rfl (by decide) rfl (by decide)) (by decide)
    ?first (fun C => ck_local rfl) (fun q => by cases q) FI.fam ?turn ?fin)
  case first =>
    refine wpAny_BinOp (l_slice (H := H) (nm_local F V.k V.k_script hm (ep_none (ep_some (l_int fun t4 _ => ep_none ⟨l0, vs, none, some 4, none, rfl, hl _ G, hsz, .none, .int _ _, .none, nofun, G.size, fun a1 h1 tk1 l1 X1 ha1 => ?_⟩)))))
    have e1 : slicePick vs none (some 4) none = (vs.toList.take 4).toArray := slicePick_upto' vs 4
    rw [e1] at l1
    have G1 := X1.good G
    have F1 := F.nil X1.toCalm
    refine l_slice (H := H) (l_list (H := H) (spliced_cons (l_int fun t5 _ => spliced_cons (l_int fun t6 _ => spliced_cons (l_int fun t7 _ => spliced_cons (l_int fun t8 _ => spliced_nil ⟨by simp, G1.size, fun a2 h2 tk2 l2 X2 ha2 => ?_⟩))))))
    have G2 := X2.good G1
    have F2 := F1.nil X2.toCalm
    refine ep_some (bcall1 G2 S V.k V.k_len V.g V.b S.gLen rfl (by decide) (l_slice (H := H) (nm_local F2 V.k V.k_script hm (ep_none (ep_some (l_int fun t9 _ => ep_none ⟨l0, vs, none, some 4, none, rfl, hl _ G2, hsz, .none, .int _ _, .none, nofun, G2.size, fun a3 h3 tk3 l3 X3 ha3 => ?_⟩))))))
    rw [e1] at l3
    have i3 := hi.take 4
    have G3 := X3.good G2
    refine l_len l3.isList (by simp; omega) fun t10 _ => ep_none (ep_none ⟨a2, _, some _, none, none, rfl, (l2.nil X3.toCalm).isList, by simp, .int _ _, .none, .none, nofun, G3.size, fun a4 h4 tk4 l4 X4 ha4 => ?_⟩)
    have e4 : slicePick #[Value.int 12 t5, Value.int 5 t6, Value.int 21 t7, Value.int 2 t8] (some (((vs.toList.take 4).toArray.size : Nat) : Int)) none none = (([Value.int 12 t5, Value.int 5 t6, Value.int 21 t7, Value.int 2 t8]).drop (vs.toList.take 4).toArray.size).toArray := slicePick_from' _ _
    rw [e4] at l4
    have i4 : IntL (([Value.int 12 t5, Value.int 5 t6, Value.int 21 t7, Value.int 2 t8]).drop (vs.toList.take 4).toArray.size).toArray (([12, 5, 21, 2] : List Int).drop (ns.take 4).length) := by
      have q : (vs.toList.take 4).toArray.size = (ns.take 4).length := i3.1
      rw [q]
      exact IntL.drop (vs := #[Value.int 12 t5, Value.int 5 t6, Value.int 21 t7, Value.int 2 t8]) (.ofCons (.ofCons (.ofCons (.ofCons .nil)))) _
    have G4 := X4.good G3
    have l14 := ((l1.nil X2.toCalm).nil X3.toCalm).nil X4.toCalm
    have ip : IntL _ (padded ns) := i3.append i4
    refine l_addl l14 l4 (by have := ip.1; rw [Array.size_append] at this; rw [this, padded_len]; decide) G4.size fun a5 h5 tk5 l5 X5 ha5 => ?_
    have X05 : Ext H Nil s.heap h5 := X1.trans (X2.trans (X3.trans (X4.trans X5)))
    refine feed_list (cl := []) (P := fun i v => ∃ t, v = .int ((padded ns).getD i 0) t) hA.1 (X5.good G4).size l5 (fun i v hv => ?_) (fun p hp => by cases hp) fun I h6 hI X6 fd => ⟨I, h6, _, rfl, rfl, Nat.le_trans X05.size hI, X05.trans X6, ?_⟩
    · have hi4 : i < (padded ns).length := by
        rw [← ip.1]
        rcases Nat.lt_or_ge i ((vs.toList.take 4).toArray ++ (([Value.int 12 t5, Value.int 5 t6, Value.int 21 t7, Value.int 2 t8]).drop (vs.toList.take 4).toArray.size).toArray).size with q | q
        · exact q
        · rw [Array.getElem?_eq_none q] at hv; cases hv
      obtain ⟨t, e⟩ := ip.get hi4
      rw [e] at hv; cases hv
      exact ⟨t, rfl⟩
    · have q := ip.1
      rw [padded_len] at q
      rw [q] at fd
      exact fd
  case turn =>
    rintro C' i v m' cm' s₁ Q' E' hi' ⟨t, rfl⟩ F' hv hc X' G' hq
    refine wpAny_BinOp (nm_local F' rfl (ck_local rfl) hv ?_)
    refine l_int fun _ _ => ?_
    refine l_mod (by decide) fun t' tk' => ?_
    exact hq (.int (numOf ns i) t') s₁.heap tk' .refl ⟨t', rfl⟩
  case fin =>
    intro D h' tk' X' fl
    refine st_cell (F.nil X'.toCalm) V.k V.k_numbers V.c_numbers fun h2 tk2 F2 X2 => k D h2 tk2 F2 (X'.to.trans X2) (fl.cel FI.fam (F.nil X'.toCalm) V.c_numbers X2.toCalm)
end
end Mine

namespace Mine
open PySem PySem.W PySem.Spec PySem.Calls PyProof.Rows

def hostS (n : Nat) : Str := Txt.join dot (labelsS n)
def tailS (n j : Nat) : Str := Txt.join dot ((labelsS n).drop (j + 1))
/-- what holds of the texts of n -/
def textOk (n : Nat) : Bool := JoinOk dot (labelsS n) && (List.range 4).all (fun j => JoinOk dot ((labelsS n).drop (j + 1))) && (ladAt (hostS n) (tailS n) 3).all fun x => decide (x.length ≤ 100)

theorem textOk_all : ∀ n < 32, textOk n = true := by decide +kernel
theorem topS_mod (n : Nat) : topS (n % 2) = topS n := by unfold topS; rw [show n % 2 % 2 = n % 2 by omega]
theorem tail3 (n : Nat) : tailS n 3 = tailS (n % 2) 3 := rfl
theorem tail2 (n : Nat) : tailS n 2 = tailS (n % 2) 2 := by
  show Txt.join dot [topS n, "local"] = Txt.join dot [topS (n % 2), "local"]
  rw [topS_mod]
theorem topS_mod4 (n : Nat) : topS (n % 4) = topS n := by unfold topS; rw [show n % 4 % 2 = n % 2 by omega]
theorem midS_mod4 (n : Nat) : midS (n % 4) = midS n := by unfold midS; rw [show n % 4 / 2 % 2 = n / 2 % 2 by omega]
theorem tail2' (n : Nat) : tailS (n % 4) 2 = tailS n 2 := by
  show Txt.join dot [topS (n % 4), "local"] = Txt.join dot [topS n, "local"]
  rw [topS_mod4]
theorem tail1 (n : Nat) : tailS n 1 = tailS (n % 4) 1 := by
  show Txt.join dot [midS n, topS n, "local"] = Txt.join dot [midS (n % 4), topS (n % 4), "local"]
  rw [topS_mod4, midS_mod4]
theorem tail1' (n : Nat) : tailS (n % 8) 1 = tailS n 1 := by
  show Txt.join dot [midS (n % 8), topS (n % 8), "local"] = Txt.join dot [midS n, topS n, "local"]
  unfold midS topS
  rw [show n % 8 / 2 % 2 = n / 2 % 2 by omega, show n % 8 % 2 = n % 2 by omega]
theorem tail0 (n : Nat) : tailS n 0 = tailS (n % 8) 0 := by
  show Txt.join dot [lowS n, midS n, topS n, "local"] = Txt.join dot [lowS (n % 8), midS (n % 8), topS (n % 8), "local"]
  unfold lowS midS topS
  rw [show n % 8 / 4 % 2 = n / 4 % 2 by omega, show n % 8 / 2 % 2 = n / 2 % 2 by omega, show n % 8 % 2 = n % 2 by omega]

theorem reach_a : ∀ n < 2, (fromOk (dot ++ tailS n 2) 1 (tailS n 2) && reachOk (tailS n 2) (tailS n 3)) = true := by decide +kernel
theorem reach_b : ∀ n < 4, (fromOk (dot ++ tailS n 1) 1 (tailS n 1) && reachOk (tailS n 1) (tailS n 2)) = true := by decide +kernel
theorem reach_c : ∀ n < 8, (fromOk (dot ++ tailS n 0) 1 (tailS n 0) && reachOk (tailS n 0) (tailS n 1)) = true := by decide +kernel
theorem reach_d : ∀ n < 32, reachOk (hostS n) (tailS n 0) = true := by decide +kernel

theorem lad_ok (n : Nat) (hn : n < 32) : ladOk (hostS n) (tailS n) = true := by
  unfold ladOk
  rw [reach_d n hn, Bool.true_and, List.all_eq_true]
  intro i hi
  rw [List.mem_range] at hi
  match i, hi with
  | 0, _ =>
    have := reach_c (n % 8) (by omega)
    rw [tail1', ← tail0] at this
    exact this
  | 1, _ =>
    have := reach_b (n % 4) (by omega)
    rw [tail2', ← tail1] at this
    exact this
  | 2, _ =>
    have := reach_a (n % 2) (by omega)
    rw [← tail3, ← tail2] at this
    exact this
end Mine

namespace Mine
open PySem PySem.W PySem.Spec PySem.Calls PyProof.Rows

theorem compOkC {scope : Scope} {env : Env} {C : Str → Addr} {cl : List (Str × Addr)} (hlk : ∀ n, (n, NameKind.free) ∈ scope.names → env.cells.lookup n = some (C n)) (hcl : closOf C scope.names [] = cl) (hsub : ∀ p ∈ cl, env.cells.lookup p.1 = some p.2)
    (nd : ((cellsFrom 0 scope.names cl).map (·.1)).Nodup) (hfr : (cl.all fun p => !isCellOf scope p.1) = true) (kind : scope.kind = .function) (names : ∀ x ∈ scope.names, x.2 = .local → scope.names.lookup x.1 = some .local) : CompOk scope env cl :=
  ⟨(clos_eq hlk).trans (by rw [hcl]), fun p hp => mem_of_lookup (hsub p hp), nd, fun p hp => by have := List.all_eq_true.mp hfr p hp; simpa using this, kind, names⟩

theorem FL.strs {H : Heap} {f : Nat → Str} {n : Nat} {R : Addr → Prop} {h : Heap} {a : Addr} (x : FL H (FS f) n R h a) : R a ∧ ∃ vs, Lst H h a vs ∧ StrL vs ((List.range n).map f) := by
  obtain ⟨hr, ys, l, hn, hp⟩ := x
  refine ⟨hr, ys, l, by simpa using hn, fun i z hz => ?_⟩
  have hi : i < n := by
    rcases Nat.lt_or_ge i n with q | q
    · exact q
    · rw [List.getElem?_eq_none (by simpa using q)] at hz; cases hz
  have e : ys[i]? = some ys[i] := by simp [hn, hi]
  obtain ⟨t, et⟩ := hp i _ e
  refine ⟨t, ?_⟩
  rw [e, et]
  simp [hi] at hz
  rw [hz]
theorem FL.ints {H : Heap} {f : Nat → Int} {n : Nat} {R : Addr → Prop} {h : Heap} {a : Addr} (x : FL H (FI f) n R h a) : R a ∧ ∃ vs, Lst H h a vs ∧ IntL vs ((List.range n).map f) := by
  obtain ⟨hr, ys, l, hn, hp⟩ := x
  refine ⟨hr, ys, l, by simpa using hn, fun i z hz => ?_⟩
  have hi : i < n := by
    rcases Nat.lt_or_ge i n with q | q
    · exact q
    · rw [List.getElem?_eq_none (by simpa using q)] at hz; cases hz
  have e : ys[i]? = some ys[i] := by simp [hn, hi]
  obtain ⟨t, et⟩ := hp i _ e
  refine ⟨t, ?_⟩
  rw [e, et]
  simp [hi] at hz
  rw [hz]
theorem FL.ofStrs {H : Heap} {xs : List Str} {R : Addr → Prop} {h : Heap} {a : Addr} {vs : Array Value} (hr : R a) (l : Lst H h a vs) (x : StrL vs xs) : FL H (FS fun i => xs.getD i "") xs.length R h a := by
  refine ⟨hr, vs, l, x.1, fun j y hy => ?_⟩
  have hj : j < xs.length := by
    rw [← x.1]
    rcases Nat.lt_or_ge j vs.size with q | q
    · exact q
    · rw [Array.getElem?_eq_none q] at hy; cases hy
  obtain ⟨t, e⟩ := x.get hj
  rw [e] at hy; cases hy
  exact ⟨t, rfl⟩
theorem FL.ofInts {H : Heap} {xs : List Int} {R : Addr → Prop} {h : Heap} {a : Addr} {vs : Array Value} (hr : R a) (l : Lst H h a vs) (x : IntL vs xs) : FL H (FI fun i => xs.getD i 0) xs.length R h a := by
  refine ⟨hr, vs, l, x.1, fun j y hy => ?_⟩
  have hj : j < xs.length := by
    rw [← x.1]
    rcases Nat.lt_or_ge j vs.size with q | q
    · exact q
    · rw [Array.getElem?_eq_none q] at hy; cases hy
  obtain ⟨t, e⟩ := x.get hj
  rw [e] at hy; cases hy
  exact ⟨t, rfl⟩

/-- the ladder of n -/
def ladS (n : Nat) : List Str := ladAt (hostS n) (tailS n) 3
theorem ladS_len (n : Nat) : (ladS n).length = 5 := ladAt_len _ _ _
theorem lad_mem (n : Nat) : ∀ i < 4, dot ++ tailS n i ∈ ladAt (hostS n) (tailS n) 3
  | 0, _ => by simp [ladAt]
  | 1, _ => by simp [ladAt]
  | 2, _ => by simp [ladAt]
  | 3, _ => by simp [ladAt]
theorem lad_eq (n : Nat) : (List.range 4).map (fun i => dot ++ tailS n (3 - i)) ++ [hostS n] = ladS n := by
  simp [ladS, ladAt, List.range_succ]
/-- the rows of the ladders -/
def LadRow (H : Heap) (num : Nat → Nat) : (Addr → Prop) → Nat → Value → Heap → Prop := Row H (fun j => FS fun r => (ladS (num j)).getD r "") (fun _ => 5)
theorem LadRow.fam {H : Heap} {num : Nat → Nat} : Fam H (LadRow H num) := Row.fam fun _ => FS.fam

section
variable {prog : Program} {w : World} {A : Around} {E : Value → Shared → Prop} {s : Shared} {H h h1 h2 : Heap} {mg mb : Str → Option Value} {env : Env} {m cm : Str → Option Value} {C : Str → Addr}

/-- '.'.join(labels) -/
theorem l_joined {e : Expr} {kd : Nat} {p apos pos : Pos} {Q : Value → Shared → Prop} (h : ∀ (t : Tok) (tk : Nat), wpAny (model prog w) A (eval e env) (fun v s₁ => ∃ a vs xs, v = .ref a ∧ s₁.heap.IsList a vs ∧ StrL vs xs ∧ JoinOk dot xs = true ∧ ∀ (t' : Tok) (tk' : Nat), Q (.str (Txt.join dot xs) t') (tick s₁ tk')) E (tick s tk))
    (hline : (apos.endLine == pos.line) = true := by rfl) (htrees : backTo pos (starEach [e] env) = [(false, eval e env)] := by rfl) :
    wpAny (model prog w) A (eval (.Call (.Attribute (.Constant (.str ".") kd p) "join" apos) [e] [] pos) env) Q E s :=
  meth_str1 F.slot_str_join F.type_str_join (l_str fun t tk => ⟨_, _, rfl, wpAny_mono (h t tk) (fun v s₁ ⟨a, vs, xs, e, hl, hx, hok, hq⟩ => by subst e; exact l_join hl hx hok hq) fun _ _ e => e⟩) rfl hline htrees

/-- the ladder that the text expects -/
theorem l_expected {n a : Nat} {vs : Array Value} {scope : Scope} {Q : Value → Shared → Prop} {e : Expr}
    (he : e = (.BinOp (.ListComp (.BinOp (.Constant (.str ".") 0 ⟨98, 22, 98, 25⟩) .Add (.Call (.Attribute (.Constant (.str ".") 0 ⟨98, 28, 98, 31⟩) "join" ⟨98, 28, 98, 36⟩) [.Subscript (.Name "labels" ⟨98, 37, 98, 43⟩) (.Slice (some (.Name "k" ⟨98, 44, 98, 45⟩)) none none ⟨98, 44, 98, 46⟩) ⟨98, 37, 98, 47⟩] [] ⟨98, 28, 98, 48⟩) ⟨98, 22, 98, 48⟩)
      [⟨.Name "k" ⟨98, 53, 98, 54⟩, .List [.Constant (.int 4) 0 ⟨98, 59, 98, 60⟩, .Constant (.int 3) 0 ⟨98, 62, 98, 63⟩, .Constant (.int 2) 0 ⟨98, 65, 98, 66⟩, .Constant (.int 1) 0 ⟨98, 68, 98, 69⟩] ⟨98, 58, 98, 70⟩, [], 0⟩] scope ⟨98, 21, 98, 71⟩)
      .Add (.List [.Call (.Attribute (.Constant (.str ".") 0 ⟨98, 75, 98, 78⟩) "join" ⟨98, 75, 98, 83⟩) [.Name "labels" ⟨98, 84, 98, 90⟩] [] ⟨98, 75, 98, 91⟩] ⟨98, 74, 98, 92⟩) ⟨98, 21, 98, 92⟩))
    (hsc : scope = lamSc [(".0", .local), ("k", .local), ("labels", .free)]) (hA : A.handled = none) (G : Good H s.heap) (V : LawEnv env C) (F : Frm H env m cm s.heap) (hn : n < 32) (hm : cm "labels" = some (.ref a)) (ll : Lst H s.heap a vs) (hx : StrL vs (labelsS n))
    (k : ∀ b h' tk ws, Ext H Nil s.heap h' → Lst H h' b ws → StrL ws (ladS n) → Q (.ref b) (put s h' tk)) : wpAny (model prog w) A (eval e env) Q E s := by
  subst he hsc
  have hok := textOk_all n hn
  simp only [textOk, Bool.and_eq_true, List.all_eq_true, List.mem_range, decide_eq_true_eq] at hok
  obtain ⟨⟨hj, hjk⟩, hlen⟩ := hok
  have hvs : vs.size = 5 := hx.1
  refine wpAny_BinOp (eval_comp (cl := [("labels", C "labels")]) (n := 4) (loc := true) (P := fun i v => ∃ t, v = .int (((4 - i : Nat) : Nat) : Int) t) (PY := FS fun i => dot ++ tailS n (3 - i)) hA G F
    (compOkC (C := C) (fun n hn => by simp [lamSc] at hn; subst hn; exact V.c_labels) rfl (fun p hp => by simp at hp; subst hp; exact V.c_labels) (of_decide_eq_true rfl) rfl rfl (by decide)) (by decide)
    ?first (fun C => ck_local rfl) (fun q => by cases q) FS.fam ?turn ?fin)
  case first =>
    refine l_list (H := H) (spliced_cons (l_int fun t4 _ => spliced_cons (l_int fun t3 _ => spliced_cons (l_int fun t2 _ => spliced_cons (l_int fun t1 _ => spliced_nil ⟨by simp, G.size, fun b h1 tk1 lb X1 hb => ?_⟩)))))
    have G1 := X1.good G
    have F1 := F.nil X1.toCalm
    refine feed_list (cl := [("labels", C "labels")]) (P := fun i v => ∃ t, v = .int (((4 - i : Nat) : Nat) : Int) t) hA G1.size lb (fun i v hv => ?_) (fun p hp => by simp at hp; subst hp; exact fun q => F1.notL _ (.inr ⟨"labels", mem_of_lookup V.c_labels⟩) _ (q ▸ lb.isList)) fun I h2 hI X2 fd => ⟨I, h2, _, rfl, rfl, Nat.le_trans X1.size hI, X1.trans X2, fd⟩
    match i, hv with
    | 0, hv => simp at hv; exact ⟨_, hv.symm⟩
    | 1, hv => simp at hv; exact ⟨_, hv.symm⟩
    | 2, hv => simp at hv; exact ⟨_, hv.symm⟩
    | 3, hv => simp at hv; exact ⟨_, hv.symm⟩
    | i + 4, hv => simp at hv
  case turn =>
    rintro C' i v m' cm' s₁ Q' E' hi' ⟨t, rfl⟩ F' hv hc X' G' hq
    have ll' := ll.nil X'.toCalm
    refine wpAny_BinOp (l_str fun _ _ => l_joined fun _ _ => ?_)
    refine l_slice (H := H) (nm_cell F' rfl (ck_free rfl V.k V.k_labels) rfl ((hc "labels" (by decide) rfl).trans hm) (ep_some (nm_local F' rfl (ck_local rfl) hv (ep_none (ep_none ⟨a, vs, some _, none, none, rfl, ll'.isList, by omega, .int _ _, .none, .none, nofun, G'.size, fun b h2 tk2 lb X2 hb => ?_⟩)))))
    rw [slicePick_from'] at lb
    have hxd := hx.drop (4 - i)
    have e4 : Txt.join dot ((labelsS n).drop (4 - i)) = tailS n (3 - i) := by unfold tailS; rw [show 3 - i + 1 = 4 - i by omega]
    refine ⟨b, _, _, rfl, lb.isList, hxd, ?_, fun t' tk' => l_cat (fun t2 tk3 => ?_) ?_⟩
    · have := hjk (3 - i) (by omega)
      rwa [show 3 - i + 1 = 4 - i by omega] at this
    · rw [e4] at *
      exact hq _ _ _ X2 ⟨t2, rfl⟩
    · rw [e4] at *
      have h1 : (dot ++ tailS n (3 - i)).length ≤ 100 := hlen _ (lad_mem n _ (by omega))
      have h2 : (dot ++ tailS n (3 - i)).length = dot.length + (tailS n (3 - i)).length := Array.size_append ..
      rw [h2] at h1
      exact Nat.le_trans h1 (by decide)
  case fin =>
    intro D h1 tk1 X1 fl
    have F1 := F.nil X1.toCalm
    have G1 := X1.good G
    have ll1 := ll.nil X1.toCalm
    refine l_list (H := H) (spliced_cons (l_joined fun _ _ => nm_cell F1 V.k V.k_labels V.c_labels hm ⟨a, vs, _, rfl, ll1.isList, hx, hj, fun th _ => spliced_nil ⟨by simp, G1.size, fun b h2 tk2 lb X2 hb => ?_⟩⟩))
    obtain ⟨_, ys, lD, sD⟩ := fl.strs
    have lD2 := lD.nil X2.toCalm
    refine l_addl lD2 lb (by have := sD.1; simp at this; simp [this]) (X2.good G1).size fun c h3 tk3 lc X3 hc => ?_
    exact k c h3 tk3 _ (X1.trans (X2.trans X3)) lc (lad_eq n ▸ sD.append (ys := [hostS n]) (.ofCons .nil))
end
end Mine

namespace Mine
open PySem PySem.W PySem.Spec PySem.Calls PyProof.Rows

theorem FI.at {H : Heap} {f : Nat → Int} {n : Nat} {R : Addr → Prop} {h : Heap} {a : Addr} (x : FL H (FI f) n R h a) : ∃ vs, Lst H h a vs ∧ vs.size = n ∧ ∀ (i : Nat) (v : Value), vs[i]? = some v → ∃ t, v = Value.int (f i) t := by
  obtain ⟨_, ys, l, hn, hp⟩ := x
  exact ⟨ys, l, hn, fun i v hv => hp i v hv⟩

section
variable {prog : Program} {w : World} {A : Around} {E : Value → Shared → Prop} {s : Shared} {H h h1 h2 : Heap} {mg mb : Str → Option Value} {env : Env} {m cm : Str → Option Value} {C : Str → Addr}

set_option maxHeartbeats 2000000 in
theorem ph_ladders {D l : Addr} {R : Addr → Prop} {num : Nat → Nat} {n : Nat} {Q : Flow → Shared → Prop} (S : Stat H mg mb) (hA : Ok A (n + 5)) (G : Good H s.heap) (V : LawEnv env C) (F : Frm H env m cm s.heap)
    (hD : cm "numbers" = some (.ref D)) (lD : FL H (FI fun i => ((num i : Nat) : Int)) 4 R s.heap D) (hnum : ∀ i < 4, num i < 32) (hl : cm "ladders" = some (.ref l)) (ll : Lst H s.heap l #[]) (hDl : D ≠ l)
    (k : ∀ m' cm' h' tk', Frm H env m' cm' h' → (∀ z : Str, z ≠ "labels" → cm' z = cm z) → Ext H (fun b => Own env b ∨ b = l) s.heap h' → FL H (LadRow H num) 4 (fun a => l ≤ a) h' l → Q .next (put s h' tk')) :
    wpAny (model prog w) A (exec (lawStmt 2) env) Q E s := by
  obtain ⟨vD, lD', hDn, hDp⟩ := FI.at lD
  obtain ⟨pmB, eB⟩ := S.fLabels
  obtain ⟨pmD, eD⟩ := S.fLadder
  refine st_for_list (H := H) (n := 4) (P := fun i v => ∃ t, v = .int ((num i : Nat) : Int) t) (S' := fun b => Own env b ∨ b = l) hA.1
    (fun i h' => ∃ m' cm' vs, Frm H env m' cm' h' ∧ Good H h' ∧ (∀ z : Str, z ≠ "labels" → cm' z = cm z) ∧ Lst H h' l vs ∧ vs.size = i ∧ ∀ j y, vs[j]? = some y → LadRow H num (fun a => l < a) j y h') (fun _ _ => False)
    (nm_cell F V.k V.k_numbers V.c_numbers hD ⟨D, vD, s.heap, s.toks, rfl, rfl, lD', G.size, ?_, .refl, ⟨m, cm, #[], F, G, fun _ _ => rfl, ll, rfl, fun j y e => by simp at e⟩, hDn, hDp⟩)
    ?_ ?_ (fun I v s₁ Q E' o e hc hq => lotg_name v s₁ Q E' o e hc hq) ?_ (fun _ _ _ _ r => r.elim) (hs := by intro _; rfl)
  · rintro (q | q)
    · exact F.notL _ q _ lD'.isList
    · exact hDl q
  · rintro i ha hb ⟨m', cm', vs, F', G', hc, l', hv, hp⟩ c
    exact ⟨m', cm', vs, F'.nil c, c.good G', hc, l'.nil c, hv, fun j y e => LadRow.fam.calm _ _ _ _ _ _ (hp j y e) c fun _ q => q.elim⟩
  · rintro i v s₁ Q' E' hi ⟨t, rfl⟩ ⟨m', cm', vs, F', G', hc, l', hv, hp⟩ X' hq
    have hn32 := hnum i hi
    have hok := textOk_all _ hn32
    simp only [textOk, Bool.and_eq_true, List.all_eq_true, List.mem_range, decide_eq_true_eq] at hok
    obtain ⟨⟨hj, hjk⟩, hlen⟩ := hok
    -- number
    refine wpAny_assign_Name (st_local F' V.k V.k_number fun h1 tk1 F1 X1 => ?_)
    have G1 := X1.good G'
    -- labels
    refine wpAny_execs_cons (wpAny_Assign_Name (gcall1 G1 S V.k V.k_law_labels V.g S.gLabels eB rfl (by decide) (by decide) (nm_local F1 V.k V.k_number upd_self ⟨G1, ?_⟩)))
    refine labels_call (k := n + 3) S hA G1 _ _ _ rfl fun v2 h2 tk2 X2 hv2 => ?_
    obtain ⟨a2, ws2, rfl, ha2, la2, sa2⟩ := hv2
    refine st_cell (F1.nil X2.toCalm) V.k V.k_labels V.c_labels fun h3 tk3 F3 X3 => ?_
    have la3 := la2.cel (F1.nil X2.toCalm) V.c_labels X3.toCalm
    have G3 := X3.good (X2.good G1)
    have hm3 : upd cm' "labels" (.ref a2) "labels" = some (.ref a2) := upd_self
    -- ladder
    refine wpAny_execs_cons (wpAny_Assign_Name (gcall1 G3 S V.k V.k_law_ladder V.g S.gLadder eD rfl (by decide) (by decide) (l_joined fun _ _ => nm_cell F3 V.k V.k_labels V.c_labels hm3 ⟨a2, _, _, rfl, la3.isList, sa2, hj, fun _ _ => ⟨G3, ?_⟩⟩)))
    refine ladder_call (n := n + 1) (b := tailS (num i)) S hA G3 (lad_ok _ hn32) _ _ _ rfl fun v4 h4 tk4 X4 hv4 => ?_
    obtain ⟨a4, ws4, rfl, ha4, la4, sa4⟩ := hv4
    refine st_local (F3.nil X4.toCalm) V.k V.k_ladder fun h5 tk5 F5 X5 => ?_
    have la5 := (la3.nil X4.toCalm).loc (F3.nil X4.toCalm) X5.toCalm
    have l45 := la4.loc (F3.nil X4.toCalm) X5.toCalm
    have G5 := X5.good (X4.good G3)
    -- the check
    refine wpAny_execs_cons (wpAny_If (wpAny_isTrue_Compare1 (nm_local F5 V.k V.k_ladder upd_self (l_expected rfl rfl hA.1 G5 V F5 hn32 hm3 la5 sa2 fun b h6 tk6 ws X6 lb sb => ?_))))
    have l46 := l45.nil X6.toCalm
    have F6 := F5.nil X6.toCalm
    refine l_ne_strs l46.isList lb.isList sa4 sb hA.units (wpAny_truthy_bool (ite_f rfl (wpAny_execs_nil ?_)))
    -- append
    have X16 : Ext H (Own env) s₁.heap h6 := (X1.mono Own.loc).trans (X2.to.trans ((X3.mono (Own.cell V.c_labels)).trans (X4.to.trans ((X5.mono Own.loc).trans X6.to))))
    have l6 := l'.own F' X16.toCalm
    refine wpAny_execs_cons (wpAny_Expr_any (meth_list1 PySem.F.slot_list_append PySem.F.type_list_append (nm_cell F6 V.k V.k_ladders V.c_ladders ((upd_ne (by decide)).trans ((hc "ladders" (by decide)).trans hl)) ⟨l, vs, rfl, l6, nm_local F6 V.k V.k_ladder upd_self (l_append l6 (by omega) fun h7 tk7 l7 X7 => wpAny_execs_nil ?_)⟩)) V.i (by rfl))
    refine hq _ _ _ ((X16.mono fun b q => .inl q).trans (X7.mono fun b q => .inr q)) ?_
    refine ⟨_, _, _, F6.list l6.isList X7.toCalm, X7.good (X6.good G5), fun z hz => (upd_ne hz).trans (hc z hz), l7, by rw [Array.size_push, hv], fun j y e => ?_⟩
    have hl4 : l < a4 := Nat.lt_of_lt_of_le l'.lt (Nat.le_trans (Nat.le_trans X1.size (Nat.le_trans X2.size X3.size)) ha4)
    rw [Array.getElem?_push] at e
    split at e
    · rename_i hjv
      cases e
      have hji : j = i := by rw [hjv, hv]
      subst hji
      exact ⟨a4, rfl, FL.ofStrs hl4 (l46.calm X7.toCalm fun q => Nat.lt_irrefl _ (show l < l from (show a4 = l from q) ▸ hl4)) sa4⟩
    · refine LadRow.fam.calm _ _ _ _ _ _ (LadRow.fam.calm _ _ _ _ _ _ (hp j y e) X16.toCalm fun b q => .inl (F'.notL b q)) X7.toCalm fun b q => .inr fun r => ?_
      have q' : b = l := q
      rw [q'] at r; exact Nat.lt_irrefl _ r
  · rintro h' tk' X' ⟨m', cm', vs, F', G', hc, l', hv, hp⟩
    exact k m' cm' h' tk' F' hc X' ⟨Nat.le_refl _, vs, l', hv, fun j y e => LadRow.fam.mono _ _ _ _ _ (hp j y e) fun a _ q => Nat.le_of_lt q⟩
end
end Mine

namespace Mine
open PySem PySem.W PySem.Spec PySem.Calls PyProof.Rows

theorem range_getD {α : Type} (xs : List α) (d : α) : (List.range xs.length).map (fun r => xs.getD r d) = xs := by
  apply List.ext_getElem?
  intro i
  by_cases hi : i < xs.length
  · simp [hi, List.getD]
  · rw [List.getElem?_eq_none (by simp; omega), List.getElem?_eq_none (by omega)]
theorem FL.strs' {H : Heap} {xs : List Str} {n : Nat} {R : Addr → Prop} {h : Heap} {a : Addr} (x : FL H (FS fun r => xs.getD r "") n R h a) (hn : xs.length = n) : R a ∧ ∃ vs, Lst H h a vs ∧ StrL vs xs := by
  subst hn
  obtain ⟨hr, vs, l, e⟩ := x.strs
  rw [range_getD] at e
  exact ⟨hr, vs, l, e⟩
theorem lad_short (n : Nat) (hn : n < 32) : ∀ x ∈ ladS n, x.length ≤ 100 := by
  have hok := textOk_all n hn
  simp only [textOk, Bool.and_eq_true, List.all_eq_true, List.mem_range, decide_eq_true_eq] at hok
  exact hok.2
/-- how far two hosts are apart -/
def apN (a b : Nat) : Int := apartF (ladS a) (ladS b)
def ApRow (H : Heap) (num : Nat → Nat) : (Addr → Prop) → Nat → Value → Heap → Prop := Row H (fun j => FI fun r => apN (num j) (num r)) (fun _ => 4)
theorem ApRow.fam {H : Heap} {num : Nat → Nat} : Fam H (ApRow H num) := Row.fam fun _ => FI.fam

section
variable {prog : Program} {w : World} {A : Around} {E : Value → Shared → Prop} {s : Shared} {H h h1 h2 : Heap} {mg mb : Str → Option Value} {env : Env} {m cm : Str → Option Value} {C : Str → Addr}

theorem LadRow.sl {num : Nat → Nat} {R : Addr → Prop} {i : Nat} {v : Value} (x : LadRow H num R i v h) : ∃ a, v = .ref a ∧ SL H h.objs.size h a (ladS (num i)) := by
  obtain ⟨a, rfl, x⟩ := x
  obtain ⟨_, vs, l, sv⟩ := FL.strs' x (ladS_len _)
  exact ⟨a, rfl, l.lt, vs, l, sv⟩

set_option maxHeartbeats 2000000 in
theorem ph_apart {l : Addr} {R : Addr → Prop} {num : Nat → Nat} {n : Nat} {Q : Flow → Shared → Prop} (S : Stat H mg mb) (hA : Ok A (n + 8)) (G : Good H s.heap) (V : LawEnv env C) (F : Frm H env m cm s.heap)
    (hnum : ∀ i < 4, num i < 32) (hl : cm "ladders" = some (.ref l)) (ll : FL H (LadRow H num) 4 R s.heap l)
    (k : ∀ D h' tk', Frm H env m (upd cm "apart" (.ref D)) h' → Ext H (At (C "apart")) s.heap h' → FL H (ApRow H num) 4 (fun a => s.heap.objs.size ≤ a) h' D → Q .next (put s h' tk')) :
    wpAny (model prog w) A (exec (lawStmt 3) env) Q E s := by
  obtain ⟨hR, vl, ll', hvn, hvp⟩ := ll
  obtain ⟨pmA, eA⟩ := S.fApart
  refine wpAny_Assign_Name (hs := swaps_cell V.k_apart) (eval_comp (cl := [("ladders", C "ladders")]) (n := 4) (loc := false) (P := fun i v => LadRow H num R i v s.heap) (PY := ApRow H num) hA.1 G F
    (compOkC (C := C) (fun n hn => by simp at hn; subst hn; exact V.c_ladders) rfl (fun p hp => by simp at hp; subst hp; exact V.c_ladders) (of_decide_eq_true rfl) rfl rfl (by decide)) (by decide)
    (nm_cell F V.k V.k_ladders V.c_ladders hl (feed_list hA.1 G.size ll' hvp (fun p hp => by simp at hp; subst hp; exact fun q => F.notL _ (.inr ⟨"ladders", mem_of_lookup V.c_ladders⟩) _ (q ▸ ll'.isList)) fun I h1 hI X1 fd => ⟨I, h1, _, rfl, rfl, hI, X1, hvn ▸ fd⟩))
    (fun C => ck_cell rfl) (fun _ => ⟨rfl, fun C => ⟨_, rfl⟩⟩) ApRow.fam ?turn ?fin)
  case turn =>
    rintro C1 i v m1 cm1 s1 Q1 E1 hi hP F1 hv hc X1 G1 hq
    have lad1 := LadRow.fam.calm _ _ _ _ _ _ hP X1.toCalm fun _ q => q.elim
    have ll1 := ll'.nil X1.toCalm
    have hcl : cm1 "ladders" = some (.ref l) := (hc "ladders" (by decide) rfl).trans hl
    refine eval_comp (cl := [("one", C1 + 1)]) (n := 4) (loc := true) (P := fun i v => LadRow H num R i v s1.heap) (PY := FI fun r => apN (num i) (num r)) hA.1 G1 F1
      (compOkC (C := fun _ => C1 + 1) (fun n hn => by simp at hn; subst hn; rfl) rfl (fun p hp => by simp at hp; subst hp; rfl) (of_decide_eq_true rfl) rfl rfl (by decide)) (by decide)
      (nm_cell F1 rfl (ck_free rfl V.k V.k_ladders) rfl hcl (feed_list hA.1 G1.size ll1 (fun i v hv => LadRow.fam.calm _ _ _ _ _ _ (hvp i v hv) X1.toCalm fun _ q => q.elim) (fun p hp => by simp at hp; subst hp; exact fun q => F1.notL _ (.inr ⟨"one", .head _⟩) _ (q ▸ ll1.isList)) fun I h2 hI X2 fd => ⟨I, h2, _, rfl, rfl, hI, X2, hvn ▸ fd⟩))
      (fun C => ck_local rfl) (fun q => by cases q) FI.fam ?turn2 ?fin2
    case turn2 =>
      rintro C2 j v2 m2 cm2 s2 Q2 E2 hj hP2 F2 hv2 hc2 X2 G2 hq2
      obtain ⟨a, rfl, sa⟩ := lad1.sl
      obtain ⟨b, rfl, sb⟩ := LadRow.sl hP2
      refine gcall2 G2 S rfl (ck_glob rfl) V.g S.gApart eA rfl (by decide) (by decide) (nm_cell F2 rfl (ck_free rfl rfl (ck_cell rfl)) rfl ((hc2 "one" (by decide) rfl).trans hv) (nm_local F2 rfl (ck_local rfl) hv2 ⟨G2, ?_⟩))
      refine apart_call (n := n) S hA G2 (sa.nil X2.toCalm) (sb.nil X2.toCalm) (ladS_len _) (ladS_len _) (lad_short _ (hnum i hi)) (lad_short _ (hnum j hj)) _ _ _ rfl fun y h3 tk3 X3 hy => ?_
      exact hq2 y h3 tk3 X3 hy
    case fin2 =>
      intro D h3 tk3 X3 fl
      exact hq (.ref D) h3 tk3 X3 ⟨D, rfl, fl⟩
  case fin =>
    intro D h' tk' X' fl
    refine st_cell (F.nil X'.toCalm) V.k V.k_apart V.c_apart fun h2 tk2 F2 X2 => k D h2 tk2 F2 (X'.to.trans X2) (fl.cel ApRow.fam (F.nil X'.toCalm) V.c_apart X2.toCalm)
end
end Mine

namespace Mine
open PySem PySem.W PySem.Spec PySem.Calls PyProof.Rows

def nameS (n : Nat) : List Str := (ladS n).map Txt.lower ++ [(ladS n).getD 4 ""]
theorem nameS_len (n : Nat) : (nameS n).length = 6 := by simp [nameS, ladS_len]
def NameRow (H : Heap) (num : Nat → Nat) : (Addr → Prop) → Nat → Value → Heap → Prop := Row H (fun j => FS fun r => (nameS (num j)).getD r "") (fun _ => 6)
theorem NameRow.fam {H : Heap} {num : Nat → Nat} : Fam H (NameRow H num) := Row.fam fun _ => FS.fam

section
variable {prog : Program} {w : World} {A : Around} {E : Value → Shared → Prop} {s : Shared} {H h h1 h2 : Heap} {mg mb : Str → Option Value} {env : Env} {m cm : Str → Option Value} {C : Str → Addr}

set_option maxHeartbeats 2000000 in
theorem ph_names {l : Addr} {R : Addr → Prop} {num : Nat → Nat} {Q : Flow → Shared → Prop} (hA : A.handled = none) (G : Good H s.heap) (V : LawEnv env C) (F : Frm H env m cm s.heap)
    (hnum : ∀ i < 4, num i < 32) (hl : cm "ladders" = some (.ref l)) (ll : FL H (LadRow H num) 4 R s.heap l)
    (k : ∀ D h' tk', Frm H env m (upd cm "names" (.ref D)) h' → Ext H (At (C "names")) s.heap h' → FL H (NameRow H num) 4 (fun a => s.heap.objs.size ≤ a) h' D → Q .next (put s h' tk')) :
    wpAny (model prog w) A (exec (lawStmt 4) env) Q E s := by
  obtain ⟨hR, vl, ll', hvn, hvp⟩ := ll
  refine wpAny_Assign_Name (hs := swaps_cell V.k_names) (eval_comp (cl := []) (n := 4) (loc := true) (P := fun i v => LadRow H num R i v s.heap) (PY := NameRow H num) hA G F
    (compOk0 rfl (by decide) rfl (by decide)) (by decide)
    (nm_cell F V.k V.k_ladders V.c_ladders hl (feed_list (cl := []) hA G.size ll' hvp (fun p hp => by cases hp) fun I h1 hI X1 fd => ⟨I, h1, _, rfl, rfl, hI, X1, hvn ▸ fd⟩))
    (fun C => ck_local rfl) (fun q => by cases q) NameRow.fam ?turn ?fin)
  case turn =>
    rintro C1 i v m1 cm1 s1 Q1 E1 hi hP F1 hv hc X1 G1 hq
    obtain ⟨a, rfl, _, va, la, sa⟩ := LadRow.sl (LadRow.fam.calm _ _ _ _ _ _ hP X1.toCalm fun _ q => q.elim)
    have hshort := lad_short _ (hnum i hi)
    refine wpAny_BinOp (eval_comp (cl := []) (n := 5) (loc := true) (P := fun r v => r < 5 ∧ ∃ t, v = .str ((ladS (num i)).getD r "") t) (PY := FS fun r => Txt.lower ((ladS (num i)).getD r "")) hA G1 F1
      (compOk0 rfl (by decide) rfl (by decide)) (by decide)
      (nm_local F1 rfl (ck_local rfl) hv (feed_list (cl := []) (P := fun r v => r < 5 ∧ ∃ t, v = .str ((ladS (num i)).getD r "") t) hA G1.size la (fun r v hv => ?_) (fun p hp => by cases hp) fun I h2 hI X2 fd => ⟨I, h2, _, rfl, rfl, hI, X2, ?_⟩))
      (fun C => ck_local rfl) (fun q => by cases q) FS.fam ?turn2 ?fin2)
    · have hr : r < (ladS (num i)).length := by
        rw [← sa.1]
        rcases Nat.lt_or_ge r va.size with q | q
        · exact q
        · rw [Array.getElem?_eq_none q] at hv; cases hv
      obtain ⟨t, e⟩ := sa.get hr
      rw [e] at hv; cases hv
      exact ⟨by rw [ladS_len] at hr; exact hr, t, rfl⟩
    · have := sa.1
      rw [ladS_len] at this
      exact this ▸ fd
    case turn2 =>
      rintro C2 j v2 m2 cm2 s2 Q2 E2 hj ⟨hj5, t, rfl⟩ F2 hv2 hc2 X2 G2 hq2
      have hlen : ((ladS (num i)).getD j "").length ≤ 100 := by
        have : (ladS (num i)).getD j "" = (ladS (num i))[j]'(by rw [ladS_len]; exact hj5) := by simp [List.getD, ladS_len, hj5]
        rw [this]; exact hshort _ (List.getElem_mem _)
      exact meth_str0 PySem.F.slot_str_lower PySem.F.type_str_lower (nm_local F2 rfl (ck_local rfl) hv2 ⟨_, _, rfl, l_lower (Nat.le_trans hlen (by decide)) fun t' tk' => hq2 _ _ tk' .refl ⟨t', rfl⟩⟩)
    case fin2 =>
      intro D h3 tk3 X3 fl
      have F3 := F1.nil X3.toCalm
      have G3 := X3.good G1
      have la3 := la.nil X3.toCalm
      refine l_list (H := H) (spliced_cons (sub_any (nm_local F3 rfl (ck_local rfl) hv (l_int fun _ _ => sOnS (i := 4) la3.isList sa rfl (by rw [ladS_len]; decide) (by rw [ladS_len]; decide) fun t4 => spliced_nil ⟨by simp, G3.size, fun b h4 tk4 lb X4 hb => ?_⟩))))
      obtain ⟨_, ys, lD, sD⟩ := fl.strs
      have lD4 := lD.nil X4.toCalm
      refine l_addl lD4 lb (by have := sD.1; simp at this; simp [this]) (X4.good G3).size fun c h5 tk5 lc X5 hc => ?_
      refine hq (.ref c) h5 tk5 (X3.trans (X4.trans X5)) ⟨c, rfl, ?_⟩
      have e : (List.range 5).map (fun r => Txt.lower ((ladS (num i)).getD r "")) ++ [(ladS (num i)).getD 4 ""] = nameS (num i) := by
        unfold nameS
        congr 1
      have sN : StrL (ys ++ #[Value.str ((ladS (num i)).getD 4 "") t4]) (nameS (num i)) := e ▸ sD.append (ys := [(ladS (num i)).getD 4 ""]) (.ofCons .nil)
      have := FL.ofStrs (R := fun a => s1.heap.objs.size ≤ a) (Nat.le_trans (Nat.le_trans X3.size X4.size) hc) lc sN
      rw [nameS_len] at this
      exact this
  case fin =>
    intro D h' tk' X' fl
    refine st_cell (F.nil X'.toCalm) V.k V.k_names V.c_names fun h2 tk2 F2 X2 => k D h2 tk2 F2 (X'.to.trans X2) (fl.cel NameRow.fam (F.nil X'.toCalm) V.c_names X2.toCalm)
end
end Mine

namespace Mine
open PySem PySem.W PySem.Spec PySem.Calls PyProof.Rows

def nameLt (a b : Nat) : Bool := strsLt (nameS a) (nameS b)
def rowStep (num : Nat → Nat) (row : List Nat) (i : Nat) : List Nat := insAt row (bs (fun j => nameLt (num (row.getD j 0)) (num i)) row.length 0 row.length) i
def rowN (num : Nat → Nat) : Nat → List Nat
  | 0 => []
  | i + 1 => rowStep num (rowN num i) i
def intsOf (xs : List Nat) : List Int := xs.map fun k => ((k : Nat) : Int)

theorem insAt_len {α : Type} (xs : List α) (i : Nat) (y : α) (h : i ≤ xs.length) : (insAt xs i y).length = xs.length + 1 := by simp [insAt]; omega
theorem insAt_mem {α : Type} {xs : List α} {i : Nat} {y z : α} (h : z ∈ insAt xs i y) : z ∈ xs ∨ z = y := by
  unfold insAt at h
  rcases List.mem_append.mp h with h | h
  · exact .inl (List.mem_of_mem_take h)
  · rcases List.mem_cons.mp h with h | h
    · exact .inr h
    · exact .inl (List.mem_of_mem_drop h)
theorem rowN_len (num : Nat → Nat) : ∀ i, (rowN num i).length = i
  | 0 => rfl
  | i + 1 => by
    unfold rowN rowStep
    rw [insAt_len _ _ _ (bs_le _ _ _ _ (Nat.zero_le _)), rowN_len num i]
theorem rowN_lt (num : Nat → Nat) : ∀ i, ∀ z ∈ rowN num i, z < i
  | 0, z, h => by cases h
  | i + 1, z, h => by
    rcases insAt_mem h with h | h
    · exact Nat.lt_succ_of_lt (rowN_lt num i z h)
    · subst h; exact Nat.lt_succ_self _

theorem IntL.ins {vs : Array Value} {xs : List Int} (h : IntL vs xs) {i : Nat} {x : Int} {t : Tok} (hi : i ≤ xs.length) : IntL (insAt vs.toList i (Value.int x t)).toArray (insAt xs i x) := by
  have h1 := h.take i
  have h2 := h.drop i
  have h3 : IntL (Value.int x t :: vs.toList.drop i).toArray (x :: xs.drop i) := .ofCons h2
  have := h1.append h3
  simpa [insAt] using this

section
variable {prog : Program} {w : World} {A : Around} {E : Value → Shared → Prop} {s : Shared} {H h h1 h2 : Heap} {mg mb : Str → Option Value} {env : Env} {m cm : Str → Option Value} {C : Str → Addr}

/-- a cell that lasts -/
theorem IsCell.nil {k : Addr} {z : Option Value} (x : h1.IsCell k z ∧ H.objs.size ≤ k) (X : Calm H Nil h1 h2) : h2.IsCell k z ∧ H.objs.size ≤ k :=
  ⟨by obtain ⟨o, e, hd⟩ := x.1; exact ⟨o, X.keep _ o (fun q => q) x.2 (Solid.of fun vs q => by rw [hd] at q; cases q) e, hd⟩, x.2⟩

/-- key: lambda spot: names[spot] -/
theorem name_key {f D cn : Addr} {p1 p2 p3 p4 : Pos} {ys : Array Value} {p : Nat} {t : Tok} {n : Nat} (S : Stat H mg mb) (G : Good H h)
    (L : LamAt H h f qLaw (arg1 "spot" p4) (.Subscript (.Name "names" p1) (.Name "spot" p2) p3) (lamSc [("spot", .local), ("names", .free)]) [("names", cn)])
    (hc : h.IsCell cn (some (.ref D)) ∧ H.objs.size ≤ cn) (lD : Lst H h D ys) (hys : ys.size ≤ 1000) (hp : p < ys.size) : 
    ∀ h' A', Ext H Nil h h' → Good H h' → Ok A' (n + 1) → Do prog w H A' (call (.ref f) [.int (p : Nat) t]) h' Nil fun r _ => r = ys[p] := by
  intro h' A' X G' hA
  refine lam_call (n := n) (binds := [("spot", .int (p : Nat) t)]) (cm := fun z => if z = "names" then some (.ref D) else none) S hA G' (L.nil X.toCalm) (fun _ _ _ => rfl) rfl (locs rfl)
      (fun k c' hm => ?_) (by simp) (fun k c1 c2 h1 h2 => ?_) (fun cv h1 F X1 G1 => ?_)
  · simp only [List.mem_cons, List.not_mem_nil, or_false, Prod.mk.injEq] at hm
    obtain ⟨rfl, rfl⟩ := hm
    exact IsCell.nil hc X.toCalm
  · simp only [List.mem_cons, List.not_mem_nil, or_false, Prod.mk.injEq] at h1 h2
    rw [h1.2, h2.2]
  · intro s Q E hs hQ
    subst hs
    have l1 := (lD.nil X.toCalm).nil X1.toCalm
    exact wpAny_Subscript_Name_late (nm_free F rfl rfl rfl rfl (nm_local F rfl rfl rfl (sOn l1.isList (by omega) (by simp [hp]) hys (hQ _ _ _ .refl rfl))))

/-- a place of the row, by its name -/
theorem row_key {f D cn : Addr} {p1 p2 p3 p4 : Pos} {ys vs : Array Value} {num : Nat → Nat} {row : List Nat} {i n : Nat} {R : Addr → Prop} (S : Stat H mg mb) (G : Good H h)
    (L : LamAt H h f qLaw (arg1 "spot" p4) (.Subscript (.Name "names" p1) (.Name "spot" p2) p3) (lamSc [("spot", .local), ("names", .free)]) [("names", cn)])
    (hc : h.IsCell cn (some (.ref D)) ∧ H.objs.size ≤ cn) (lD : Lst H h D ys) (hys : ys.size = 4) (hyp : ∀ j y, ys[j]? = some y → NameRow H num R j y h) (hi : i < 4) (hrow : IntL vs (intsOf row)) (hlt : ∀ z ∈ row, z < 4) :
    KeyOk prog w H (n + 1) .Lt false h f vs (ys[i]'(by omega)) (fun j => nameLt (num (row.getD j 0)) (num i)) := by
  intro j v h' A' hv X G' hA
  have hj : j < row.length := by
    have := hrow.1
    rcases Nat.lt_or_ge j vs.size with q | q
    · simpa [intsOf, this] using q
    · rw [Array.getElem?_eq_none q] at hv; cases hv
  obtain ⟨t, e⟩ := hrow.get (i := j) (by simpa [intsOf] using hj)
  rw [e] at hv; cases hv
  have eg : (intsOf row).getD j 0 = ((row.getD j 0 : Nat) : Int) := by simp [intsOf, List.getD, hj]
  rw [eg]
  have hz : row.getD j 0 < 4 := by
    have : row.getD j 0 = row[j] := by simp [List.getD, hj]
    rw [this]; exact hlt _ (List.getElem_mem _)
  refine (name_key (n := n) S G L hc lD (by omega) (by omega) h' A' X G' hA).mono fun r h'' X2 hr h3 A3 X3 hA3 => ?_
  subst hr
  intro s Q E hs hQ
  subst hs
  simp only [Bool.false_eq_true, if_false]
  have XX := X.trans (X2.trans X3)
  obtain ⟨a, ea, xa⟩ := hyp (row.getD j 0) _ (by simp [hys, hz] : ys[row.getD j 0]? = some (ys[row.getD j 0]'(by omega)))
  obtain ⟨b, eb, xb⟩ := hyp i _ (by simp [hys, hi] : ys[i]? = some (ys[i]'(by omega)))
  obtain ⟨_, va, la, sa⟩ := FL.strs' xa (nameS_len _)
  obtain ⟨_, vb, lb, sb⟩ := FL.strs' xb (nameS_len _)
  rw [ea, eb]
  exact lt_strs (la.nil XX.toCalm).isList (lb.nil XX.toCalm).isList sa sb (by rw [nameS_len, nameS_len]) hA3.units (hQ _ _ _ .refl rfl)

set_option maxHeartbeats 2000000 in
theorem ph_row {D l : Addr} {R : Addr → Prop} {num : Nat → Nat} {n : Nat} {Q : Flow → Shared → Prop} (S : Stat H mg mb) (hA : Ok A (n + 5)) (G : Good H s.heap) (V : LawEnv env C) (F : Frm H env m cm s.heap)
    (hD : cm "names" = some (.ref D)) (lD : FL H (NameRow H num) 4 R s.heap D) (hl : m "row" = some (.ref l)) (ll : Lst H s.heap l #[]) (hRl : ¬ R l)
    (k : ∀ m' cm' h' tk' vs, Frm H env m' cm' h' → (∀ z : Str, z ≠ "place" → cm' z = cm z) → (∀ z : Str, m' z = m z) → Ext H (fun b => Own env b ∨ b = l) s.heap h' → Lst H h' l vs → IntL vs (intsOf (rowN num 4)) → Q .next (put s h' tk')) :
    wpAny (model prog w) A (exec (lawStmt 6) env) Q E s := by
  obtain ⟨pmI, eI⟩ := S.fInsort
  refine st_for_range (H := H) (n := 4) (S' := fun b => Own env b ∨ b = l) hA.1 G S V.k V.k_range V.g V.b (by decide) (fun Q' hq => l_int fun t tk => hq t tk)
    (fun i h' => ∃ m' cm' vs, Frm H env m' cm' h' ∧ Good H h' ∧ (∀ z : Str, z ≠ "place" → cm' z = cm z) ∧ (∀ z : Str, m' z = m z) ∧ Lst H h' l vs ∧ IntL vs (intsOf (rowN num i))) (fun _ _ => False)
    ⟨m, cm, #[], F, G, fun _ _ => rfl, fun _ => rfl, ll, .nil⟩
    (fun i ha hb ⟨m', cm', vs, F', G', h1, h2, h3, h4⟩ c => ⟨m', cm', vs, F'.nil c, c.good G', h1, h2, h3.nil c, h4⟩) ?_ ?_ (fun _ _ _ _ r => r.elim)
  · rintro i t s₁ Q' E' hi ⟨m', cm', vs, F', G', hc, hm, l', hv⟩ X' hq
    have hsz : vs.size = i := by rw [hv.1]; simp [intsOf, rowN_len]
    refine st_cell F' V.k V.k_place V.c_place fun h1 tk1 F1 X1 => ?_
    have G1 := X1.good G'
    have l1 := l'.cel F' V.c_place X1.toCalm
    have XD : Ext H (fun b => Own env b ∨ b = l) s.heap h1 := X'.trans (X1.mono fun b q => .inl (Own.cell V.c_place b q))
    have lD1 : FL H (NameRow H num) 4 R h1 D := lD.own NameRow.fam F XD.toCalm fun b q => q.imp id fun r => by rw [r]; exact hRl
    have hcl : closureFor (lamSc [("spot", .local), ("names", .free)]) env = pure [(("names" : Str), C "names")] := clos_eq fun n hn => by simp [lamSc] at hn; subst hn; exact V.c_names
    have hcm : upd cm' "place" (.int (i : Nat) t) "names" = some (.ref D) := (upd_ne (by decide)).trans ((hc "names" (by decide)).trans hD)
    refine wpAny_execs_cons (wpAny_Expr_any (gcallK G1 S V.k V.k_insort_left V.g S.gInsort eI rfl (by decide) (by decide) (spliced_cons (nm_local F1 V.k V.k_row ((hm "row").trans hl) (spliced_cons (nm_cell F1 V.k V.k_place V.c_place upd_self (spliced_nil
      (mk_lam S G1 rfl hcl V.g V.code V.q (.inr ⟨rfl, rfl, rfl⟩) fun f h2 tk2 Lf X2 hf => ?_))))))) V.i (by rfl))
    have G2 := X2.good G1
    refine ⟨G2, ?_⟩
    have F2 := F1.nil X2.toCalm
    obtain ⟨_, ys, lD2, hyn, hyp⟩ := lD1.nil NameRow.fam X2.toCalm
    have hcell : h2.IsCell (C "names") (some (.ref D)) ∧ H.objs.size ≤ C "names" := ⟨hcm ▸ (F2.cell _ _ (mem_of_lookup V.c_names)).1, (F2.cell _ _ (mem_of_lookup V.c_names)).2⟩
    refine insort_call (n := n + 1) (rv := ys[i]'(by omega)) (p := fun j => nameLt (num ((rowN num i).getD j 0)) (num i)) S hA G2 (l1.nil X2.toCalm) Lf.fn (by omega) (name_key (n := n) S G2 Lf hcell lD2 (by omega) (by omega))
      (row_key S G2 Lf hcell lD2 hyn hyp hi hv fun z hz => Nat.lt_trans (rowN_lt num i z hz) hi) _ _ _ rfl fun v h3 tk3 X3 l3 => wpAny_execs_nil ?_
    refine hq _ _ _ ((X1.mono fun b q => .inl (Own.cell V.c_place b q)).trans (X2.to.trans (X3.mono fun b q => .inr q))) ?_
    refine ⟨_, _, _, F2.list (l1.nil X2.toCalm).isList X3.toCalm, X3.good G2, fun z hz => (upd_ne hz).trans (hc z hz), hm, l3, ?_⟩
    have hins : intsOf (rowN num (i + 1)) = insAt (intsOf (rowN num i)) (bs (fun j => nameLt (num ((rowN num i).getD j 0)) (num i)) vs.size 0 vs.size) ((i : Nat) : Int) := by
      show intsOf (insAt _ _ _) = _
      rw [hsz, rowN_len]
      simp [intsOf, insAt, List.map_take, List.map_drop]
    rw [hins]
    exact hv.ins (by simp only [intsOf, List.length_map, rowN_len, hsz]; exact bs_le _ _ _ _ (Nat.zero_le _))
  · rintro h' tk' X' ⟨m', cm', vs, F', G', hc, hm, l', hv⟩
    exact k m' cm' h' tk' vs F' hc hm X' l' hv
end
end Mine

namespace Mine
open PySem PySem.W PySem.Spec PySem.Calls PyProof.Rows

section
variable {prog : Program} {w : World} {A : Around} {E : Value → Shared → Prop} {R : Result → Shared → Prop} {s : Shared}

/-- two clauses: the inner clause's turn -/
theorem turn_in (elt t1 i1 t2 i2 : Expr) (scope : Scope) (pos : Pos) (it acc : Value) (env : Env) :
    compTurn (.ListComp elt [⟨t1, i1, [], 0⟩, ⟨t2, i2, [], 0⟩] scope pos) 1 it acc env = (standAt i2.pos >>= fun _ => pyNext it >>= fun r => match r with
      | none => pure (.done .next)
      | some v => letOwnedTupleGo t2 it v >>= fun _ => assign t2 env v >>= fun _ =>
        (eval elt env >>= fun x => call (.builtin "list.append") [acc, x] >>= fun _ => pure ()) >>= fun _ =>
          again (.compLoop (.ListComp elt [⟨t1, i1, [], 0⟩, ⟨t2, i2, [], 0⟩] scope pos) 1 it acc env)) := by rfl

theorem turn_out (elt t1 i1 t2 i2 : Expr) (scope : Scope) (pos : Pos) (it acc : Value) (env : Env) :
    compTurn (.ListComp elt [⟨t1, i1, [], 0⟩, ⟨t2, i2, [], 0⟩] scope pos) 0 it acc env = (standAt i1.pos >>= fun _ => pyNext it >>= fun r => match r with
      | none => pure (.done .next)
      | some v => letOwnedTupleGo t1 it v >>= fun _ => assign t1 env v >>= fun _ =>
        eval i2 env >>= fun x => standAt i2.pos >>= fun _ => foldedSetIterable i2 env x >>= fun x => holding [x] (pyIter x) >>= fun it' =>
          runOwn (.compStart (.ListComp elt [⟨t1, i1, [], 0⟩, ⟨t2, i2, [], 0⟩] scope pos) 1 it' acc env) env >>= fun _ =>
          again (.compLoop (.ListComp elt [⟨t1, i1, [], 0⟩, ⟨t2, i2, [], 0⟩] scope pos) 0 it acc env)) := by rfl

theorem loop_in {elt t1 i1 t2 i2 : Expr} {scope : Scope} {pos : Pos} {it acc : Value} {env : Env} (I : Nat → Shared → Prop)
    (turn : ∀ n s, I n s → wpAny (model prog w) A (pyNext it) (fun r s₁ => match r with
      | none => R (.ok .next) s₁
      | some v => wpAny (model prog w) A (assign t2 env v) (fun _ s₂ => wpAny (model prog w) A (eval elt env) (fun x s₃ =>
          wpAny (model prog w) A (call (.builtin "list.append") [acc, x]) (fun _ s₄ => ∃ m, m < n ∧ I m s₄) (notedBy (model prog w) A env fun e s' => R (.error e) s') s₃)
          (notedBy (model prog w) A env fun e s' => R (.error e) s') s₂) (notedBy (model prog w) A env fun e s' => R (.error e) s') s₁) (notedBy (model prog w) A env fun e s' => R (.error e) s') s)
    (n : Nat) (h : I n s) (ht : ∀ v, letOwnedTupleGo t2 it v = pure () := by intro _; rfl) :
    codeAny (model prog w) A (.compLoop (.ListComp elt [⟨t1, i1, [], 0⟩, ⟨t2, i2, [], 0⟩] scope pos) 1 it acc env) R s := by
  refine codeAny_loop rfl I (fun n s hI => ?_) n h
  show wpAny _ A ((compTurn (.ListComp elt [⟨t1, i1, [], 0⟩, ⟨t2, i2, [], 0⟩] scope pos) 1 it acc env).onRaise (fun x => do noteFrame x env; theTreesLotGoes x)) _ _ s
  refine wpAny_noted ?_
  rw [turn_in]
  refine wpAny_bind (wpAny_standAt (wpAny_bind (wpAny_mono (turn n s hI) (fun r s₁ h₁ => ?_) fun _ _ h' => h')))
  cases r with
  | none => exact wpAny_pure h₁
  | some v =>
    refine wpAny_bind (wpAny_of_eq (ht v) ?_)
    exact wpAny_bind (wpAny_mono h₁ (fun _ s₂ h₂ => wpAny_bind (wpAny_bind (wpAny_mono h₂ (fun x s₃ h₃ => wpAny_bind (wpAny_mono h₃
      (fun _ s₄ h₄ => wpAny_pure (wpAny_pure ⟨rfl, h₄⟩)) fun _ _ h' => h')) fun _ _ h' => h'))) fun _ _ h' => h')

theorem loop_out {elt t1 i1 t2 i2 : Expr} {scope : Scope} {pos : Pos} {it acc : Value} {env : Env} (I : Nat → Shared → Prop)
    (turn : ∀ n s, I n s → wpAny (model prog w) A (pyNext it) (fun r s₁ => match r with
      | none => R (.ok .next) s₁
      | some v => wpAny (model prog w) A (assign t1 env v) (fun _ s₂ => wpAny (model prog w) A (eval i2 env) (fun x s₃ => wpAny (model prog w) A (pyIter x) (fun it' s₄ =>
          codeAny (model prog w) A (.compStart (.ListComp elt [⟨t1, i1, [], 0⟩, ⟨t2, i2, [], 0⟩] scope pos) 1 it' acc env) (fun r s₅ => match r with
            | .ok _ => ∃ m, m < n ∧ I m s₅
            | .error e => cameBackBy (model prog w) A env (notedBy (model prog w) A env fun e s' => R (.error e) s') e s₅) s₄)
          (notedBy (model prog w) A env fun e s' => R (.error e) s') s₃)
          (notedBy (model prog w) A env fun e s' => R (.error e) s') s₂) (notedBy (model prog w) A env fun e s' => R (.error e) s') s₁) (notedBy (model prog w) A env fun e s' => R (.error e) s') s)
    (n : Nat) (h : I n s) (hf : ∀ x, foldedSetIterable i2 env x = pure x) (ht : ∀ v, letOwnedTupleGo t1 it v = pure () := by intro _; rfl) :
    codeAny (model prog w) A (.compLoop (.ListComp elt [⟨t1, i1, [], 0⟩, ⟨t2, i2, [], 0⟩] scope pos) 0 it acc env) R s := by
  refine codeAny_loop rfl I (fun n s hI => ?_) n h
  show wpAny _ A ((compTurn (.ListComp elt [⟨t1, i1, [], 0⟩, ⟨t2, i2, [], 0⟩] scope pos) 0 it acc env).onRaise (fun x => do noteFrame x env; theTreesLotGoes x)) _ _ s
  refine wpAny_noted ?_
  rw [turn_out]
  refine wpAny_bind (wpAny_standAt (wpAny_bind (wpAny_mono (turn n s hI) (fun r s₁ h₁ => ?_) fun _ _ h' => h')))
  cases r with
  | none => exact wpAny_pure h₁
  | some v =>
    refine wpAny_bind (wpAny_of_eq (ht v) ?_)
    refine wpAny_bind (wpAny_mono h₁ (fun _ s₂ h₂ => wpAny_bind (wpAny_mono h₂ (fun x s₃ h₃ => ?_) fun _ _ h' => h')) fun _ _ h' => h')
    refine wpAny_bind (wpAny_standAt (wpAny_bind (wpAny_of_eq (hf x) (wpAny_bind (wpAny_holding (wpAny_mono h₃ (fun it' s₄ h₄ => ?_) fun _ _ h' => h'))))))
    refine wpAny_bind (wpAny_runOwn (h := none) ?_)
    refine codeAny_mono h₄ fun r s₅ hr => ?_
    cases r with
    | ok f => exact wpAny_pure ⟨rfl, hr⟩
    | error e => exact hr

theorem start_in {elt t1 i1 t2 i2 : Expr} {scope : Scope} {pos : Pos} {it acc : Value} {env : Env}
    (h0 : codeAny (model prog w) A (.compLoop (.ListComp elt [⟨t1, i1, [], 0⟩, ⟨t2, i2, [], 0⟩] scope pos) 1 it acc env) R s)
    (h : wpAny (model prog w) A (pyIter it) (fun it' s' => codeAny (model prog w) A (.compLoop (.ListComp elt [⟨t1, i1, [], 0⟩, ⟨t2, i2, [], 0⟩] scope pos) 1 it' acc env) R s')
      (notedBy (model prog w) A env fun x s' => R (.error x) s') s) :
    codeAny (model prog w) A (.compStart (.ListComp elt [⟨t1, i1, [], 0⟩, ⟨t2, i2, [], 0⟩] scope pos) 1 it acc env) R s := by
  refine codeAny_of_tree ?_
  show wpAny _ _ ((compStart (.ListComp elt [⟨t1, i1, [], 0⟩, ⟨t2, i2, [], 0⟩] scope pos) 1 it acc env).onRaise (fun x => do noteFrame x env; standAt theWindowsPlace)) _ _ s
  refine wpAny_notedAt ?_
  unfold compStart
  show wpAny _ _ (ask >>= _) _ _ s
  refine wpAny_bind (wpAny_askSetting (wpAny_ite ?_))
  split
  · first
      | exact wpAny_bind (wpAny_pure (wpAny_pure (And.intro rfl h0)))
      | exact wpAny_pure (And.intro rfl h0)
  · refine wpAny_bind (wpAny_rule ?_)
    show wpAny _ _ (standAt i2.pos >>= _) _ _ s
    exact wpAny_bind (wpAny_standAt (wpAny_bind (wpAny_mono h (fun it' s' h' => wpAny_pure (And.intro rfl h')) fun _ _ x => x)))
end
end Mine

namespace Mine
open PySem PySem.W PySem.Spec PySem.Calls PyProof.Rows

/-- rows of ints -/
def RowsI (H : Heap) (Rg : Addr → Prop) (h : Heap) (ys : Array Value) (xss : List (List Int)) : Prop :=
  ys.size = xss.length ∧ ∀ (j : Nat) (xs : List Int), xss[j]? = some xs → ∃ b vs, ys[j]? = some (Value.ref b) ∧ Rg b ∧ Lst H h b vs ∧ IntL vs xs

section
variable {H h h1 h2 : Heap} {Rg Rg' S : Addr → Prop} {ys : Array Value} {xss : List (List Int)}
theorem RowsI.nil : RowsI H Rg h #[] [] := ⟨rfl, fun j xs e => by simp at e⟩
theorem RowsI.calm (x : RowsI H Rg h1 ys xss) (c : Calm H S h1 h2) (hS : ∀ b, S b → NotL h1 b ∨ ¬ Rg b) : RowsI H Rg h2 ys xss :=
  ⟨x.1, fun j xs e => let ⟨b, vs, e1, r, l, i⟩ := x.2 j xs e; ⟨b, vs, e1, r, l.calm c fun q => (hS b q).elim (fun r' => r' _ l.isList) fun r' => r' r, i⟩⟩
theorem RowsI.mono (x : RowsI H Rg h ys xss) (hR : ∀ b, b < h.objs.size → Rg b → Rg' b) : RowsI H Rg' h ys xss :=
  ⟨x.1, fun j xs e => let ⟨b, vs, e1, r, l, i⟩ := x.2 j xs e; ⟨b, vs, e1, hR b l.lt r, l, i⟩⟩
theorem RowsI.push (x : RowsI H Rg h ys xss) {b : Addr} {vs : Array Value} {xs : List Int} (r : Rg b) (l : Lst H h b vs) (i : IntL vs xs) : RowsI H Rg h (ys.push (.ref b)) (xss ++ [xs]) := by
  refine ⟨by rw [Array.size_push, x.1, List.length_append]; rfl, fun j zs e => ?_⟩
  by_cases hj : j < xss.length
  · rw [List.getElem?_append_left hj] at e
    obtain ⟨b', vs', e1, rest⟩ := x.2 j zs e
    exact ⟨b', vs', by rw [Array.getElem?_push, if_neg (by rw [x.1]; omega)]; exact e1, rest⟩
  · rw [List.getElem?_append_right (by omega)] at e
    have : j = xss.length := by
      rcases Nat.lt_or_ge (j - xss.length) 1 with q | q
      · omega
      · rw [List.getElem?_eq_none (by simpa using q)] at e; cases e
    subst this
    rw [Nat.sub_self] at e
    cases e
    exact ⟨b, vs, by rw [Array.getElem?_push, if_pos x.1.symm], r, l, i⟩
theorem RowsI.nilc (x : RowsI H Rg h1 ys xss) (c : Calm H Nil h1 h2) : RowsI H Rg h2 ys xss := x.calm c fun _ q => q.elim
end

def putIn (p : Nat) (o : List Int) (k : Nat) : List Int := o.take k ++ [((p : Nat) : Int)] ++ o.drop k
def ordStep (p : Nat) (xss : List (List Int)) : List (List Int) := xss.flatMap fun o => (List.range (p + 1)).map (putIn p o)
def ordI : Nat → List (List Int)
  | 0 => [[]]
  | p + 1 => ordStep p (ordI p)

section
variable {prog : Program} {w : World} {A : Around} {E : Value → Shared → Prop} {s : Shared} {H h h1 h2 : Heap} {mg mb : Str → Option Value} {env : Env} {m cm : Str → Option Value} {C : Str → Addr}

/-- a comprehension stored in a local on its own line -/
theorem exec_comp_local {elt tg iter : Expr} {ifs : List Expr} {rest : List Comprehension} {scope : Scope} {pos px pos2 : Pos} {x : Str} {Q : Flow → Shared → Prop}
    (hs : swapsWith (.ListComp elt (⟨tg, iter, ifs, 0⟩ :: rest) scope pos) (some (.Name x px)) pos2.line env = pure true)
    (h : wpAny (model prog w) A (comprehension (.ListComp elt (⟨tg, iter, ifs, 0⟩ :: rest) scope pos) scope env (firstIterPos (⟨tg, iter, ifs, 0⟩ :: rest) pos) (newList []) false (eval iter env) (some (assign (.Name x px) env))) (fun _ s' => Q .next s') E s) :
    wpAny (model prog w) A (exec (.Assign [.Name x px] (.ListComp elt (⟨tg, iter, ifs, 0⟩ :: rest) scope pos) pos2) env) Q E s := by
  rw [exec_Assign_Name_used _ _ _ _ hs]
  refine wpAny_bind (wpAny_standAt ?_)
  show wpAny _ _ ((comprehension _ scope env (firstIterPos (⟨tg, iter, ifs, 0⟩ :: rest) pos) (newList []) false (eval iter env) (some (assign (.Name x px) env)) >>= fun _ => pure ()) >>= fun _ => pure Flow.next) Q E s
  exact wpAny_bind (wpAny_bind (wpAny_mono h (fun _ s' q => wpAny_pure (wpAny_pure q)) fun _ _ e => e))

/-- order[:k] + [place] + order[k:] -/
theorem l_putIn {b : Addr} {vs : Array Value} {xs : List Int} {p j : Nat} {t tj : Tok} {e : Expr} {Q : Value → Shared → Prop}
    (he : e = .BinOp (.BinOp (.Subscript (.Name "order" ⟨108, 18, 108, 23⟩) (.Slice none (some (.Name "k" ⟨108, 25, 108, 26⟩)) none ⟨108, 24, 108, 26⟩) ⟨108, 18, 108, 27⟩) .Add (.List [.Name "place" ⟨108, 31, 108, 36⟩] ⟨108, 30, 108, 37⟩) ⟨108, 18, 108, 37⟩) .Add
      (.Subscript (.Name "order" ⟨108, 40, 108, 45⟩) (.Slice (some (.Name "k" ⟨108, 46, 108, 47⟩)) none none ⟨108, 46, 108, 48⟩) ⟨108, 40, 108, 49⟩) ⟨108, 18, 108, 49⟩)
    (G : Good H s.heap) (F : Frm H env m cm s.heap) (hk : env.scope.kind = .function) (ko : env.kindOf "order" = some .local) (kk : env.kindOf "k" = some .local) (kp : env.kindOf "place" = some .cell) (hcp : ∃ c, env.cells.lookup ("place" : Str) = some c)
    (ho : m "order" = some (.ref b)) (hj : m "k" = some (.int (j : Nat) tj)) (hp : cm "place" = some (.int (p : Nat) t)) (ll : Lst H s.heap b vs) (hx : IntL vs xs) (hs : xs.length ≤ 100)
    (k : ∀ c h' tk ws, Ext H Nil s.heap h' → s.heap.objs.size ≤ c → Lst H h' c ws → IntL ws (putIn p xs j) → Q (.ref c) (put s h' tk)) : wpAny (model prog w) A (eval e env) Q E s := by
  subst he
  obtain ⟨c0, hcp⟩ := hcp
  have hsz : vs.size ≤ 100 := by rw [hx.1]; exact hs
  refine wpAny_BinOp (wpAny_BinOp (l_slice (H := H) (nm_local F hk ko ho (ep_none (ep_some (nm_local F hk kk hj (ep_none ⟨b, vs, none, some _, none, rfl, ll.isList, by omega, .none, .int _ _, .none, nofun, G.size, fun a1 h1 tk1 l1 X1 ha1 => ?_⟩)))))))
  rw [slicePick_upto'] at l1
  have i1 := hx.take j
  have F1 := F.nil X1.toCalm
  have G1 := X1.good G
  refine l_list (H := H) (spliced_cons (nm_cell F1 hk kp hcp hp (spliced_nil ⟨by simp, G1.size, fun a2 h2 tk2 l2 X2 ha2 => ?_⟩)))
  have i2 : IntL #[Value.int ((p : Nat) : Int) t] [((p : Nat) : Int)] := .ofCons .nil
  have l12 := l1.nil X2.toCalm
  have G2 := X2.good G1
  refine l_addl l12 l2 (by simp; omega) G2.size fun a3 h3 tk3 l3 X3 ha3 => ?_
  have X03 := X1.trans (X2.trans X3)
  have F3 := F.nil X03.toCalm
  have G3 := X3.good G2
  refine l_slice (H := H) (nm_local F3 hk ko ho (ep_some (nm_local F3 hk kk hj (ep_none (ep_none ⟨b, vs, some _, none, none, rfl, (ll.nil X03.toCalm).isList, by omega, .int _ _, .none, .none, nofun, G3.size, fun a4 h4 tk4 l4 X4 ha4 => ?_⟩)))))
  rw [slicePick_from'] at l4
  have i4 := hx.drop j
  refine l_addl (l3.nil X4.toCalm) l4 (by simp; omega) (X4.good G3).size fun a5 h5 tk5 l5 X5 ha5 => ?_
  exact k a5 h5 tk5 _ (X03.trans (X4.trans X5)) (Nat.le_trans (X03.trans X4).size ha5) l5 ((i1.append i2).append i4)
end
end Mine

namespace Mine
open PySem PySem.W PySem.Spec PySem.Calls PyProof.Rows

section
variable {prog : Program} {w : World} {A : Around} {E : Value → Shared → Prop} {s : Shared} {H h h0 h1 h2 : Heap} {mg mb : Str → Option Value} {env ce : Env} {m cm cc : Str → Option Value} {C : Str → Addr}

def ordBody : Stmt := match lawStmt 8 with
  | .For _ _ body _ _ => body.getD 0 default
  | _ => default
def ordComp : Expr := match ordBody with
  | .Assign _ v _ => v
  | _ => default

theorem RowsI.at {Rg : Addr → Prop} {ys : Array Value} {xss : List (List Int)} (x : RowsI H Rg h ys xss) {i : Nat} (hi : i < xss.length) : ∃ b vs, ys[i]? = some (.ref b) ∧ Rg b ∧ Lst H h b vs ∧ IntL vs xss[i] := x.2 i _ (by simp [hi])

set_option maxHeartbeats 4000000 in
theorem ord_loops {R : Result → Shared → Prop} {I D Cc a : Addr} {ys0 : Array Value} {xss : List (List Int)} {p : Nat} {t : Tok} {Rg : Addr → Prop} {m0 : Str → Option Value} (S : Stat H mg mb) (hA : A.handled = none) (G : Good H s.heap)
    (kO : ce.kindOf "order" = some .local) (kK : ce.kindOf "k" = some .local) (kR : ce.kindOf "range" = some .globalImplicit) (kP : ce.kindOf "place" = some .cell) (kcell : ∃ c, ce.cells.lookup ("place" : Str) = some c)
    (kg : ce.globals = mainGlobals) (kb : ce.builtins = builtinsNs) (kloc : ce.locals = Cc) (kkind : ce.scope.kind = .function) (hp : cc "place" = some (.int (p : Nat) t)) (hp4 : p < 4)
    (hlen : xss.length ≤ 30) (hrow : ∀ xs ∈ xss, xs.length ≤ 10) (F : Frm H ce m0 cc s.heap) (X0 : Ext H Nil h0 s.heap) (hI : h0.objs.size ≤ I) (hDC : D < Cc) (hC0 : h0.objs.size ≤ Cc) (hD0 : h0.objs.size ≤ D) (hII : H.objs.size ≤ I) (la : Lst H s.heap a ys0) (haD : a ≠ D) (lD : Lst H s.heap D #[])
    (hr : RowsI H Rg s.heap ys0 xss) (hRD : ¬ Rg D) (st : s.heap.IsListIter I a 0)
    (hR : ∀ h' tk' zs, Ext H Nil h0 h' → Lst H h' D zs → RowsI H (fun b => D < b) h' zs (ordStep p xss) → (∃ m', h'.Ns Cc m') → R (.ok .next) (put s h' tk')) :
    codeAny (model prog w) A (.compStart ordComp 0 (.ref I) (.ref D) ce) R s := by
  have hn : ys0.size = xss.length := hr.1
  have W := Src.list (prog := prog) (w := w) (H := H) (A := A) hA (I := I) (l := a) ys0 hII la.1
  have lapart : ∀ {h' : Heap} {m' : Str → Option Value} {b : Addr} {vs : Array Value}, Frm H ce m' cc h' → Lst H h' b vs → b ≠ Cc := fun F' l q => F'.notL _ (.inl rfl) _ (by rw [kloc, ← q]; exact l.isList)
  have loop : ∀ s₃ : Shared, s = s₃ → codeAny (model prog w) A (.compLoop ordComp 0 (.ref I) (.ref D) ce) R s₃ := by
    rintro s₃ rfl
    refine loop_out (fun k s' => ∃ h' tk i, s' = put s h' tk ∧ (h'.IsListIter I a i ∧ h'.IsList a ys0) ∧ (∃ zs, Lst H h' D zs ∧ zs.size = i * (p + 1) ∧ RowsI H (fun b => D < b) h' zs ((xss.take i).flatMap fun o => (List.range (p + 1)).map (putIn p o))) ∧ (∃ m', Frm H ce m' cc h') ∧ Good H h' ∧ Lst H h' a ys0 ∧ RowsI H Rg h' ys0 xss ∧ Ext H Nil h0 h' ∧ i ≤ xss.length ∧ k = xss.length + 1 - i)
      ?_ (xss.length + 1) ⟨s.heap, s.toks, 0, rfl, ⟨st, la.isList⟩, ⟨#[], lD, by simp, .nil⟩, ⟨_, F⟩, G, la, hr, X0, Nat.zero_le _, rfl⟩ (by intro _; rfl)
    rintro kk s' ⟨h', tk, i, rfl, st', ⟨zs, lz, hz, rz⟩, ⟨m', F'⟩, G', la', hr', X', hi, rfl⟩
    by_cases hlt : i < xss.length
    · refine W.item i _ _ _ (by omega) st' fun v h1 tk1 hv st1 c1 k1 => ?_
      have F1 := F'.nil c1
      have hr1 := hr'.nilc c1
      obtain ⟨b, vs, eb, hRb, lb, ib⟩ := hr1.at hlt
      rw [eb] at hv; cases hv
      have hxl : xss[i].length ≤ 10 := hrow _ (List.getElem_mem _)
      have X1 : Ext H Nil h0 h1 := X'.iter c1 k1 hI
      refine wpAny_assign_Name (st_local F1 kkind kO fun h2 tk2 F2 X2 => ?_)
      rw [kloc] at X2
      have G1 := c1.good G'
      have G2 := X2.good G1
      obtain ⟨c0, kcell'⟩ := kcell
      refine tcall1 G2 S kkind kR kg kb S.gRange rfl (by decide) (wpAny_BinOp (nm_cell F2 kkind kP kcell' hp (l_int fun _ _ => l_add fun _ _ => ?_)))
      have ep : ((p : Nat) : Int) + 1 = ((p + 1 : Nat) : Int) := by omega
      rw [ep]
      refine range_iter (H := H) (by omega) fun I2 h3 tk3 hI2 X3 sr => ?_
      have W2 := Src.range (prog := prog) (w := w) (H := H) (A := A) hA (I := I2) (p + 1) (Nat.le_trans G2.size hI2)
      have X02 : Ext H Nil h0 h2 := X1.trans' X2 fun b q => by have q' : b = Cc := q; rw [q']; exact hC0
      have hI2h : h0.objs.size ≤ I2 := Nat.le_trans X02.size hI2
      have hII2 : I < I2 := by
        obtain ⟨o, e, _⟩ := st1.1
        exact Nat.lt_of_lt_of_le (Heap.lt_size e) (Nat.le_trans X2.size hI2)
      have lz1 := lz.nil c1
      have atC : ∀ {h' : Heap} {m' : Str → Option Value} {b : Addr} {vs : Array Value}, Frm H ce m' cc h' → Lst H h' b vs → ¬ At Cc b := fun F l q => lapart F l q
      have nC : ∀ {h' : Heap} {m' : Str → Option Value}, Frm H ce m' cc h' → ∀ b, At Cc b → NotL h' b := fun F b q vs l => F.notL _ (.inl rfl) vs (by rw [kloc]; have q' : b = Cc := q; rw [← q']; exact l)
      have iterC : ∀ {ha hb : Heap} {S : Addr → Prop} {j : Nat}, Ext H S ha hb → ha.IsListIter I a j → hb.IsListIter I a j := fun X ⟨o, e, hc, hd⟩ => ⟨o, X.flds _ _ _ hII hd e, hc, hd⟩
      have inner : ∀ s₄ : Shared, s₄ = put s h3 tk3 → codeAny (model prog w) A (.compLoop ordComp 1 (.ref I2) (.ref D) ce) (fun r s₅ => match r with
            | .ok _ => ∃ m, m < xss.length + 1 - i ∧ ∃ h' tk i, s₅ = put s h' tk ∧ (h'.IsListIter I a i ∧ h'.IsList a ys0) ∧ (∃ zs, Lst H h' D zs ∧ zs.size = i * (p + 1) ∧ RowsI H (fun b => D < b) h' zs ((xss.take i).flatMap fun o => (List.range (p + 1)).map (putIn p o))) ∧ (∃ m', Frm H ce m' cc h') ∧ Good H h' ∧ Lst H h' a ys0 ∧ RowsI H Rg h' ys0 xss ∧ Ext H Nil h0 h' ∧ i ≤ xss.length ∧ m = xss.length + 1 - i
            | .error e => cameBackBy (model prog w) A ce (notedBy (model prog w) A ce fun e s' => R (.error e) s') e s₅) s₄ := by
        rintro s₄ rfl
        refine loop_in (fun k s' => ∃ h' tk j, s' = put s h' tk ∧ IsRangeIter h' I2 (j : Nat) (((p + 1 : Nat) : Int) - (j : Nat)) 1 ∧ h'.IsListIter I a (i + 1) ∧ (∃ zs, Lst H h' D zs ∧ zs.size = i * (p + 1) + j ∧ RowsI H (fun b => D < b) h' zs (((xss.take i).flatMap fun o => (List.range (p + 1)).map (putIn p o)) ++ (List.range j).map (putIn p xss[i]))) ∧ (∃ m', Frm H ce m' cc h' ∧ m' "order" = some (.ref b)) ∧ Good H h' ∧ Lst H h' a ys0 ∧ Lst H h' b vs ∧ RowsI H Rg h' ys0 xss ∧ Ext H Nil h0 h' ∧ j ≤ p + 1 ∧ k = p + 2 - j)
          ?_ (p + 2) ⟨h3, tk3, 0, rfl, sr, iterC X3 (iterC X2 st1.1), ⟨zs, (lz1.calm X2.toCalm (atC F1 lz1)).nil X3.toCalm, by rw [hz]; rfl, by
            rw [List.range_zero, List.map_nil, List.append_nil]
            exact ((rz.nilc c1).calm X2.toCalm fun b q => .inl (nC F1 b q)).nilc X3.toCalm⟩, ⟨_, F2.nil X3.toCalm, upd_self⟩, X3.good G2,
            ((la'.nil c1).calm X2.toCalm (atC F1 (la'.nil c1))).nil X3.toCalm, (lb.calm X2.toCalm (atC F1 lb)).nil X3.toCalm, (hr1.calm X2.toCalm fun b q => .inl (nC F1 b q)).nilc X3.toCalm, X02.trans X3, Nat.zero_le _, rfl⟩ (by intro _; rfl)
        rintro kk2 s' ⟨h5, tk5, j, rfl, sr5, it5, ⟨zs5, lz5, hz5, rz5⟩, ⟨m5, F5, ho5⟩, G5, la5, lb5, hr5, X5, hj, rfl⟩
        by_cases hjlt : j < p + 1
        · refine W2.item j _ _ _ hjlt sr5 fun v h6 tk6 hv sr6 c6 k6 => ?_
          obtain ⟨tj, rfl⟩ := hv
          have it6 : h6.IsListIter I a (i + 1) := let ⟨o, e, hc, hd⟩ := it5; ⟨o, k6 _ _ (Nat.ne_of_lt hII2) e, hc, hd⟩
          have F6 := F5.nil c6
          have lz6 := lz5.nil c6
          have lb6 := lb5.nil c6
          have la6 := la5.nil c6
          refine wpAny_assign_Name (st_local F6 kkind kK fun h7 tk7 F7 X7 => ?_)
          rw [kloc] at X7
          have G7 := X7.good (c6.good G5)
          have lb7 := lb6.calm X7.toCalm (atC F6 lb6)
          refine l_putIn rfl G7 F7 kkind kO kK kP ⟨c0, kcell'⟩ ((upd_ne (by decide)).trans ho5) upd_self hp lb7 ib (by omega) fun c h8 tk8 ws X8 hc8 lc ic => ?_
          have lz7 := lz6.calm X7.toCalm (atC F6 lz6)
          have lz8 := lz7.nil X8.toCalm
          have hzb : zs5.size ≤ 1000 := by
            rw [hz5]
            have : i * (p + 1) ≤ 30 * 4 := Nat.mul_le_mul (by omega) (by omega)
            omega
          refine l_append lz8 hzb fun h9 tk9 lz9 X9 => ?_
          have F9 := (F7.nil X8.toCalm).list lz8.isList X9.toCalm
          have hDc : D < c := Nat.lt_of_lt_of_le lz7.lt hc8
          refine ⟨p + 2 - (j + 1), by omega, h9, tk9, j + 1, rfl, X9.flds _ _ _ (Nat.le_trans G2.size hI2) rfl (X8.flds _ _ _ (Nat.le_trans G2.size hI2) rfl (X7.flds _ _ _ (Nat.le_trans G2.size hI2) rfl sr6)), iterC X9 (iterC X8 (iterC X7 it6)), ⟨_, lz9, by rw [Array.size_push, hz5]; omega, ?_⟩, ⟨_, F9, (upd_ne (by decide)).trans ho5⟩, X9.good (X8.good G7), ?_, ?_, ?_, ?_, hjlt, rfl⟩
          · rw [show List.range (j + 1) = List.range j ++ [j] from List.range_succ, List.map_append, ← List.append_assoc]
            exact ((((rz5.nilc c6).calm X7.toCalm fun b q => .inl (nC F6 b q)).nilc X8.toCalm).calm X9.toCalm fun b q => .inr fun r => by have q' : b = D := q; rw [q'] at r; exact Nat.lt_irrefl _ r).push hDc (lc.calm X9.toCalm fun q => by have q' : c = D := q; rw [q'] at hDc; exact Nat.lt_irrefl _ hDc) ic
          · exact ((la6.calm X7.toCalm (atC F6 la6)).nil X8.toCalm).calm X9.toCalm haD
          · exact (lb7.nil X8.toCalm).calm X9.toCalm fun q => hRD (by have q' : b = D := q; rw [← q']; exact hRb)
          · exact (((hr5.nilc c6).calm X7.toCalm fun b q => .inl (nC F6 b q)).nilc X8.toCalm).calm X9.toCalm fun b q => .inr fun r => hRD (by have q' : b = D := q; rw [← q']; exact r)
          · exact (((X5.iter c6 k6 hI2h).trans' X7 fun b q => by have q' : b = Cc := q; rw [q']; exact hC0).trans X8).trans' X9 fun b q => by have q' : b = D := q; rw [q']; exact hD0
        · have hje : j = p + 1 := by omega
          subst hje
          refine W2.done _ _ _ sr5 fun h6 tk6 c6 k6 => ?_
          have it6 : h6.IsListIter I a (i + 1) := let ⟨o, e, hc, hd⟩ := it5; ⟨o, k6 _ _ (Nat.ne_of_lt hII2) e, hc, hd⟩
          refine ⟨xss.length + 1 - (i + 1), by omega, h6, tk6, i + 1, rfl, ⟨it6, (la5.nil c6).isList⟩, ⟨zs5, lz5.nil c6, by rw [hz5, Nat.succ_mul], ?_⟩, ⟨m5, F5.nil c6⟩, c6.good G5, la5.nil c6, hr5.nilc c6, X5.iter c6 k6 hI2h, hlt, rfl⟩
          have e : (xss.take (i + 1)).flatMap (fun o => (List.range (p + 1)).map (putIn p o)) = ((xss.take i).flatMap fun o => (List.range (p + 1)).map (putIn p o)) ++ (List.range (p + 1)).map (putIn p xss[i]) := by
            rw [List.take_succ_eq_append_getElem hlt, List.flatMap_append]; simp
          rw [e]
          exact rz5.nilc c6
      exact start_in (inner _ rfl) (W2.self 0 _ _ _ sr (inner _ rfl))
    · have hie : i = xss.length := by omega
      subst hie
      refine W.done _ _ _ (by rw [hn]; exact st') fun h1 tk1 c1 k1 => ?_
      rw [List.take_length] at rz
      exact hR h1 tk1 zs (X'.iter c1 k1 hI) (lz.nil c1) (rz.nilc c1) ⟨m', by rw [← kloc]; exact (F'.nil c1).ns⟩
  exact codeAny_compStart_list (loop _ rfl) (W.self 0 _ _ _ ⟨st, la.isList⟩ (loop _ rfl))
end
end Mine

namespace Mine
open PySem PySem.W PySem.Spec PySem.Calls PyProof.Rows

theorem ordI_len : ∀ p ≤ 4, (ordI p).length ≤ 30 := by decide
theorem ordI_row : ∀ p ≤ 4, ∀ xs ∈ ordI p, xs.length ≤ 10 := by decide

section
variable {prog : Program} {w : World} {A : Around} {E : Value → Shared → Prop} {s : Shared} {H h h0 h1 h2 : Heap} {mg mb : Str → Option Value} {env ce : Env} {m cm cc : Str → Option Value} {C : Str → Addr}

set_option maxHeartbeats 4000000 in
theorem ord_step {a : Addr} {ys0 : Array Value} {xss : List (List Int)} {p : Nat} {t : Tok} {Rg : Addr → Prop} {Q : Flow → Shared → Prop} (S : Stat H mg mb) (hA : A.handled = none) (G : Good H s.heap) (V : LawEnv env C) (F : Frm H env m cm s.heap)
    (ho : m "orders" = some (.ref a)) (la : Lst H s.heap a ys0) (hr : RowsI H Rg s.heap ys0 xss) (hp : cm "place" = some (.int (p : Nat) t)) (hp4 : p < 4) (hlen : xss.length ≤ 30) (hrow : ∀ xs ∈ xss, xs.length ≤ 10)
    (k : ∀ D h' tk' zs, Frm H env (upd m "orders" (.ref D)) cm h' → Ext H (At env.locals) s.heap h' → Lst H h' D zs → RowsI H (fun _ => True) h' zs (ordStep p xss) → Q .next (put s h' tk')) :
    wpAny (model prog w) A (exec ordBody env) Q E s := by
  refine exec_comp_local (swaps_local V.k V.k_orders rfl rfl) ?_
  have K : CompOk { kind := .function, names := [(".0", .local), ("order", .local), ("k", .local), ("range", .globalImplicit), ("place", .free)], isGenerator := false, isCoroutine := false, more := [] } env [("place", C "place")] :=
    compOkC (C := C) (fun n hn => by simp at hn; subst hn; exact V.c_place) rfl (fun p hp => by simp at hp; subst hp; exact V.c_place) (of_decide_eq_true rfl) rfl rfl (by decide)
  refine wpAny_comprehension_free rfl (by intro _; rfl) K.clos K.kind K.names (nm_local F V.k V.k_orders ho (wpAny_pyIter_list la.isList (wpAny_newObj_type ?_)))
  have XI : Ext H Nil s.heap (s.heap.push { cls := .type "list_iterator", data := .fields #[.ref a, .int 0 0] }) := Ext.push _
  have hI : (s.heap.push { cls := .type "list_iterator", data := .fields #[.ref a, .int 0 0] }).IsListIter s.heap.objs.size a 0 := ⟨_, Heap.get?_push_size _ rfl, rfl, rfl⟩
  have hsI : (s.heap.push { cls := .type "list_iterator", data := .fields #[.ref a, .int 0 0] }).objs.size = s.heap.objs.size + 1 := Heap.size_push ..
  generalize s.heap.push { cls := .type "list_iterator", data := .fields #[.ref a, .int 0 0] } = hi at XI hI hsI ⊢
  have XD : Ext H Nil hi (hi.push { cls := .type "list", dict := none, data := .seq ([] : List Value).toArray }) := Ext.push _
  have hHi : H.objs.size ≤ hi.objs.size := Nat.le_trans G.size XI.size
  have lD : Lst H (hi.push { cls := .type "list", dict := none, data := .seq ([] : List Value).toArray }) hi.objs.size #[] := Lst.push hHi []
  have hsD : (hi.push { cls := .type "list", dict := none, data := .seq ([] : List Value).toArray }).objs.size = hi.objs.size + 1 := Heap.size_push ..
  generalize hi.push { cls := .type "list", dict := none, data := .seq ([] : List Value).toArray } = hd at XD lD hsD ⊢
  have X0d : Ext H Nil s.heap hd := XI.trans XD
  refine new_cenv (H := H) (Nat.le_trans hHi XD.size) (F.nil X0d.toCalm) K.sub K.nd K.free fun hc Fc Xc => ?_
  dsimp only at Fc Xc ⊢
  have X0c : Ext H Nil s.heap hc := X0d.trans Xc
  have stc : hc.IsListIter s.heap.objs.size a 0 := by
    obtain ⟨o, ho, hcl, hdd⟩ := hI
    exact ⟨o, (XD.trans Xc).flds _ _ _ G.size hdd ho, hcl, hdd⟩
  have haI : a < s.heap.objs.size := la.lt
  have e1 : hi.objs.size < hd.objs.size := by rw [hsD]; exact Nat.lt_succ_self _
  have e2 : a ≠ hi.objs.size := by rw [hsI]; exact Nat.ne_of_lt (Nat.lt_succ_of_lt haI)
  have e3 : ¬ (hi.objs.size < s.heap.objs.size) := by rw [hsI]; exact Nat.not_lt.mpr (Nat.le_succ _)
  refine ord_loops (h0 := s.heap) (Cc := hd.objs.size) (cc := compCm { kind := .function, names := [(".0", .local), ("order", .local), ("k", .local), ("range", .globalImplicit), ("place", .free)], isGenerator := false, isCoroutine := false, more := [] } cm) (Rg := fun b => Rg b ∧ b < s.heap.objs.size) (ce := cenvOf _ env [("place", C "place")] hd.objs.size) S hA (X0c.good G) (ck_local rfl) (ck_local rfl) (ck_glob rfl) (ck_free rfl V.k V.k_place) ⟨_, rfl⟩ V.g V.b rfl rfl hp hp4 hlen hrow Fc X0c (Nat.le_refl _) e1 X0d.size XI.size G.size (la.nil X0c.toCalm) e2 (lD.nil Xc.toCalm)
    ((hr.mono fun b hb r => ⟨r, hb⟩).nilc X0c.toCalm) (fun q => e3 q.2) stc fun h' tk' zs X' lz rz hns => ?_
  refine end_use G.size F V.k V.k_orders X' hns X0d.size fun h'' tk'' F'' X'' X3 hno => ?_
  refine k _ h'' tk'' zs F'' X'' (lz.calm X3.toCalm fun q => hno _ zs q lz.isList) ((rz.calm X3.toCalm fun b q => .inl fun vs => hno b vs q).mono fun _ _ _ => trivial)

set_option maxHeartbeats 4000000 in
theorem ph_orders {a : Addr} {ys0 : Array Value} {n : Nat} {Q : Flow → Shared → Prop} (S : Stat H mg mb) (hA : Ok A n) (G : Good H s.heap) (V : LawEnv env C) (F : Frm H env m cm s.heap)
    (ho : m "orders" = some (.ref a)) (la : Lst H s.heap a ys0) (hr : RowsI H (fun _ => True) s.heap ys0 [[]])
    (k : ∀ m' cm' D h' tk' zs, Frm H env m' cm' h' → (∀ z : Str, z ≠ "place" → cm' z = cm z) → (∀ z : Str, z ≠ "orders" → m' z = m z) → m' "orders" = some (.ref D) → Ext H (Own env) s.heap h' → Lst H h' D zs → RowsI H (fun _ => True) h' zs (ordI 4) → Q .next (put s h' tk')) :
    wpAny (model prog w) A (exec (lawStmt 8) env) Q E s := by
  refine st_for_range (H := H) (n := 4) (S' := Own env) hA.1 G S V.k V.k_range V.g V.b (by decide) (fun Q' hq => l_int fun t tk => hq t tk)
    (fun i h' => ∃ m' cm' a ys, Frm H env m' cm' h' ∧ Good H h' ∧ (∀ z : Str, z ≠ "place" → cm' z = cm z) ∧ (∀ z : Str, z ≠ "orders" → m' z = m z) ∧ m' "orders" = some (.ref a) ∧ Lst H h' a ys ∧ RowsI H (fun _ => True) h' ys (ordI i)) (fun _ _ => False)
    ⟨m, cm, a, ys0, F, G, fun _ _ => rfl, fun _ _ => rfl, ho, la, hr⟩
    (fun i ha hb ⟨m', cm', a, ys, F', G', h1, h2, h3, h4, h5⟩ c => ⟨m', cm', a, ys, F'.nil c, c.good G', h1, h2, h3, h4.nil c, h5.nilc c⟩) ?_ ?_ (fun _ _ _ _ r => r.elim)
  · rintro i t s₁ Q' E' hi ⟨m', cm', a', ys, F', G', hc, hm, ho', la', hr'⟩ X' hq
    refine st_cell F' V.k V.k_place V.c_place fun h1 tk1 F1 X1 => ?_
    refine wpAny_execs_cons (ord_step (p := i) S hA.1 (X1.good G') V F1 ho' (la'.cel F' V.c_place X1.toCalm) (hr'.calm X1.toCalm fun b q => .inl (F'.notL b (Own.cell V.c_place b q))) upd_self hi (ordI_len i (by omega)) (ordI_row i (by omega)) fun D h2 tk2 zs F2 X2 lz rz => wpAny_execs_nil ?_)
    refine hq _ _ _ ((X1.mono (Own.cell V.c_place)).trans (X2.mono Own.loc)) ⟨_, _, D, zs, F2, X2.good (X1.good G'), fun z hz => (upd_ne hz).trans (hc z hz), fun z hz => (upd_ne hz).trans (hm z hz), upd_self, lz, rz⟩
  · rintro h' tk' X' ⟨m', cm', a', ys, F', G', hc, hm, ho', la', hr'⟩
    exact k m' cm' a' h' tk' ys F' hc hm ho' X' la' hr'
end
end Mine

namespace Mine
open PySem PySem.W PySem.Spec PySem.Calls PyProof.Rows

def ordN : Nat → List (List Nat)
  | 0 => [[]]
  | p + 1 => (ordN p).flatMap fun o => (List.range (p + 1)).map fun k => o.take k ++ [p] ++ o.drop k
theorem ordI_eq : ordI 4 = (ordN 4).map intsOf := by decide
def stopsN (row o : List Nat) (k : Nat) : List Nat := row.filter fun x => (o.take (k + 1)).contains x
def nowAt (ap : Nat → Nat → Int) (st : List Nat) (k t : Nat) : Int := ap (st.getD t 0) (st.getD (if t = 0 then k else t - 1) 0)
def nowN (ap : Nat → Nat → Int) (row o : List Nat) (k : Nat) : Int := ((List.range (k + 1)).map (nowAt ap (stopsN row o k) k)).sum
def wayN (ap : Nat → Nat → Int) (row o : List Nat) : Nat → Int
  | 0 => 0
  | k + 1 => nowN ap row o k
def growO (ap : Nat → Nat → Int) (row o : List Nat) (g : List Int) : Nat → List Int
  | 0 => g
  | k + 1 => (growO ap row o g k).set (o.getD k 0) ((growO ap row o g k).getD (o.getD k 0) 0 + (nowN ap row o k - wayN ap row o k))
def grownN (ap : Nat → Nat → Int) (row : List Nat) (os : List (List Nat)) (g : List Int) : List Int := os.foldl (fun g o => growO ap row o g 4) g

theorem growO_len (ap : Nat → Nat → Int) (row o : List Nat) (g : List Int) : ∀ k, (growO ap row o g k).length = g.length
  | 0 => rfl
  | k + 1 => by unfold growO; rw [List.length_set, growO_len ap row o g k]

theorem ordN_facts : ∀ o ∈ ordN 4, o.length = 4 ∧ ∀ x ∈ o, x < 4 := by decide
theorem stops_facts : ∀ row ∈ ordN 4, ∀ o ∈ ordN 4, ∀ k < 4, (stopsN row o k).length = k + 1 ∧ ∀ x ∈ stopsN row o k, x < 4 := by decide +kernel
theorem rowN_mem (num : Nat → Nat) : ∀ i, rowN num i ∈ ordN i
  | 0 => .head _
  | i + 1 => by
    unfold ordN
    rw [List.mem_flatMap]
    refine ⟨rowN num i, rowN_mem num i, ?_⟩
    rw [List.mem_map]
    refine ⟨bs (fun j => nameLt (num ((rowN num i).getD j 0)) (num i)) (rowN num i).length 0 (rowN num i).length, ?_, ?_⟩
    · rw [List.mem_range]
      have := bs_le (fun j => nameLt (num ((rowN num i).getD j 0)) (num i)) (rowN num i).length 0 (rowN num i).length (Nat.zero_le _)
      rw [rowN_len] at this ⊢
      omega
    · simp [rowN, rowStep, insAt]

theorem filter_range {row : List Nat} {q : Nat → Bool} : ((List.range row.length).filter fun i => q (row.getD i 0)).map (fun i => ((row.getD i 0 : Nat) : Int)) = intsOf (row.filter q) := by
  have e := range_getD row 0
  conv => rhs; rw [← e]
  rw [List.filter_map, intsOf, List.map_map]
  rfl
theorem ints_contains {xs : List Nat} {x : Nat} : (intsOf xs).contains ((x : Nat) : Int) = xs.contains x := by
  induction xs with
  | nil => rfl
  | cons y r ih =>
    rw [intsOf, List.map_cons, List.contains_cons, List.contains_cons]
    rw [intsOf] at ih
    rw [ih]
    congr 1
    rw [Bool.eq_iff_iff]
    simp only [beq_iff_eq]
    exact Int.ofNat_inj
theorem intsOf_getD {xs : List Nat} {i : Nat} (h : i < xs.length) : (intsOf xs).getD i 0 = ((xs.getD i 0 : Nat) : Int) := by simp [intsOf, List.getD, h]
theorem intsOf_len (xs : List Nat) : (intsOf xs).length = xs.length := by simp [intsOf]
theorem intsOf_take (xs : List Nat) (k : Nat) : (intsOf xs).take k = intsOf (xs.take k) := by simp [intsOf, List.map_take]
theorem intsOf_drop (xs : List Nat) (k : Nat) : (intsOf xs).drop k = intsOf (xs.drop k) := by simp [intsOf, List.map_drop]

section
variable {prog : Program} {w : World} {A : Around} {E : Value → Shared → Prop} {s : Shared} {H h h0 h1 h2 : Heap} {mg mb : Str → Option Value} {env ce : Env} {m cm cc : Str → Option Value} {C : Str → Addr}

/-- an item of a list of places -/
theorem sOnN {l : Addr} {vs : Array Value} {xs : List Nat} {i : Nat} {k : Int} {t : Tok} {Q : Value → Shared → Prop} (ll : s.heap.IsList l vs) (hx : IntL vs (intsOf xs)) (hk : k = (i : Nat)) (hi : i < xs.length) (hs : xs.length ≤ 1000)
    (h : ∀ t', Q (.int ((xs.getD i 0 : Nat) : Int) t') s) : SubscriptOn (model prog w) A (.ref l) (.int k t) Q E s :=
  sOnI ll hx hk (by rw [intsOf_len]; exact hi) (by rw [intsOf_len]; exact hs) fun t' => by rw [intsOf_getD hi]; exact h t'
/-- ... counted from the end -/
theorem sOnLast {l : Addr} {vs : Array Value} {xs : List Nat} {k : Nat} {t : Tok} {Q : Value → Shared → Prop} (ll : s.heap.IsList l vs) (hx : IntL vs (intsOf xs)) (hk : xs.length = k + 1) (hs : xs.length ≤ 1000)
    (h : ∀ t', Q (.int ((xs.getD k 0 : Nat) : Int) t') s) : SubscriptOn (model prog w) A (.ref l) (.int (-1) t) Q E s := by
  obtain ⟨t', e⟩ := hx.get (i := k) (by rw [intsOf_len]; omega)
  rw [intsOf_getD (by omega)] at e
  have hsz : vs.size = k + 1 := by rw [hx.1, intsOf_len, hk]
  refine ⟨"list", _, list_getitem_lookup, ll.typeIs, wpAny_getItem_list_neg ll (by omega) (by omega) (by omega) (x := Value.int ((xs.getD k 0 : Nat) : Int) t') ?_ (h t')⟩
  rw [show (-1 + (vs.size : Int)).toNat = k by omega]
  exact e

/-- apart[i][j] -/
theorem sOnRow {num : Nat → Nat} {R : Addr → Prop} {D : Addr} {i : Nat} {k : Int} {t : Tok} {Q : Value → Shared → Prop} (lD : FL H (ApRow H num) 4 R s.heap D) (hk : k = (i : Nat)) (hi : i < 4)
    (h : ∀ a vs, Lst H s.heap a vs → IntL vs ((List.range 4).map fun r => apN (num i) (num r)) → Q (.ref a) s) : SubscriptOn (model prog w) A (.ref D) (.int k t) Q E s := by
  subst hk
  obtain ⟨_, ys, ll, hn, hp⟩ := lD
  have e : ys[i]? = some (ys[i]'(by omega)) := by simp [hn, hi]
  obtain ⟨a, ea, xa⟩ := hp i _ e
  obtain ⟨_, vs, la, sa⟩ := xa.ints
  refine sOn (x := ys[i]'(by omega)) ll.isList (by omega) e (by omega) ?_
  rw [ea]
  exact h a vs la sa
end
end Mine

namespace Mine
open PySem PySem.W PySem.Spec PySem.Calls PyProof.Rows

section
variable {prog : Program} {w : World} {A : Around} {E : Value → Shared → Prop} {s : Shared} {H h h0 h1 h2 : Heap} {mg mb : Str → Option Value} {env ce : Env} {m cm cc : Str → Option Value} {C : Str → Addr} {cl : List (Str × Addr)} {scope : Scope}

theorem eval_filter {iter test : Expr} {pos px pe : Pos} {x : Str} {n : Nat} {f : Nat → Int} {p : Nat → Bool} {Q : Value → Shared → Prop}
    (hh : A.handled = none) (G0 : Good H s.heap) (F : Frm H env m cm s.heap) (K : CompOk scope env cl) (hn : n ≤ 1000)
    (hfirst : wpAny (model prog w) A (eval iter env) (fun x s₁ => wpAny (model prog w) A (pyIter x) (fun it s₂ => ∃ I h2 tk2, it = .ref I ∧ s₂ = put s h2 tk2 ∧ s.heap.objs.size ≤ I ∧ Ext H Nil s.heap h2 ∧ Feed prog w H A cl I n (fun i v => ∃ t, v = .int (f i) t) h2) E s₁) E s)
    (hx : ∀ C, (cenvOf scope env cl C).kindOf x = some .local)
    (turn : ∀ C i t m' cm' (s₁ : Shared) (Q' : Bool → Shared → Prop) (E' : Value → Shared → Prop), i < n → Frm H (cenvOf scope env cl C) m' cm' s₁.heap → m' x = some (.int (f i) t) → (∀ z, isCellOf scope z = false → cm' z = cm z) →
      Ext H Nil s.heap s₁.heap → Good H s₁.heap → (∀ h' tk', Ext H Nil s₁.heap h' → Q' (p i) (put s₁ h' tk')) → wpAny (model prog w) A (isTrue test (cenvOf scope env cl C) (eval test (cenvOf scope env cl C))) Q' E' s₁)
    (fin : ∀ D h' tk' ys, Ext H Nil s.heap h' → Lst H h' D ys → s.heap.objs.size ≤ D → IntL ys (((List.range n).filter p).map f) → Q (.ref D) (put s h' tk'))
    (hxd : (x == ("__debug__" : Str)) = false := by decide)
    (hs : ∀ x, foldedSetIterable iter env x = pure x := by intro _; rfl) :
    wpAny (model prog w) A (eval (.ListComp (.Name x pe) [⟨.Name x px, iter, [test], 0⟩] scope pos) env) Q E s := by
  rw [eval_ListComp]
  refine comp_filter hh G0 F K hn hs hfirst hx turn hxd fun D C h' tk' ys X l hl hy hns hC => ?_
  exact end_none G0.size X hns hC fun h'' X'' XC hno => fin D h'' tk' ys X'' (l.calm XC.toCalm fun q => hno ys (by have q' : D = C := q; rw [← q']; exact l.isList)) hl hy

theorem exec_filter {iter test : Expr} {pos px pe pt pos2 : Pos} {x t : Str} {n : Nat} {f : Nat → Int} {p : Nat → Bool} {Q : Flow → Shared → Prop}
    (hs2 : swapsWith (.ListComp (.Name x pe) [⟨.Name x px, iter, [test], 0⟩] scope pos) (some (.Name t pt)) pos2.line env = pure true) (hk : env.scope.kind = .function) (hl : env.kindOf t = some .local)
    (hh : A.handled = none) (G0 : Good H s.heap) (F : Frm H env m cm s.heap) (K : CompOk scope env cl) (hn : n ≤ 1000)
    (hfirst : wpAny (model prog w) A (eval iter env) (fun x s₁ => wpAny (model prog w) A (pyIter x) (fun it s₂ => ∃ I h2 tk2, it = .ref I ∧ s₂ = put s h2 tk2 ∧ s.heap.objs.size ≤ I ∧ Ext H Nil s.heap h2 ∧ Feed prog w H A cl I n (fun i v => ∃ t, v = .int (f i) t) h2) E s₁) E s)
    (hx : ∀ C, (cenvOf scope env cl C).kindOf x = some .local)
    (turn : ∀ C i t m' cm' (s₁ : Shared) (Q' : Bool → Shared → Prop) (E' : Value → Shared → Prop), i < n → Frm H (cenvOf scope env cl C) m' cm' s₁.heap → m' x = some (.int (f i) t) → (∀ z, isCellOf scope z = false → cm' z = cm z) →
      Ext H Nil s.heap s₁.heap → Good H s₁.heap → (∀ h' tk', Ext H Nil s₁.heap h' → Q' (p i) (put s₁ h' tk')) → wpAny (model prog w) A (isTrue test (cenvOf scope env cl C) (eval test (cenvOf scope env cl C))) Q' E' s₁)
    (fin : ∀ D h' tk' ys, Frm H env (upd m t (.ref D)) cm h' → Ext H (At env.locals) s.heap h' → Lst H h' D ys → s.heap.objs.size ≤ D → IntL ys (((List.range n).filter p).map f) → Q .next (put s h' tk'))
    (hxd : (x == ("__debug__" : Str)) = false := by decide)
    (hs : ∀ x, foldedSetIterable iter env x = pure x := by intro _; rfl) :
    wpAny (model prog w) A (exec (.Assign [.Name t pt] (.ListComp (.Name x pe) [⟨.Name x px, iter, [test], 0⟩] scope pos) pos2) env) Q E s := by
  refine exec_comp_local hs2 ?_
  refine comp_filter hh G0 F K hn hs hfirst hx turn hxd fun D C h' tk' ys X l hlD hy hns hC => ?_
  exact end_use G0.size F hk hl X hns hC fun h'' tk'' F'' X'' X3 hno => fin D h'' tk'' ys F'' X'' (l.calm X3.toCalm fun q => hno _ ys q l.isList) hlD hy

def innerFor : Stmt := match lawStmt 10 with
  | .For _ _ body _ _ => body.getD 1 default
  | _ => default
def innerStmt (k : Nat) : Stmt := match innerFor with
  | .For _ _ body _ _ => body.getD k default
  | _ => default

/-- stops = [place for place in row if place in came] -/
theorem g_stops {l c : Addr} {vr vc : Array Value} {row came : List Nat} {Q : Flow → Shared → Prop} (hA : A.handled = none) (G : Good H s.heap) (V : LawEnv env C) (F : Frm H env m cm s.heap)
    (hr : m "row" = some (.ref l)) (lr : Lst H s.heap l vr) (ir : IntL vr (intsOf row)) (hc : cm "came" = some (.ref c)) (lc : Lst H s.heap c vc) (ic : IntL vc (intsOf came)) (hlen : row.length ≤ 1000)
    (k : ∀ D h' tk' ys, Frm H env m (upd cm "stops" (.ref D)) h' → Ext H (At (C "stops")) s.heap h' → Lst H h' D ys → IntL ys (intsOf (row.filter fun x => came.contains x)) → Q .next (put s h' tk')) :
    wpAny (model prog w) A (exec (innerStmt 1) env) Q E s := by
  refine wpAny_Assign_Name (hs := swaps_cell V.k_stops) (eval_filter (cl := [("came", C "came")]) (n := row.length) (f := fun i => ((row.getD i 0 : Nat) : Int)) (p := fun i => came.contains (row.getD i 0)) hA G F
    (compOkC (C := C) (fun n hn => by simp at hn; subst hn; exact V.c_came) rfl (fun p hp => by simp at hp; subst hp; exact V.c_came) (of_decide_eq_true rfl) rfl rfl (by decide)) hlen
    (nm_local F V.k V.k_row hr (feed_list (cl := [("came", C "came")]) (P := fun i v => ∃ t, v = .int ((row.getD i 0 : Nat) : Int) t) hA G.size lr (fun i v hv => ?_) (fun p hp => by simp at hp; subst hp; exact fun q => F.notL _ (.inr ⟨"came", mem_of_lookup V.c_came⟩) _ (q ▸ lr.isList)) fun I h1 hI X1 fd => ⟨I, h1, _, rfl, rfl, hI, X1, ?_⟩))
    (fun C => ck_local rfl) ?_ fun D h' tk' ys X' l' hD hy => ?_)
  · have hi : i < row.length := by
      rw [← intsOf_len, ← ir.1]
      rcases Nat.lt_or_ge i vr.size with q | q
      · exact q
      · rw [Array.getElem?_eq_none q] at hv; cases hv
    obtain ⟨t, e⟩ := ir.get (i := i) (by rw [intsOf_len]; exact hi)
    rw [e, intsOf_getD hi] at hv; cases hv
    exact ⟨t, rfl⟩
  · have := ir.1
    rw [intsOf_len] at this
    exact this ▸ fd
  · rintro C1 i t m1 cm1 s1 Q1 E1 hi F1 hv hcm X1 G1 hq
    refine wpAny_isTrue_Compare1 (nm_local F1 rfl (ck_local rfl) hv (nm_cell F1 rfl (ck_free rfl V.k V.k_came) rfl ((hcm "came" rfl).trans hc) (l_in (lc.nil X1.toCalm).isList ic (wpAny_truthy_bool ?_))))
    rw [ints_contains]
    exact hq _ _ .refl
  · rw [filter_range] at hy
    refine st_cell (F.nil X'.toCalm) V.k V.k_stops V.c_stops fun h2 tk2 F2 X2 => k D h2 tk2 ys F2 (X'.to.trans X2) (l'.cel (F.nil X'.toCalm) V.c_stops X2.toCalm) hy

/-- now = sum([apart[stops[t]][stops[t - 1]] for t in range(k + 1)]) -/
theorem g_now {l D : Addr} {vs : Array Value} {st : List Nat} {num : Nat → Nat} {k n : Nat} {tk0 : Tok} {R : Addr → Prop} {Q : Flow → Shared → Prop} (S : Stat H mg mb) (hA : Ok A n) (G : Good H s.heap) (V : LawEnv env C) (F : Frm H env m cm s.heap)
    (hk : m "k" = some (.int (k : Nat) tk0)) (hk4 : k < 4) (hst : cm "stops" = some (.ref l)) (ll : Lst H s.heap l vs) (is : IntL vs (intsOf st)) (hD : cm "apart" = some (.ref D)) (lD : FL H (ApRow H num) 4 R s.heap D) (hlen : st.length = k + 1) (hlt : ∀ x ∈ st, x < 4)
    (kk : ∀ t h' tk', Frm H env (upd m "now" (.int ((List.range (k + 1)).map (nowAt (fun i j => apN (num i) (num j)) st k)).sum t)) cm h' → Ext H (At env.locals) s.heap h' → Q .next (put s h' tk')) :
    wpAny (model prog w) A (exec (innerStmt 2) env) Q E s := by
  have get4 : ∀ i, i < st.length → st.getD i 0 < 4 := fun i hi => by
    have : st.getD i 0 = st[i] := by simp [List.getD, hi]
    rw [this]; exact hlt _ (List.getElem_mem _)
  refine wpAny_Assign_Name (bcall1 G S V.k V.k_sum V.g V.b S.gSum rfl (by decide) (eval_comp (cl := [("stops", C "stops"), ("apart", C "apart")]) (n := k + 1) (loc := true) (P := fun i v => ∃ t, v = .int ((i : Nat) : Int) t) (PY := FI (nowAt (fun i j => apN (num i) (num j)) st k)) hA.1 G F
    (compOkC (C := C) (fun n hn => by
      simp at hn
      rcases hn with rfl | rfl
      · exact V.c_apart
      · exact V.c_stops) rfl (fun p hp => by
      simp at hp
      rcases hp with rfl | rfl
      · exact V.c_stops
      · exact V.c_apart) (of_decide_eq_true rfl) rfl rfl (by decide)) (by omega)
    (tcall1 G S V.k V.k_range V.g V.b S.gRange rfl (by decide) (wpAny_BinOp (nm_local F V.k V.k_k hk (l_int fun _ _ => l_add fun _ _ => ?first))))
    (fun C => ck_local rfl) (fun q => by cases q) FI.fam ?turn ?fin))
  case first =>
    rw [show ((k : Nat) : Int) + 1 = ((k + 1 : Nat) : Int) by omega]
    exact feed_range hA.1 G.size (by omega) fun I h' tk hI X fd => ⟨I, h', tk, rfl, rfl, hI, X, fd⟩
  case turn =>
    rintro C1 i v m1 cm1 s1 Q1 E1 hi ⟨t, rfl⟩ F1 hv hc X1 G1 hq
    have l1 := ll.nil X1.toCalm
    have lD1 := lD.nil ApRow.fam X1.toCalm
    have hcs : cm1 "stops" = some (.ref l) := (hc "stops" (by decide) rfl).trans hst
    have hcd : cm1 "apart" = some (.ref D) := (hc "apart" (by decide) rfl).trans hD
    refine sub_any (sub_any (nm_cell F1 rfl (ck_free rfl V.k V.k_apart) rfl hcd (sub_any (nm_cell F1 rfl (ck_free rfl V.k V.k_stops) rfl hcs (nm_local F1 rfl (ck_local rfl) hv (sOnN l1.isList is rfl (by omega) (by omega) fun t1 => ?_))))))
    refine sOnRow lD1 rfl (get4 i (by omega)) fun a va la ia => ?_
    refine sub_any (nm_cell F1 rfl (ck_free rfl V.k V.k_stops) rfl hcs (wpAny_BinOp (nm_local F1 rfl (ck_local rfl) hv (l_int fun _ _ => l_sub fun _ tkz => ?_))))
    have fin : ∀ (j : Nat), j < 4 → ∀ (t2 : Tok), st.getD (if i = 0 then k else i - 1) 0 = j → SubscriptOn (model prog w) A (.ref a) (.int ((j : Nat) : Int) t2) Q1 E1 (tick s1 tkz) := by
      intro j hj t2 ej
      refine sOnI la.isList ia rfl (by simpa using hj) (by simp) fun t3 => hq _ _ _ .refl ⟨t3, ?_⟩
      have e1 : ((List.range 4).map fun r => apN (num (st.getD i 0)) (num r)).getD j 0 = apN (num (st.getD i 0)) (num j) := by simp [List.getD, hj]
      rw [e1, ← ej]
      rfl
    by_cases h0 : i = 0
    · subst h0
      rw [show (((0 : Nat) : Int) - 1) = -1 by decide]
      refine sOnLast l1.isList is hlen (by omega) fun t2 => fin _ (get4 k (by omega)) t2 (by simp)
    · rw [show ((i : Nat) : Int) - 1 = ((i - 1 : Nat) : Int) by omega]
      refine sOnN l1.isList is rfl (by omega) (by omega) fun t2 => fin _ (get4 (i - 1) (by omega)) t2 (by rw [if_neg h0])
  case fin =>
    intro D2 h' tk' X' fl
    obtain ⟨_, ys, lD2, sD⟩ := fl.ints
    refine l_sum (H := H) hA.1 lD2.isList sD fun h3 tk3 t3 X3 => ?_
    have F3 := (F.nil X'.toCalm).nil X3.toCalm
    exact st_local F3 V.k V.k_now fun h4 tk4 F4 X4 => kk t3 h4 tk4 F4 (X'.to.trans (X3.to.trans X4))
end
end Mine

namespace Mine
open PySem PySem.W PySem.Spec PySem.Calls PyProof.Rows

def innerBody : List Stmt := match innerFor with
  | .For _ _ body _ _ => body
  | _ => []

section
variable {prog : Program} {w : World} {A : Around} {E : Value → Shared → Prop} {s : Shared} {H h h0 h1 h2 : Heap} {mg mb : Str → Option Value} {env ce : Env} {m cm cc : Str → Option Value} {C : Str → Addr} {cl : List (Str × Addr)} {scope : Scope}

theorem sOnG {l : Addr} {xs : List Int} {i : Nat} {k : Int} {t : Tok} {Q : Value → Shared → Prop} (ll : GI H s.heap l xs) (hk : k = (i : Nat)) (hi : i < xs.length) (hs : xs.length ≤ 1000)
    (h : ∀ t', Q (.int (xs.getD i 0) t') s) : SubscriptOn (model prog w) A (.ref l) (.int k t) Q E s := by
  obtain ⟨_, vs, hl, hx⟩ := ll
  exact sOnI hl hx hk hi hs h

set_option maxHeartbeats 2000000 in
theorem g_turn {bo l D g : Addr} {vo vr : Array Value} {o row : List Nat} {num : Nat → Nat} {k n : Nat} {xs : List Int} {wv : Int} {tk0 tw : Tok} {R : Addr → Prop} {Q : Flow → Shared → Prop} (S : Stat H mg mb) (hA : Ok A n) (G : Good H s.heap) (V : LawEnv env C) (F : Frm H env m cm s.heap)
    (ho : m "order" = some (.ref bo)) (lo : Lst H s.heap bo vo) (io : IntL vo (intsOf o)) (hoo : o ∈ ordN 4) (hr : m "row" = some (.ref l)) (lr : Lst H s.heap l vr) (ir : IntL vr (intsOf row)) (hro : row ∈ ordN 4)
    (hD : cm "apart" = some (.ref D)) (lD : FL H (ApRow H num) 4 R s.heap D) (hg : m "grown" = some (.ref g)) (lg : GI H s.heap g xs) (hxs : xs.length = 4) (hk : m "k" = some (.int (k : Nat) tk0)) (hk4 : k < 4) (hw : m "way" = some (.int wv tw))
    (kk : ∀ m' cm' h' tk' t', Frm H env m' cm' h' → (∀ z : Str, z ≠ "now" → z ≠ "way" → m' z = m z) → (∀ z : Str, z ≠ "came" → z ≠ "stops" → cm' z = cm z) → m' "way" = some (.int (nowN (fun i j => apN (num i) (num j)) row o k) t') → Ext H (fun b => Own env b ∨ b = g) s.heap h' →
      GI H h' g (xs.set (o.getD k 0) (xs.getD (o.getD k 0) 0 + (nowN (fun i j => apN (num i) (num j)) row o k - wv))) → Q .next (put s h' tk')) :
    wpAny (model prog w) A (execs innerBody env) Q E s := by
  obtain ⟨hol, holt⟩ := ordN_facts o hoo
  obtain ⟨hrl, hrlt⟩ := ordN_facts row hro
  obtain ⟨hsl, hslt⟩ := stops_facts row hro o hoo k hk4
  have hok : o.getD k 0 < 4 := by
    have : o.getD k 0 = o[k] := by simp [List.getD, hol, hk4]
    rw [this]; exact holt _ (List.getElem_mem _)
  have hvo : vo.size = 4 := by rw [io.1, intsOf_len, hol]
  -- came
  refine wpAny_execs_cons (wpAny_Assign_Name (l_slice (H := H) (nm_local F V.k V.k_order ho (ep_none (ep_some (wpAny_BinOp (nm_local F V.k V.k_k hk (l_int fun _ _ => l_add fun _ _ => ep_none ⟨bo, vo, none, some _, none, rfl, lo.isList, by omega, .none, .int _ _, .none, nofun, G.size, fun a1 h1 tk1 l1 X1 ha1 => ?_⟩))))))))
  have ec : slicePick vo none (some (((k : Nat) : Int) + 1)) none = (vo.toList.take (k + 1)).toArray := slicePick_upto' vo (k + 1)
  rw [ec] at l1
  have i1 : IntL (vo.toList.take (k + 1)).toArray (intsOf (o.take (k + 1))) := by rw [← intsOf_take]; exact io.take _
  have F1 := F.nil X1.toCalm
  refine st_cell F1 V.k V.k_came V.c_came fun h2 tk2 F2 X2 => ?_
  have G2 := X2.good (X1.good G)
  have l2 := l1.cel F1 V.c_came X2.toCalm
  have X02 : Ext H (Own env) s.heap h2 := X1.to.trans (X2.mono (Own.cell V.c_came))
  -- stops
  refine wpAny_execs_cons (g_stops hA.1 G2 V F2 hr (lr.own F X02.toCalm) ir upd_self l2 i1 (by omega) fun D3 h3 tk3 ys F3 X3 l3 i3 => ?_)
  have G3 := X3.good G2
  have X03 : Ext H (Own env) s.heap h3 := X02.trans (X3.mono (Own.cell V.c_stops))
  have lD3 : FL H (ApRow H num) 4 R h3 D := lD.own ApRow.fam F X03.toCalm fun b q => .inl q
  -- now
  refine wpAny_execs_cons (g_now S hA G3 V F3 hk hk4 upd_self l3 i3 ((upd_ne (by decide)).trans ((upd_ne (by decide)).trans hD)) lD3 hsl hslt fun t4 h4 tk4 F4 X4 => ?_)
  have G4 := X4.good G3
  have X04 : Ext H (Own env) s.heap h4 := X03.trans (X4.mono Own.loc)
  have lg4 := lg.own F X04.toCalm fun b q => .inl q
  have lo4 := lo.own F X04.toCalm
  -- grown[order[k]] += now - way
  refine wpAny_execs_cons (wpAny_AugAssign_SubscriptAny (nm_local F4 V.k V.k_grown ((upd_ne (by decide)).trans hg) (sub_any (nm_local F4 V.k V.k_order ((upd_ne (by decide)).trans ho) (nm_local F4 V.k V.k_k ((upd_ne (by decide)).trans hk) (sOnN lo4.isList io rfl (by omega) (by omega) fun t5 => ?_))))))
  obtain ⟨lgo, vg, hlg, ig⟩ := id lg4
  obtain ⟨tg, eg⟩ := ig.get (i := o.getD k 0) (by omega)
  refine wpAny_getItem_list hlg (by omega) (by omega) (by simpa using eg) ?_
  refine wpAny_BinOp (nm_local F4 V.k V.k_now upd_self (nm_local F4 V.k V.k_way ((upd_ne (by decide)).trans hw) (l_sub fun _ _ => PySem.P.iadd_int ?_)))
  refine l_set lg4 rfl (by omega) (by omega) fun h5 lg5 X5 => ?_
  have F5 : Frm H env _ _ h5 := F4.calm X5.toCalm fun b hb q => F4.notL b hb vg (by have q' : b = g := q; rw [q']; exact hlg)
  -- way = now
  refine wpAny_execs_cons (wpAny_Assign_Name (nm_local F5 V.k V.k_now upd_self (st_local F5 V.k V.k_way fun h6 tk6 F6 X6 => wpAny_execs_nil ?_)))
  refine kk _ _ h6 tk6 t4 F6 (fun z h1 h2 => (upd_ne h2).trans (upd_ne h1)) (fun z h1 h2 => (upd_ne h2).trans (upd_ne h1)) upd_self ((X04.mono fun b q => .inl q).trans ((X5.mono fun b q => .inr q).trans (X6.mono fun b q => .inl (Own.loc b q)))) ?_
  exact lg5.own F5 X6.toCalm fun b q => .inl (Own.loc b q)
end
end Mine

namespace Mine
open PySem PySem.W PySem.Spec PySem.Calls PyProof.Rows

section
variable {prog : Program} {w : World} {A : Around} {E : Value → Shared → Prop} {s : Shared} {H h h0 h1 h2 : Heap} {mg mb : Str → Option Value} {env ce : Env} {m cm cc : Str → Option Value} {C : Str → Addr} {cl : List (Str × Addr)} {scope : Scope}

/-- the places that the inner loops write -/
def GrowS (z : Str) : Prop := z ≠ "order" ∧ z ≠ "k" ∧ z ≠ "now" ∧ z ≠ "way"

set_option maxHeartbeats 2000000 in
theorem g_inner {bo l D g : Addr} {vo vr : Array Value} {o row : List Nat} {num : Nat → Nat} {n : Nat} {xs : List Int} {tw : Tok} {R : Addr → Prop} {Q : Flow → Shared → Prop} (S : Stat H mg mb) (hA : Ok A n) (G : Good H s.heap) (V : LawEnv env C) (F : Frm H env m cm s.heap)
    (ho : m "order" = some (.ref bo)) (lo : Lst H s.heap bo vo) (io : IntL vo (intsOf o)) (hoo : o ∈ ordN 4) (hr : m "row" = some (.ref l)) (lr : Lst H s.heap l vr) (ir : IntL vr (intsOf row)) (hro : row ∈ ordN 4)
    (hD : cm "apart" = some (.ref D)) (lD : FL H (ApRow H num) 4 R s.heap D) (hg : m "grown" = some (.ref g)) (lg : GI H s.heap g xs) (hxs : xs.length = 4) (hw : m "way" = some (.int 0 tw)) (hbg : bo ≠ g) (hlg : l ≠ g) (hRg : ¬ R g)
    (kk : ∀ m' cm' h' tk', Frm H env m' cm' h' → (∀ z : Str, z ≠ "k" → z ≠ "now" → z ≠ "way" → m' z = m z) → (∀ z : Str, z ≠ "came" → z ≠ "stops" → cm' z = cm z) → Ext H (fun b => Own env b ∨ b = g) s.heap h' →
      GI H h' g (growO (fun i j => apN (num i) (num j)) row o xs 4) → Q .next (put s h' tk')) :
    wpAny (model prog w) A (exec innerFor env) Q E s := by
  refine st_for_range (H := H) (n := 4) (S' := fun b => Own env b ∨ b = g) hA.1 G S V.k V.k_range V.g V.b (by decide) (fun Q' hq => l_int fun t tk => hq t tk)
    (fun k h' => ∃ m' cm' t, Frm H env m' cm' h' ∧ Good H h' ∧ (∀ z : Str, z ≠ "k" → z ≠ "now" → z ≠ "way" → m' z = m z) ∧ (∀ z : Str, z ≠ "came" → z ≠ "stops" → cm' z = cm z) ∧ m' "way" = some (.int (wayN (fun i j => apN (num i) (num j)) row o k) t) ∧ GI H h' g (growO (fun i j => apN (num i) (num j)) row o xs k)) (fun _ _ => False)
    ⟨m, cm, tw, F, G, fun _ _ _ _ => rfl, fun _ _ _ => rfl, hw, lg⟩
    (fun k ha hb ⟨m', cm', t, F', G', h1, h2, h3, h4⟩ c => ⟨m', cm', t, F'.nil c, c.good G', h1, h2, h3, h4.nil c⟩) ?_ ?_ (fun _ _ _ _ r => r.elim)
  · rintro k t s₁ Q' E' hi ⟨m', cm', tw', F', G', hm, hc, hw', lg'⟩ X' hq
    have hS : ∀ b, Own env b ∨ b = g → Own env b ∨ ¬ R b := fun b q => q.imp id fun r => by rw [r]; exact hRg
    have lo' := lo.calm X'.toCalm fun q => q.elim (fun r => F.notL _ r _ lo.isList) fun r => hbg r
    have lr' := lr.calm X'.toCalm fun q => q.elim (fun r => F.notL _ r _ lr.isList) fun r => hlg r
    have lD' := lD.own ApRow.fam F X'.toCalm hS
    refine st_local F' V.k V.k_k fun h1 tk1 F1 X1 => ?_
    refine g_turn (k := k) S hA (X1.good G') V F1 ((upd_ne (by decide)).trans ((hm "order" (by decide) (by decide) (by decide)).trans ho)) (lo'.loc F' X1.toCalm) io hoo ((upd_ne (by decide)).trans ((hm "row" (by decide) (by decide) (by decide)).trans hr)) (lr'.loc F' X1.toCalm) ir hro
      ((hc "apart" (by decide) (by decide)).trans hD) (lD'.loc ApRow.fam F' X1.toCalm) ((upd_ne (by decide)).trans ((hm "grown" (by decide) (by decide) (by decide)).trans hg)) (lg'.own F' X1.toCalm fun b q => .inl (Own.loc b q)) (by rw [growO_len, hxs]) upd_self hi ((upd_ne (by decide)).trans hw')
      fun m2 cm2 h2 tk2 t2 F2 hm2 hc2 hw2 X2 lg2 => ?_
    refine hq _ _ _ ((X1.mono fun b q => .inl (Own.loc b q)).trans X2) ⟨m2, cm2, t2, F2, X2.good (X1.good G'), fun z h1 h2 h3 => (hm2 z h2 h3).trans ((upd_ne h1).trans (hm z h1 h2 h3)), fun z h1 h2 => (hc2 z h1 h2).trans (hc z h1 h2), hw2, lg2⟩
  · rintro h' tk' X' ⟨m', cm', t, F', G', hm, hc, hw', lg'⟩
    exact kk m' cm' h' tk' F' hm hc X' lg'

theorem grown_len (ap : Nat → Nat → Int) (row : List Nat) : ∀ (os : List (List Nat)) (g : List Int), (grownN ap row os g).length = g.length
  | [], _ => rfl
  | o :: os, g => by
    show (grownN ap row os (growO ap row o g 4)).length = _
    rw [grown_len ap row os, growO_len]
theorem grown_snoc (ap : Nat → Nat → Int) (row : List Nat) (os : List (List Nat)) (o : List Nat) (g : List Int) : grownN ap row (os ++ [o]) g = growO ap row o (grownN ap row os g) 4 := by
  unfold grownN
  rw [List.foldl_append]; rfl

set_option maxHeartbeats 2000000 in
theorem ph_grown {a l D g : Addr} {vr zs : Array Value} {row : List Nat} {num : Nat → Nat} {n : Nat} {R Ro : Addr → Prop} {Q : Flow → Shared → Prop} (S : Stat H mg mb) (hA : Ok A n) (G : Good H s.heap) (V : LawEnv env C) (F : Frm H env m cm s.heap)
    (ho : m "orders" = some (.ref a)) (la : Lst H s.heap a zs) (ra : RowsI H Ro s.heap zs (ordI 4)) (hr : m "row" = some (.ref l)) (lr : Lst H s.heap l vr) (ir : IntL vr (intsOf row)) (hro : row ∈ ordN 4)
    (hD : cm "apart" = some (.ref D)) (lD : FL H (ApRow H num) 4 R s.heap D) (hg : m "grown" = some (.ref g)) (lg : GI H s.heap g [0, 0, 0, 0]) (hag : a ≠ g) (hlg : l ≠ g) (hRg : ¬ R g) (hRog : ¬ Ro g)
    (kk : ∀ m' cm' h' tk', Frm H env m' cm' h' → (∀ z : Str, GrowS z → m' z = m z) → (∀ z : Str, z ≠ "came" → z ≠ "stops" → cm' z = cm z) → Ext H (fun b => Own env b ∨ b = g) s.heap h' →
      GI H h' g (grownN (fun i j => apN (num i) (num j)) row (ordN 4) [0, 0, 0, 0]) → Q .next (put s h' tk')) :
    wpAny (model prog w) A (exec (lawStmt 10) env) Q E s := by
  have hlen : (ordI 4).length = (ordN 4).length := by rw [ordI_eq, List.length_map]
  refine st_for_list (H := H) (n := (ordN 4).length) (P := fun i v => ∃ b vs, v = .ref b ∧ Ro b ∧ Lst H s.heap b vs ∧ IntL vs (intsOf ((ordN 4).getD i []))) (S' := fun b => Own env b ∨ b = g) hA.1
    (fun i h' => ∃ m' cm', Frm H env m' cm' h' ∧ Good H h' ∧ (∀ z : Str, GrowS z → m' z = m z) ∧ (∀ z : Str, z ≠ "came" → z ≠ "stops" → cm' z = cm z) ∧ GI H h' g (grownN (fun i j => apN (num i) (num j)) row ((ordN 4).take i) [0, 0, 0, 0])) (fun _ _ => False)
    (nm_local F V.k V.k_orders ho ⟨a, zs, s.heap, s.toks, rfl, rfl, la, G.size, ?_, .refl, ⟨m, cm, F, G, fun _ _ => rfl, fun _ _ _ => rfl, lg⟩, by rw [ra.1, hlen], ?_⟩)
    (fun i ha hb ⟨m', cm', F', G', h1, h2, h3⟩ c => ⟨m', cm', F'.nil c, c.good G', h1, h2, h3.nil c⟩) ?_ (fun I v s₁ Q E' o e hc hq => lotg_name v s₁ Q E' o e hc hq) ?_ (fun _ _ _ _ r => r.elim)
  · rintro (q | q)
    · exact F.notL _ q _ la.isList
    · exact hag q
  · intro i v hv
    have hi : i < (ordN 4).length := by
      rw [← hlen, ← ra.1]
      rcases Nat.lt_or_ge i zs.size with q | q
      · exact q
      · rw [Array.getElem?_eq_none q] at hv; cases hv
    obtain ⟨b, vs, e, hb, lb, ib⟩ := ra.2 i (intsOf ((ordN 4).getD i [])) (by rw [ordI_eq]; simp [List.getD, hi])
    rw [e] at hv; cases hv
    exact ⟨b, vs, rfl, hb, lb, ib⟩
  · rintro i v s₁ Q' E' hi ⟨b, vs, rfl, hb, lb, ib⟩ ⟨m', cm', F', G', hm, hc, lg'⟩ X' hq
    have hoo : (ordN 4).getD i [] ∈ ordN 4 := by
      have : (ordN 4).getD i [] = (ordN 4)[i] := by simp [List.getD, hi]
      rw [this]; exact List.getElem_mem _
    have hbg : b ≠ g := fun q => hRog (q ▸ hb)
    have hS : ∀ b, Own env b ∨ b = g → Own env b ∨ ¬ R b := fun b q => q.imp id fun r => by rw [r]; exact hRg
    have lb' := lb.calm X'.toCalm fun q => q.elim (fun r => F.notL _ r _ lb.isList) fun r => hbg r
    have lr' := lr.calm X'.toCalm fun q => q.elim (fun r => F.notL _ r _ lr.isList) fun r => hlg r
    have lD' := lD.own ApRow.fam F X'.toCalm hS
    refine wpAny_assign_Name (st_local F' V.k V.k_order fun h1 tk1 F1 X1 => ?_)
    refine wpAny_execs_cons (wpAny_Assign_Name (l_int fun tw _ => st_local F1 V.k V.k_way fun h2 tk2 F2 X2 => ?_))
    have X12 : Ext H (At env.locals) s₁.heap h2 := X1.trans X2
    have gs : ∀ z : Str, z ≠ "order" → z ≠ "way" → upd (upd m' "order" (.ref b)) "way" (.int 0 tw) z = m' z := fun z h1 h2 => (upd_ne h2).trans (upd_ne h1)
    refine wpAny_execs_cons (g_inner S hA (X12.good G') V F2 ((upd_ne (by decide)).trans upd_self) ((lb'.loc F' X1.toCalm).loc F1 X2.toCalm) ib hoo ((gs "row" (by decide) (by decide)).trans ((hm "row" ⟨by decide, by decide, by decide, by decide⟩).trans hr)) ((lr'.loc F' X1.toCalm).loc F1 X2.toCalm) ir hro
      ((hc "apart" (by decide) (by decide)).trans hD) ((lD'.loc ApRow.fam F' X1.toCalm).loc ApRow.fam F1 X2.toCalm) ((gs "grown" (by decide) (by decide)).trans ((hm "grown" ⟨by decide, by decide, by decide, by decide⟩).trans hg))
      ((lg'.own F' X1.toCalm fun b q => .inl (Own.loc b q)).own F1 X2.toCalm fun b q => .inl (Own.loc b q)) (by rw [grown_len]; rfl) upd_self hbg hlg hRg fun m3 cm3 h3 tk3 F3 hm3 hc3 X3 lg3 => wpAny_execs_nil ?_)
    refine hq _ _ _ ((X12.mono fun b q => .inl (Own.loc b q)).trans X3) ⟨m3, cm3, F3, X3.good (X12.good G'), fun z hz => (hm3 z hz.2.1 hz.2.2.1 hz.2.2.2).trans ((gs z hz.1 hz.2.2.2).trans (hm z hz)), fun z h1 h2 => (hc3 z h1 h2).trans (hc z h1 h2), ?_⟩
    have e : (ordN 4).take (i + 1) = (ordN 4).take i ++ [(ordN 4).getD i []] := by
      rw [List.take_succ_eq_append_getElem hi]
      congr 2
      simp [List.getD, hi]
    rw [e, grown_snoc]
    exact lg3
  · rintro h' tk' X' ⟨m', cm', F', G', hm, hc, lg'⟩
    rw [List.take_length] at lg'
    exact kk m' cm' h' tk' F' hm hc X' lg'
end
end Mine

namespace Mine
open PySem PySem.W PySem.Spec PySem.Calls PyProof.Rows

def dueFor : Stmt := lawStmt 12
def dueWhile : Stmt := match dueFor with
  | .For _ _ body _ _ => body.getD 1 default
  | _ => default
def dueBody : List Stmt := match dueWhile with
  | .While _ body _ _ => body
  | _ => []

def nameP (num : Nat → Nat) (size j : Nat) : List Str := (nameS (num j)).take size
def stopP (num : Nat → Nat) (row : List Nat) (size start : Nat) (j : Nat) : Bool := strsLt (nameP num size (row.getD start 0)) (nameP num size (row.getD j 0))
def stopF (num : Nat → Nat) (row : List Nat) (size start : Nat) : Nat := bs (fun j => !(stopP num row size start j)) (4 - start) start 4
def sideF (num : Nat → Nat) (row : List Nat) (size start : Nat) : List Nat := (row.drop start).take (stopF num row size start - start)
def alikeF (num : Nat → Nat) (first step : Nat) : List Nat := ([3, 2, 1, 0] : List Nat).filter fun q => Int.fmod (((num q : Nat) : Int) - ((num first : Nat) : Int)) ((step : Nat) : Int) == 0

section
variable {prog : Program} {w : World} {A : Around} {E : Value → Shared → Prop} {s : Shared} {H h h0 h1 h2 : Heap} {mg mb : Str → Option Value} {env ce : Env} {m cm cc : Str → Option Value} {C : Str → Addr} {cl : List (Str × Addr)} {scope : Scope}

/-- names[p] -/
theorem sOnName {num : Nat → Nat} {R : Addr → Prop} {D : Addr} {p : Nat} {k : Int} {t : Tok} {Q : Value → Shared → Prop} (lD : FL H (NameRow H num) 4 R s.heap D) (hk : k = (p : Nat)) (hp : p < 4)
    (h : ∀ a vs, Lst H s.heap a vs → StrL vs (nameS (num p)) → Q (.ref a) s) : SubscriptOn (model prog w) A (.ref D) (.int k t) Q E s := by
  subst hk
  obtain ⟨_, ys, ll, hn, hyp⟩ := lD
  have e : ys[p]? = some (ys[p]'(by omega)) := by simp [hn, hp]
  obtain ⟨a, ea, xa⟩ := hyp p _ e
  obtain ⟨_, vs, la, sa⟩ := FL.strs' xa (nameS_len _)
  refine sOn (x := ys[p]'(by omega)) ll.isList (by omega) e (by omega) ?_
  rw [ea]
  exact h a vs la sa

/-- names[p][:size] -/
theorem l_nameP {num : Nat → Nat} {p size : Nat} {value : Expr} {u : Expr} {p1 p2 : Pos} {Q : Value → Shared → Prop}
    (h : wpAny (model prog w) A (eval value env) (fun o s₁ => ∃ a vs, o = .ref a ∧ Lst H s₁.heap a vs ∧ StrL vs (nameS (num p)) ∧ H.objs.size ≤ s₁.heap.objs.size ∧ wpAny (model prog w) A (eval u env) (fun v s₂ => ∃ t tk, v = .int ((size : Nat) : Int) t ∧ s₂ = tick s₁ tk ∧
      ∀ b h' tk ws, Lst H h' b ws → StrL ws (nameP num size p) → Ext H Nil s₂.heap h' → s₂.heap.objs.size ≤ b → Q (.ref b) (put s₂ h' tk)) E s₁) E s) :
    wpAny (model prog w) A (eval (.Subscript value (.Slice none (some u) none p1) p2) env) Q E s := by
  refine l_slice (H := H) (wpAny_mono h (fun o s₁ h₁ => ?_) fun _ _ e => e)
  obtain ⟨a, vs, rfl, la, sa, hH, hu⟩ := h₁
  refine ep_none (ep_some (wpAny_mono hu (fun v s₂ h₂ => ?_) fun _ _ e => e))
  obtain ⟨t, tk, rfl, rfl, hq⟩ := h₂
  refine ep_none ⟨a, vs, none, some _, none, rfl, la.isList, by rw [sa.1, nameS_len]; decide, .none, .int _ _, .none, nofun, hH, fun b h' tk' lb X hb => ?_⟩
  rw [slicePick_upto'] at lb
  exact hq b h' tk' _ lb (sa.take size) X hb

/-- key: lambda spot: names[spot][:size] -/
theorem name_key2 {f D cn cs : Addr} {p1 p2 p3 p4 p5 p6 p7 : Pos} {num : Nat → Nat} {R : Addr → Prop} {p size : Nat} {t ts : Tok} {n : Nat} (S : Stat H mg mb) (G : Good H h)
    (L : LamAt H h f qLaw (arg1 "spot" p4) (.Subscript (.Subscript (.Name "names" p1) (.Name "spot" p2) p3) (.Slice none (some (.Name "size" p5)) none p6) p7) (lamSc [("spot", .local), ("names", .free), ("size", .free)]) [("size", cs), ("names", cn)])
    (hc : h.IsCell cn (some (.ref D)) ∧ H.objs.size ≤ cn) (hcs : h.IsCell cs (some (.int ((size : Nat) : Int) ts)) ∧ H.objs.size ≤ cs) (hne : cs ≠ cn) (lD : FL H (NameRow H num) 4 R h D) (hp : p < 4) :
    ∀ h' A', Ext H Nil h h' → Good H h' → Ok A' (n + 1) → Do prog w H A' (call (.ref f) [.int (p : Nat) t]) h' Nil fun r h'' => ∃ c ws, r = .ref c ∧ Lst H h'' c ws ∧ StrL ws (nameP num size p) := by
  intro h' A' X G' hA
  refine lam_call (n := n) (binds := [("spot", .int (p : Nat) t)]) (cm := fun z => if z = "names" then some (.ref D) else if z = "size" then some (.int ((size : Nat) : Int) ts) else none) S hA G' (L.nil X.toCalm) (fun _ _ _ => rfl) rfl (locs rfl)
      (fun k c' hm => ?_) (by simp [hne]) (fun k c1 c2 h1 h2 => ?_) (fun cv h1 F X1 G1 => ?_)
  · simp only [List.mem_cons, List.not_mem_nil, or_false, Prod.mk.injEq] at hm
    rcases hm with ⟨rfl, rfl⟩ | ⟨rfl, rfl⟩
    · exact IsCell.nil hcs X.toCalm
    · exact IsCell.nil hc X.toCalm
  · simp only [List.mem_cons, List.not_mem_nil, or_false, Prod.mk.injEq] at h1 h2
    rcases h1 with ⟨rfl, rfl⟩ | ⟨rfl, rfl⟩ <;> rcases h2 with ⟨h2, rfl⟩ | ⟨h2, rfl⟩ <;> first | rfl | (exact absurd h2 (by decide))
  · intro s Q E hs hQ
    subst hs
    have l1 := (lD.nil NameRow.fam X.toCalm).nil NameRow.fam X1.toCalm
    refine l_nameP (H := H) (num := num) (p := p) (size := size) (sub_any (nm_free F rfl rfl rfl rfl (nm_local F rfl rfl rfl (sOnName l1 rfl hp fun a vs la sa => ⟨a, vs, rfl, la, sa, G1.size, nm_free F rfl rfl rfl rfl ⟨ts, _, rfl, rfl, fun b h2 tk2 ws lb sb X2 hb => ?_⟩⟩))))
    exact hQ _ _ _ X2.to ⟨b, ws, rfl, lb, sb⟩

/-- stop = bisect_right(row, names[first][:size], start, key=..) -/
theorem d_stop {l D : Addr} {vr : Array Value} {row : List Nat} {num : Nat → Nat} {size start n : Nat} {R : Addr → Prop} {tf ts tst : Tok} {Q : Flow → Shared → Prop} (S : Stat H mg mb) (hA : Ok A (n + 5)) (G : Good H s.heap) (V : LawEnv env C) (F : Frm H env m cm s.heap)
    (hr : m "row" = some (.ref l)) (lr : Lst H s.heap l vr) (ir : IntL vr (intsOf row)) (hro : row ∈ ordN 4) (hD : cm "names" = some (.ref D)) (lD : FL H (NameRow H num) 4 R s.heap D)
    (hf : cm "first" = some (.int ((row.getD start 0 : Nat) : Int) tf)) (hsz : cm "size" = some (.int ((size : Nat) : Int) ts)) (hst : m "start" = some (.int ((start : Nat) : Int) tst)) (h4 : start < 4)
    (kk : ∀ t h' tk', Frm H env (upd m "stop" (.int ((stopF num row size start : Nat) : Int) t)) cm h' → Ext H (At env.locals) s.heap h' → Q .next (put s h' tk')) :
    wpAny (model prog w) A (exec (dueBody.getD 1 default) env) Q E s := by
  obtain ⟨pmR, eR⟩ := S.fRight
  obtain ⟨hrl, hrlt⟩ := ordN_facts row hro
  have get4 : ∀ i, i < 4 → row.getD i 0 < 4 := fun i hi => by
    have : row.getD i 0 = row[i] := by simp [List.getD, hrl, hi]
    rw [this]; exact hrlt _ (List.getElem_mem _)
  have hvr : vr.size = 4 := by rw [ir.1, intsOf_len, hrl]
  have hcl : closureFor (lamSc [("spot", .local), ("names", .free), ("size", .free)]) env = pure [(("size" : Str), C "size"), ("names", C "names")] := clos_eq fun n hn => by
    simp [lamSc] at hn
    rcases hn with rfl | rfl
    · exact V.c_names
    · exact V.c_size
  refine wpAny_Assign_Name (gcallK G S V.k V.k_bisect_right V.g S.gRight eR rfl (by decide) (by decide) (spliced_cons (nm_local F V.k V.k_row hr (spliced_cons
    (l_nameP (H := H) (num := num) (p := row.getD start 0) (size := size) (sub_any (nm_cell F V.k V.k_names V.c_names hD (nm_cell F V.k V.k_first V.c_first hf (sOnName lD rfl (get4 start h4) fun a va la sa => ⟨a, va, rfl, la, sa, G.size, nm_cell F V.k V.k_size V.c_size hsz ⟨ts, _, rfl, rfl, fun b h1 tk1 wb lb sb X1 hb => ?_⟩⟩)))))))))
  have F1 := F.nil X1.toCalm
  have G1 := X1.good G
  refine spliced_cons (nm_local F1 V.k V.k_start hst (spliced_nil (mk_lam S G1 rfl hcl V.g V.code V.q (.inr ⟨rfl, rfl, rfl⟩) fun f h2 tk2 Lf X2 hf2 => ?_)))
  have G2 := X2.good G1
  have F2 := F1.nil X2.toCalm
  refine ⟨G2, ?_⟩
  have lr2 := (lr.nil X1.toCalm).nil X2.toCalm
  have lb2 := lb.nil X2.toCalm
  have lD2 := (lD.nil NameRow.fam X1.toCalm).nil NameRow.fam X2.toCalm
  have hcell : h2.IsCell (C "names") (some (.ref D)) ∧ H.objs.size ≤ C "names" := ⟨hD ▸ (F2.cell _ _ (mem_of_lookup V.c_names)).1, (F2.cell _ _ (mem_of_lookup V.c_names)).2⟩
  have hcellS : h2.IsCell (C "size") (some (.int ((size : Nat) : Int) ts)) ∧ H.objs.size ≤ C "size" := ⟨hsz ▸ (F2.cell _ _ (mem_of_lookup V.c_size)).1, (F2.cell _ _ (mem_of_lookup V.c_size)).2⟩
  have hne : C "size" ≠ C "names" := fun q => by
    have h1 := mem_of_lookup V.c_size
    have h2 := mem_of_lookup V.c_names
    rw [← q] at h2
    have := name_of_addr F.apart h1 h2
    exact absurd this (by decide)
  have key : KeyOk prog w H (n + 1) .Lt true h2 f vr (.ref b) (stopP num row size start) := by
    intro j v h' A' hv X G' hA'
    have hj : j < 4 := by
      rcases Nat.lt_or_ge j vr.size with q | q
      · omega
      · rw [Array.getElem?_eq_none q] at hv; cases hv
    obtain ⟨t, e⟩ := ir.get (i := j) (by rw [intsOf_len]; omega)
    rw [e, intsOf_getD (by omega)] at hv; cases hv
    refine (name_key2 (n := n) S G2 Lf hcell hcellS hne lD2 (get4 j hj) h' A' X G' hA').mono fun r h'' Xk hr h3 A3 X3 hA3 => ?_
    obtain ⟨c, ws, rfl, lc, sc⟩ := hr
    intro s Q E hs hQ
    subst hs
    have XX := X.trans (Xk.trans X3)
    exact lt_strs (lb2.nil XX.toCalm).isList (lc.nil X3.toCalm).isList sb sc (by simp [nameP, nameS_len]) hA3.units (hQ _ _ _ .refl rfl)
  refine right_call (n := n + 1) (lo0 := start) (p := stopP num row size start) S (hA.mono (by omega)) G2 (right_bind S G2) lr2 Lf.fn (by omega) (by omega) key _ _ _ rfl fun v h3 tk3 X3 hv => ?_
  obtain ⟨tv, rfl⟩ := hv
  rw [hvr]
  exact st_local (F2.nil X3.toCalm) V.k V.k_stop fun h4 tk4 F4 X4 => kk tv h4 tk4 F4 (X1.to.trans (X2.to.trans (X3.to.trans X4)))
end
end Mine

namespace Mine
open PySem PySem.W PySem.Spec PySem.Calls PyProof.Rows

def dueOne (weight near : Nat) (side : List Nat) (d : List Int) (x : Nat) : List Int :=
  if near < 4 then (if side.contains x then d.set x (d.getD x 0 + Int.fdiv (((weight : Nat) : Int) * (4 - ((near : Nat) : Int))) ((near : Nat) : Int)) else d.set x (d.getD x 0 + Int.fdiv (((weight : Nat) : Int) * ((near : Nat) : Int)) (4 - ((near : Nat) : Int)))) else d
def dueRow (weight : Nat) (row side : List Nat) (d : List Int) : List Int := row.foldl (dueOne weight side.length side) d
theorem dueOne_len (weight near : Nat) (side : List Nat) (d : List Int) (x : Nat) : (dueOne weight near side d x).length = d.length := by
  unfold dueOne; split
  · split <;> rw [List.length_set]
  · rfl
theorem dueRow_len (weight : Nat) (side : List Nat) : ∀ (row : List Nat) (d : List Int) (near : Nat), (row.foldl (dueOne weight near side) d).length = d.length
  | [], _, _ => rfl
  | x :: r, d, near => by rw [List.foldl_cons, dueRow_len weight side r, dueOne_len]

theorem intsOf_perm {xs ys : List Nat} (h : xs.Perm ys) : (intsOf xs).Perm (intsOf ys) := h.map _

section
variable {prog : Program} {w : World} {A : Around} {E : Value → Shared → Prop} {s : Shared} {H h h0 h1 h2 : Heap} {mg mb : Str → Option Value} {env ce : Env} {m cm cc : Str → Option Value} {C : Str → Addr} {cl : List (Str × Addr)} {scope : Scope}

/-- numbers[p] -/
theorem sOnNum {num : Nat → Nat} {R : Addr → Prop} {D : Addr} {p : Nat} {k : Int} {t : Tok} {Q : Value → Shared → Prop} (lD : FL H (FI fun i => ((num i : Nat) : Int)) 4 R s.heap D) (hk : k = (p : Nat)) (hp : p < 4)
    (h : ∀ t', Q (.int ((num p : Nat) : Int) t') s) : SubscriptOn (model prog w) A (.ref D) (.int k t) Q E s := by
  obtain ⟨_, vs, ll, iv⟩ := lD.ints
  refine sOnI ll.isList iv hk (by simpa using hp) (by simp) fun t' => ?_
  have e : ((List.range 4).map fun i => ((num i : Nat) : Int)).getD p 0 = ((num p : Nat) : Int) := by simp [List.getD, hp]
  rw [e]; exact h t'

/-- alike = [place for place in [3, 2, 1, 0] if (numbers[place] - numbers[first]) % step == 0] -/
theorem d_alike {D : Addr} {num : Nat → Nat} {first step : Nat} {R : Addr → Prop} {tf ts : Tok} {Q : Flow → Shared → Prop} (hA : A.handled = none) (G : Good H s.heap) (V : LawEnv env C) (F : Frm H env m cm s.heap)
    (hD : cm "numbers" = some (.ref D)) (lD : FL H (FI fun i => ((num i : Nat) : Int)) 4 R s.heap D) (hf : cm "first" = some (.int ((first : Nat) : Int) tf)) (hf4 : first < 4) (hst : cm "step" = some (.int ((step : Nat) : Int) ts)) (hst0 : step ≠ 0)
    (kk : ∀ D2 h' tk' ys, Frm H env (upd m "alike" (.ref D2)) cm h' → Ext H (At env.locals) s.heap h' → Lst H h' D2 ys → IntL ys (intsOf (alikeF num first step)) → Q .next (put s h' tk')) :
    wpAny (model prog w) A (exec (dueBody.getD 3 default) env) Q E s := by
  refine exec_filter (cl := [("step", C "step"), ("numbers", C "numbers"), ("first", C "first")]) (n := 4) (f := fun i => (((([3, 2, 1, 0] : List Nat).getD i 0) : Nat) : Int)) (p := fun i => Int.fmod (((num (([3, 2, 1, 0] : List Nat).getD i 0) : Nat) : Int) - ((num first : Nat) : Int)) ((step : Nat) : Int) == 0)
    (swaps_local V.k V.k_alike rfl rfl) V.k V.k_alike hA G F
    (compOkC (C := C) (fun n hn => by
      simp at hn
      rcases hn with rfl | rfl | rfl
      · exact V.c_first
      · exact V.c_numbers
      · exact V.c_step) rfl (fun p hp => by
      simp at hp
      rcases hp with rfl | rfl | rfl
      · exact V.c_step
      · exact V.c_numbers
      · exact V.c_first) (of_decide_eq_true rfl) rfl rfl (by decide)) (by decide) ?first (fun C => ck_local rfl) ?turn ?fin
  case first =>
    refine l_list (H := H) (spliced_cons (l_int fun t3 _ => spliced_cons (l_int fun t2 _ => spliced_cons (l_int fun t1 _ => spliced_cons (l_int fun t0 _ => spliced_nil ⟨by simp, G.size, fun a h1 tk1 la X1 ha => ?_⟩)))))
    have F1 := F.nil X1.toCalm
    refine feed_list (cl := [("step", C "step"), ("numbers", C "numbers"), ("first", C "first")]) (P := fun i v => ∃ t, v = .int (((([3, 2, 1, 0] : List Nat).getD i 0) : Nat) : Int) t) hA (X1.good G).size la (fun i v hv => ?_) (fun p hp => ?_) fun I h2 hI X2 fd => ⟨I, h2, _, rfl, rfl, Nat.le_trans X1.size hI, X1.trans X2, fd⟩
    · match i, hv with
      | 0, hv => simp at hv; exact ⟨_, hv.symm⟩
      | 1, hv => simp at hv; exact ⟨_, hv.symm⟩
      | 2, hv => simp at hv; exact ⟨_, hv.symm⟩
      | 3, hv => simp at hv; exact ⟨_, hv.symm⟩
      | i + 4, hv => simp at hv
    · simp at hp
      rcases hp with rfl | rfl | rfl
      · exact fun q => F1.notL _ (.inr ⟨"step", mem_of_lookup V.c_step⟩) _ (q ▸ la.isList)
      · exact fun q => F1.notL _ (.inr ⟨"numbers", mem_of_lookup V.c_numbers⟩) _ (q ▸ la.isList)
      · exact fun q => F1.notL _ (.inr ⟨"first", mem_of_lookup V.c_first⟩) _ (q ▸ la.isList)
  case turn =>
    rintro C1 i t m1 cm1 s1 Q1 E1 hi F1 hv hcm X1 G1 hq
    have lD1 := lD.nil FI.fam X1.toCalm
    have hp4 : ([3, 2, 1, 0] : List Nat).getD i 0 < 4 := by
      match i, hi with
      | 0, _ => decide
      | 1, _ => decide
      | 2, _ => decide
      | 3, _ => decide
    have hcn : cm1 "numbers" = some (.ref D) := (hcm "numbers" rfl).trans hD
    refine wpAny_isTrue_Compare1 (wpAny_BinOp (wpAny_BinOp (sub_any (nm_cell F1 rfl (ck_free rfl V.k V.k_numbers) rfl hcn (nm_local F1 rfl (ck_local rfl) hv (sOnNum lD1 rfl hp4 fun t1 => ?_))))))
    refine sub_any (nm_cell F1 rfl (ck_free rfl V.k V.k_numbers) rfl hcn (nm_cell F1 rfl (ck_free rfl V.k V.k_first) rfl ((hcm "first" rfl).trans hf) (sOnNum lD1 rfl hf4 fun t2 => ?_)))
    refine l_sub fun _ _ => nm_cell F1 rfl (ck_free rfl V.k V.k_step) rfl ((hcm "step" rfl).trans hst) (l_mod (by omega) fun _ _ => l_int fun _ _ => eq_int (wpAny_truthy_bool ?_))
    exact hq _ _ .refl
  case fin =>
    intro D2 h' tk' ys F' X' l' hl hy
    refine kk D2 h' tk' ys F' X' l' ?_
    have e : ((List.range 4).filter fun i => Int.fmod (((num (([3, 2, 1, 0] : List Nat).getD i 0) : Nat) : Int) - ((num first : Nat) : Int)) ((step : Nat) : Int) == 0).map (fun i => (((([3, 2, 1, 0] : List Nat).getD i 0) : Nat) : Int)) = intsOf (alikeF num first step) :=
      filter_range (row := [3, 2, 1, 0]) (q := fun q => Int.fmod (((num q : Nat) : Int) - ((num first : Nat) : Int)) ((step : Nat) : Int) == 0)
    rw [← e]
    exact hy

theorem alike_sorted (num : Nat → Nat) (first step : Nat) : (intsOf (alikeF num first step).reverse).Pairwise (· ≤ ·) := by
  have h : (intsOf ([3, 2, 1, 0] : List Nat).reverse).Pairwise (· ≤ ·) := by decide
  refine List.Pairwise.sublist ?_ h
  unfold intsOf alikeF
  exact (List.filter_sublist.reverse).map _
end
end Mine

namespace Mine
open PySem PySem.W PySem.Spec PySem.Calls PyProof.Rows

section
variable {prog : Program} {w : World} {A : Around} {E : Value → Shared → Prop} {s : Shared} {H h h0 h1 h2 : Heap} {mg mb : Str → Option Value} {env ce : Env} {m cm cc : Str → Option Value} {C : Str → Addr} {cl : List (Str × Addr)} {scope : Scope}

/-- if sorted(side) != alike[::-1]: return False -/
theorem d_check1 {a b : Addr} {va vb : Array Value} {side alike : List Nat} {n : Nat} {Q : Flow → Shared → Prop} (S : Stat H mg mb) (hA : Ok A (n + 10)) (G : Good H s.heap) (V : LawEnv env C) (F : Frm H env m cm s.heap)
    (ha : m "side" = some (.ref a)) (la : Lst H s.heap a va) (ia : IntL va (intsOf side)) (hb : m "alike" = some (.ref b)) (lb : Lst H s.heap b vb) (ib : IntL vb (intsOf alike)) (hs : side.length ≤ 10) (hs2 : alike.length ≤ 10)
    (hp : side.Perm alike) (hsort : (intsOf alike.reverse).Pairwise (· ≤ ·))
    (kk : ∀ h' tk', Frm H env m cm h' → Ext H Nil s.heap h' → Q .next (put s h' tk')) :
    wpAny (model prog w) A (exec (dueBody.getD 4 default) env) Q E s := by
  refine wpAny_If (wpAny_isTrue_Compare1 (bcall1 G S V.k V.k_sorted V.g V.b S.gSorted rfl (by decide) (nm_local F V.k V.k_side ha (l_sorted (H := H) G.size la.isList ia (by rw [intsOf_len]; omega) fun c h1 vs ys X1 hc lc ic hperm hpw => ?_))))
  have F1 := F.nil X1.toCalm
  have G1 := X1.good G
  have hbs : vb.size ≤ 10 := by rw [ib.1, intsOf_len]; exact hs2
  refine l_slice (H := H) (nm_local F1 V.k V.k_alike hb (ep_none (ep_none (ep_some (wpAny_UnaryOp (l_int fun _ _ => PyProof.Rows.neg_int ⟨b, vb, none, none, some (-1), rfl, (lb.nil X1.toCalm).isList, by omega, .none, .none, .int _ _, by decide, G1.size, fun d h2 tk2 ld X2 hd => ?_⟩))))))
  rw [krv_pick] at ld
  have id' : IntL vb.toList.reverse.toArray (intsOf alike.reverse) := by
    have := ib.reverse
    rwa [show (intsOf alike).reverse = intsOf alike.reverse by simp [intsOf]] at this
  have e : ys = intsOf alike.reverse := by
    refine List.Perm.eq_of_pairwise (le := fun a b => a ≤ b) (fun a b _ _ h1 h2 => Int.le_antisymm h1 h2) hpw hsort ?_
    exact hperm.trans ((intsOf_perm hp).trans (intsOf_perm alike.reverse_perm.symm))
  refine l_ne_ints (lc.nil X2.toCalm).isList ld.isList ic id' ?_ (wpAny_truthy_bool (ite_f (by simp [e]) (wpAny_execs_nil (kk h2 _ (F1.nil X2.toCalm) (X1.trans X2)))))
  have := hA.2.2
  show A.units + 64 < 9900
  omega

/-- if step == 32 and side != alike: return False -/
theorem d_check2 {a b : Addr} {va vb : Array Value} {side alike : List Nat} {step n : Nat} {ts : Tok} {Q : Flow → Shared → Prop} (hA : Ok A (n + 10)) (V : LawEnv env C) (F : Frm H env m cm s.heap)
    (ha : m "side" = some (.ref a)) (la : Lst H s.heap a va) (ia : IntL va (intsOf side)) (hb : m "alike" = some (.ref b)) (lb : Lst H s.heap b vb) (ib : IntL vb (intsOf alike)) (hst : cm "step" = some (.int ((step : Nat) : Int) ts)) (hp : step = 32 → side = alike)
    (kk : ∀ tk', Q .next (tick s tk')) :
    wpAny (model prog w) A (exec (dueBody.getD 5 default) env) Q E s := by
  refine wpAny_If (wpAny_isTrue_BoolOp (wpAny_allTrue_And_cons (wpAny_isTrue_Compare1 (nm_cell F V.k V.k_step V.c_step hst (l_int fun _ _ => eq_int (wpAny_truthy_bool ?_))))))
  by_cases h : step = 32
  · refine ite_t (by rw [h]; decide) (wpAny_allTrue_And_cons (wpAny_isTrue_Compare1 (nm_local F V.k V.k_side ha (nm_local F V.k V.k_alike hb (l_ne_ints la.isList lb.isList ia ib ?_ (wpAny_truthy_bool (ite_f (by rw [hp h]; simp) (ite_f rfl (wpAny_execs_nil (kk _)))))))))) 
    have := hA.2.2
    show A.units + 64 < 9900
    omega
  · refine ite_f ?_ (ite_f rfl (wpAny_execs_nil (kk _)))
    have : ((step : Nat) : Int) ≠ 32 := by omega
    simpa using this

/-- for place in row: if near < 4 and place in side: .. -/
theorem d_for {a l d : Addr} {va vr : Array Value} {side row : List Nat} {weight n : Nat} {ds : List Int} {tn tw : Tok} {Q : Flow → Shared → Prop} (hA : Ok A n) (G : Good H s.heap) (V : LawEnv env C) (F : Frm H env m cm s.heap)
    (ha : m "side" = some (.ref a)) (la : Lst H s.heap a va) (ia : IntL va (intsOf side)) (hr : m "row" = some (.ref l)) (lr : Lst H s.heap l vr) (ir : IntL vr (intsOf row)) (hro : row ∈ ordN 4)
    (hd : m "due" = some (.ref d)) (ld : GI H s.heap d ds) (hds : ds.length = 4) (hn : m "near" = some (.int ((side.length : Nat) : Int) tn)) (hw : m "weight" = some (.int ((weight : Nat) : Int) tw)) (hbits : Builtin.Int.intBits ((weight : Nat) : Int) ≤ 64)
    (hn1 : 1 ≤ side.length) (hn4 : side.length ≤ 4) (had : a ≠ d) (hld : l ≠ d)
    (kk : ∀ cm' h' tk', Frm H env m cm' h' → (∀ z : Str, z ≠ "place" → cm' z = cm z) → Ext H (fun b => Own env b ∨ b = d) s.heap h' → GI H h' d (dueRow weight row side ds) → Q .next (put s h' tk')) :
    wpAny (model prog w) A (exec (dueBody.getD 7 default) env) Q E s := by
  obtain ⟨hrl, hrlt⟩ := ordN_facts row hro
  have hvr : vr.size = 4 := by rw [ir.1, intsOf_len, hrl]
  refine st_for_list (H := H) (n := 4) (P := fun i v => i < 4 ∧ ∃ t, v = .int ((row.getD i 0 : Nat) : Int) t) (S' := fun b => Own env b ∨ b = d) hA.1
    (fun i h' => ∃ cm', Frm H env m cm' h' ∧ Good H h' ∧ (∀ z : Str, z ≠ "place" → cm' z = cm z) ∧ GI H h' d ((row.take i).foldl (dueOne weight side.length side) ds)) (fun _ _ => False)
    (nm_local F V.k V.k_row hr ⟨l, vr, s.heap, s.toks, rfl, rfl, lr, G.size, ?_, .refl, ⟨cm, F, G, fun _ _ => rfl, ld⟩, hvr, ?_⟩)
    (fun i ha hb ⟨cm', F', G', h1, h2⟩ c => ⟨cm', F'.nil c, c.good G', h1, h2.nil c⟩) ?_ (fun I v s₁ Q E' o e hc hq => lotg_name v s₁ Q E' o e hc hq) ?_ (fun _ _ _ _ r => r.elim)
  · rintro (q | q)
    · exact F.notL _ q _ lr.isList
    · exact hld q
  · intro i v hv
    have hi : i < 4 := by
      rcases Nat.lt_or_ge i vr.size with q | q
      · omega
      · rw [Array.getElem?_eq_none q] at hv; cases hv
    obtain ⟨t, e⟩ := ir.get (i := i) (by rw [intsOf_len]; omega)
    rw [e, intsOf_getD (by omega)] at hv; cases hv
    exact ⟨hi, t, rfl⟩
  · rintro i v s₁ Q' E' hi ⟨_, t, rfl⟩ ⟨cm', F', G', hc, ld'⟩ X' hq
    have la' := la.calm X'.toCalm fun q => q.elim (fun r => F.notL _ r _ la.isList) fun r => had r
    have hx4 : row.getD i 0 < 4 := by
      have : row.getD i 0 = row[i] := by simp [List.getD, hrl, hi]
      rw [this]; exact hrlt _ (List.getElem_mem _)
    have hdl : ((row.take i).foldl (dueOne weight side.length side) ds).length = 4 := by rw [dueRow_len, hds]
    have etake : row.take (i + 1) = row.take i ++ [row.getD i 0] := by
      rw [List.take_succ_eq_append_getElem (by omega)]
      congr 2
      simp [List.getD, hrl, hi]
    generalize hg : (row.take i).foldl (dueOne weight side.length side) ds = dd at ld' hdl
    have enext : (row.take (i + 1)).foldl (dueOne weight side.length side) ds = dueOne weight side.length side dd (row.getD i 0) := by rw [etake, List.foldl_append, hg]; rfl
    refine wpAny_assign_Name (st_cell F' V.k V.k_place V.c_place fun h1 tk1 F1 X1 => ?_)
    have la1 := la'.cel F' V.c_place X1.toCalm
    have ld1 := ld'.own F' X1.toCalm fun b q => .inl (Own.cell V.c_place b q)
    have hc1 : ∀ z : Str, z ≠ "place" → upd cm' "place" (.int ((row.getD i 0 : Nat) : Int) t) z = cm z := fun z hz => (upd_ne hz).trans (hc z hz)
    have XX1 : Ext H (fun b => Own env b ∨ b = d) s₁.heap h1 := X1.mono fun b q => .inl (Own.cell V.c_place b q)
    -- what a written due ends in
    have fin : ∀ (x : Int) (tk : Nat) (h2 : Heap), dueOne weight side.length side dd (row.getD i 0) = dd.set (row.getD i 0) x → GI H h2 d (dd.set (row.getD i 0) x) → Ext H (At d) h1 h2 → Q' .next (put s₁ h2 tk) := by
      intro x tk h2 e l2 X2
      obtain ⟨_, vd, hvd, _⟩ := id ld1
      refine hq _ _ _ (XX1.trans (X2.mono fun b q => .inr q)) ⟨_, F1.calm X2.toCalm fun b hb q => F1.notL b hb vd (by have q' : b = d := q; rw [q']; exact hvd), X2.good (X1.good G'), hc1, ?_⟩
      rw [enext, e]; exact l2
    obtain ⟨_, vd, hvd, idd⟩ := id ld1
    obtain ⟨tg, eg⟩ := idd.get (i := row.getD i 0) (by omega)
    refine wpAny_execs_cons (wpAny_If (wpAny_isTrue_BoolOp (wpAny_allTrue_And_cons (wpAny_isTrue_Compare1 (nm_local F1 V.k V.k_near hn (l_int fun _ _ => wpAny_lt_int (wpAny_truthy_bool ?_)))))))
    by_cases hlt : side.length < 4
    · refine ite_t (by simp; omega) (wpAny_allTrue_And_cons (wpAny_isTrue_Compare1 (nm_cell F1 V.k V.k_place V.c_place upd_self (nm_local F1 V.k V.k_side ha (l_in la1.isList ia (wpAny_truthy_bool ?_))))))
      rw [ints_contains]
      cases hcont : side.contains (row.getD i 0) with
      | true =>
        refine ite_t rfl (wpAny_allTrue_And_nil (ite_t rfl ?_))
        refine wpAny_execs_cons (wpAny_AugAssign_SubscriptAny (nm_local F1 V.k V.k_due hd (nm_cell F1 V.k V.k_place V.c_place upd_self (wpAny_getItem_list hvd (by omega) (by omega) eg ?_))))
        refine wpAny_BinOp (wpAny_BinOp (nm_local F1 V.k V.k_weight hw (wpAny_BinOp (l_int fun _ _ => nm_local F1 V.k V.k_near hn (l_sub fun _ _ => PyProof.Rows.mul_int ?_ (IntMulOk.of_left hbits))))))
        refine nm_local F1 V.k V.k_near hn (l_div (by omega) (by omega) fun _ _ => PySem.P.iadd_int ?_)
        refine l_set ld1 rfl (by omega) (by omega) fun h2 l2 X2 => wpAny_execs_nil (wpAny_execs_nil (fin _ _ h2 ?_ l2 X2))
        unfold dueOne
        rw [if_pos hlt, if_pos hcont]
      | false =>
        refine ite_f rfl (ite_f rfl ?_)
        refine wpAny_execs_cons (wpAny_If (wpAny_isTrue_Compare1 (nm_local F1 V.k V.k_near hn (l_int fun _ _ => wpAny_lt_int (wpAny_truthy_bool (ite_t (by simp; omega) ?_))))))
        refine wpAny_execs_cons (wpAny_AugAssign_SubscriptAny (nm_local F1 V.k V.k_due hd (nm_cell F1 V.k V.k_place V.c_place upd_self (wpAny_getItem_list hvd (by omega) (by omega) eg ?_))))
        refine wpAny_BinOp (wpAny_BinOp (nm_local F1 V.k V.k_weight hw (nm_local F1 V.k V.k_near hn (PyProof.Rows.mul_int ?_ (IntMulOk.of_left hbits)))))
        refine wpAny_BinOp (l_int fun _ _ => nm_local F1 V.k V.k_near hn (l_sub fun _ _ => l_div (by omega) (by omega) fun _ _ => PySem.P.iadd_int ?_))
        refine l_set ld1 rfl (by omega) (by omega) fun h2 l2 X2 => wpAny_execs_nil (wpAny_execs_nil (wpAny_execs_nil (fin _ _ h2 ?_ l2 X2)))
        unfold dueOne
        rw [if_pos hlt, if_neg (by rw [hcont]; decide)]
    · refine ite_f (by simp; omega) (ite_f rfl ?_)
      refine wpAny_execs_cons (wpAny_If (wpAny_isTrue_Compare1 (nm_local F1 V.k V.k_near hn (l_int fun _ _ => wpAny_lt_int (wpAny_truthy_bool (ite_f (by simp; omega) ?_))))))
      refine wpAny_execs_nil (wpAny_execs_nil (wpAny_execs_nil (hq _ _ _ XX1 ⟨_, F1, X1.good G', hc1, ?_⟩)))
      rw [enext]
      unfold dueOne
      rw [if_neg hlt]
      exact ld1
  · rintro h' tk' X' ⟨cm', F', G', hc, ld'⟩
    rw [show row.take 4 = row by rw [← hrl]; exact List.take_length] at ld'
    exact kk cm' h' tk' F' hc X' ld'
end
end Mine

namespace Mine
open PySem PySem.W PySem.Spec PySem.Calls PyProof.Rows

def checkAt (num : Nat → Nat) (row : List Nat) (size step start : Nat) : Bool :=
  decide (start < stopF num row size start) && decide (stopF num row size start ≤ 4) && (sideF num row size start).isPerm (alikeF num (row.getD start 0) step) && (step != 32 || sideF num row size start == alikeF num (row.getD start 0) step)
def okL (num : Nat → Nat) (row : List Nat) (size step : Nat) : Nat → Nat → Bool
  | 0, start => !decide (start < 4)
  | f + 1, start => if start < 4 then checkAt num row size step start && okL num row size step f (stopF num row size start) else true
def dueL (num : Nat → Nat) (row : List Nat) (size weight : Nat) : Nat → Nat → List Int → List Int
  | 0, _, d => d
  | f + 1, start, d => if start < 4 then dueL num row size weight f (stopF num row size start) (dueRow weight row (sideF num row size start) d) else d

/-- the names that a level's turn writes -/
def DueS (z : Str) : Prop := z ≠ "start" ∧ z ≠ "stop" ∧ z ≠ "side" ∧ z ≠ "alike" ∧ z ≠ "near"

section
variable {prog : Program} {w : World} {A : Around} {E : Value → Shared → Prop} {s : Shared} {H h h0 h1 h2 : Heap} {mg mb : Str → Option Value} {env ce : Env} {m cm cc : Str → Option Value} {C : Str → Addr} {cl : List (Str × Addr)} {scope : Scope}

set_option maxHeartbeats 2000000 in
theorem due_turn {l D Dn d : Addr} {vr : Array Value} {row : List Nat} {num : Nat → Nat} {size step weight start n : Nat} {R Rn : Addr → Prop} {ds : List Int} {ts tp tw tst : Tok} {Q : Flow → Shared → Prop} (S : Stat H mg mb) (hA : Ok A (n + 10)) (G : Good H s.heap) (V : LawEnv env C) (F : Frm H env m cm s.heap)
    (hr : m "row" = some (.ref l)) (lr : Lst H s.heap l vr) (ir : IntL vr (intsOf row)) (hro : row ∈ ordN 4) (hD : cm "names" = some (.ref D)) (lD : FL H (NameRow H num) 4 R s.heap D) (hDn : cm "numbers" = some (.ref Dn)) (lDn : FL H (FI fun i => ((num i : Nat) : Int)) 4 Rn s.heap Dn)
    (hsz : cm "size" = some (.int ((size : Nat) : Int) ts)) (hst : cm "step" = some (.int ((step : Nat) : Int) tp)) (hst0 : step ≠ 0) (hw : m "weight" = some (.int ((weight : Nat) : Int) tw)) (hbits : Builtin.Int.intBits ((weight : Nat) : Int) ≤ 64)
    (hs : m "start" = some (.int ((start : Nat) : Int) tst)) (hs4 : start < 4) (hd : m "due" = some (.ref d)) (ld : GI H s.heap d ds) (hds : ds.length = 4) (hld : l ≠ d) (hRd : ¬ R d) (hRnd : ¬ Rn d) (hok : checkAt num row size step start = true)
    (kk : ∀ m' cm' h' tk' t', Frm H env m' cm' h' → (∀ z : Str, DueS z → m' z = m z) → (∀ z : Str, z ≠ "first" → z ≠ "place" → cm' z = cm z) → m' "start" = some (.int ((stopF num row size start : Nat) : Int) t') → Ext H (fun b => Own env b ∨ b = d) s.heap h' →
      GI H h' d (dueRow weight row (sideF num row size start) ds) → Q .next (put s h' tk')) :
    wpAny (model prog w) A (execs dueBody env) Q E s := by
  obtain ⟨hrl, hrlt⟩ := ordN_facts row hro
  have hvr : vr.size = 4 := by rw [ir.1, intsOf_len, hrl]
  have hf4 : row.getD start 0 < 4 := by
    have : row.getD start 0 = row[start] := by simp [List.getD, hrl, hs4]
    rw [this]; exact hrlt _ (List.getElem_mem _)
  simp only [checkAt, Bool.and_eq_true, Bool.or_eq_true, decide_eq_true_eq] at hok
  obtain ⟨⟨⟨hlt, hle⟩, hperm⟩, h32⟩ := hok
  rw [List.isPerm_iff] at hperm
  have hsl : (sideF num row size start).length = stopF num row size start - start := by unfold sideF; simp [hrl]; omega
  have hal : (alikeF num (row.getD start 0) step).length ≤ 10 := by rw [← hperm.length_eq]; omega
  -- first
  refine wpAny_execs_cons (wpAny_Assign_Name (sub_any (nm_local F V.k V.k_row hr (nm_local F V.k V.k_start hs (sOnN lr.isList ir rfl (by omega) (by omega) fun tf => st_cell F V.k V.k_first V.c_first fun h1 tk1 F1 X1 => ?_)))))
  have X01 : Ext H (Own env) s.heap h1 := X1.mono (Own.cell V.c_first)
  have c1 : ∀ z : Str, z ≠ "first" → upd cm "first" (.int ((row.getD start 0 : Nat) : Int) tf) z = cm z := fun z hz => upd_ne hz
  -- stop
  refine wpAny_execs_cons (d_stop (n := n + 5) S hA (X1.good G) V F1 hr (lr.own F X01.toCalm) ir hro ((c1 "names" (by decide)).trans hD) (lD.own NameRow.fam F X01.toCalm fun b q => .inl q) upd_self ((c1 "size" (by decide)).trans hsz) hs hs4 fun tt h2 tk2 F2 X2 => ?_)
  have X02 : Ext H (Own env) s.heap h2 := X01.trans (X2.mono Own.loc)
  have G2 := X02.good G
  -- side
  refine wpAny_execs_cons (wpAny_Assign_Name (l_slice (H := H) (nm_local F2 V.k V.k_row ((upd_ne (by decide)).trans hr) (ep_some (nm_local F2 V.k V.k_start ((upd_ne (by decide)).trans hs) (ep_some (nm_local F2 V.k V.k_stop upd_self (ep_none ⟨l, vr, some _, some _, none, rfl, (lr.own F X02.toCalm).isList, by omega, .int _ _, .int _ _, .none, nofun, G2.size, fun a h3 tk3 la X3 ha => ?_⟩))))))))
  rw [slicePick_run vr start (stopF num row size start) (by omega) (by omega)] at la
  have ia : IntL ((vr.toList.drop start).take (stopF num row size start - start)).toArray (intsOf (sideF num row size start)) := by
    have := (ir.drop start).take (stopF num row size start - start)
    rw [intsOf_drop, intsOf_take] at this
    exact this
  refine st_local (F2.nil X3.toCalm) V.k V.k_side fun h4 tk4 F4 X4 => ?_
  have la4 := la.loc (F2.nil X3.toCalm) X4.toCalm
  have X04 : Ext H (Own env) s.heap h4 := X02.trans (X3.to.trans (X4.mono Own.loc))
  have G4 := X04.good G
  -- alike
  refine wpAny_execs_cons (d_alike hA.1 G4 V F4 ((c1 "numbers" (by decide)).trans hDn) (lDn.own FI.fam F X04.toCalm fun b q => .inl q) upd_self hf4 ((c1 "step" (by decide)).trans hst) hst0 fun b h5 tk5 vb F5 X5 lb ib => ?_)
  have X05 : Ext H (Own env) s.heap h5 := X04.trans (X5.mono Own.loc)
  have G5 := X05.good G
  have la5 := la4.loc F4 X5.toCalm
  -- the checks
  refine wpAny_execs_cons (d_check1 (n := n) S hA G5 V F5 ((upd_ne (by decide)).trans upd_self) la5 ia upd_self lb ib (by omega) hal hperm (alike_sorted num _ _) fun h6 tk6 F6 X6 => ?_)
  have X06 : Ext H (Own env) s.heap h6 := X05.trans X6.to
  have G6 := X06.good G
  have la6 := la5.nil X6.toCalm
  refine wpAny_execs_cons (d_check2 (n := n) hA V F6 ((upd_ne (by decide)).trans upd_self) la6 ia upd_self (lb.nil X6.toCalm) ib ((c1 "step" (by decide)).trans hst) (fun e => by
    rcases h32 with h32 | h32
    · rw [e] at h32; exact absurd h32 (by decide)
    · exact eq_of_beq h32) fun tk7 => ?_)
  -- near
  refine wpAny_execs_cons (wpAny_Assign_Name (bcall1 G6 S V.k V.k_len V.g V.b S.gLen rfl (by decide) (nm_local F6 V.k V.k_side ((upd_ne (by decide)).trans upd_self) (l_len la6.isList (by rw [ia.1, intsOf_len]; omega) fun tn _ => ?_))))
  rw [ia.1, intsOf_len]
  refine st_local F6 V.k V.k_near fun h8 tk8 F8 X8 => ?_
  have X08 : Ext H (Own env) s.heap h8 := X06.trans (X8.mono Own.loc)
  -- for
  have mm : ∀ {v1 v2 v3 v4 : Value} {z : Str}, z ≠ "stop" → z ≠ "side" → z ≠ "alike" → z ≠ "near" → upd (upd (upd (upd m "stop" v1) "side" v2) "alike" v3) "near" v4 z = m z := fun h1 h2 h3 h4 => (upd_ne h4).trans ((upd_ne h3).trans ((upd_ne h2).trans (upd_ne h1)))
  refine wpAny_execs_cons (d_for hA (X08.good G) V F8 ((upd_ne (by decide)).trans ((upd_ne (by decide)).trans upd_self)) (la6.loc F6 X8.toCalm) ia ((mm (by decide) (by decide) (by decide) (by decide)).trans hr) (lr.own F X08.toCalm) ir hro ((mm (by decide) (by decide) (by decide) (by decide)).trans hd) (ld.own F X08.toCalm fun b q => .inl q) hds upd_self ((mm (by decide) (by decide) (by decide) (by decide)).trans hw) hbits (by omega) (by omega) ?_ hld
    fun cm9 h9 tk9 F9 hc9 X9 ld9 => ?_)
  · intro q
    have h1 := ld.own F X02.toCalm fun b q => .inl q
    obtain ⟨_, vd, ⟨o, e, _⟩, _⟩ := h1
    exact Nat.lt_irrefl _ (Nat.lt_of_lt_of_le (Heap.lt_size e) (q ▸ ha))
  -- start = stop
  refine wpAny_execs_cons (wpAny_Assign_Name (nm_local F9 V.k V.k_stop ((upd_ne (by decide)).trans ((upd_ne (by decide)).trans ((upd_ne (by decide)).trans upd_self))) (st_local F9 V.k V.k_start fun h10 tk10 F10 X10 => wpAny_execs_nil ?_)))
  refine kk _ _ h10 tk10 tt F10 (fun z hz => (upd_ne hz.1).trans (mm hz.2.1 hz.2.2.1 hz.2.2.2.1 hz.2.2.2.2)) (fun z h1 h2 => (hc9 z h2).trans (c1 z h1)) upd_self ((X08.mono fun b q => .inl q).trans (X9.trans (X10.mono fun b q => .inl (Own.loc b q)))) ?_
  exact ld9.own F9 X10.toCalm fun b q => .inl (Own.loc b q)
end
end Mine

namespace Mine
open PySem PySem.W PySem.Spec PySem.Calls PyProof.Rows

theorem dueL_len (num : Nat → Nat) (row : List Nat) (size weight : Nat) : ∀ f start d, (dueL num row size weight f start d).length = d.length
  | 0, _, _ => rfl
  | f + 1, start, d => by
    unfold dueL
    split
    · rw [dueL_len num row size weight f]; unfold dueRow; rw [dueRow_len]
    · rfl

def levels : List (Nat × Nat × Nat) := [(2, 2, 12), (3, 4, 12), (4, 8, 12), (5, 16, 6), (6, 32, 6)]
def dueAll (num : Nat → Nat) (row : List Nat) (ls : List (Nat × Nat × Nat)) (d : List Int) : List Int := ls.foldl (fun d x => dueL num row x.1 x.2.2 4 0 d) d
theorem dueAll_len (num : Nat → Nat) (row : List Nat) : ∀ ls d, (dueAll num row ls d).length = d.length
  | [], _ => rfl
  | x :: r, d => by
    show (dueAll num row r (dueL num row x.1 x.2.2 4 0 d)).length = _
    rw [dueAll_len num row r, dueL_len]
theorem dueAll_snoc (num : Nat → Nat) (row : List Nat) (ls : List (Nat × Nat × Nat)) (x : Nat × Nat × Nat) (d : List Int) : dueAll num row (ls ++ [x]) d = dueL num row x.1 x.2.2 4 0 (dueAll num row ls d) := by
  unfold dueAll; rw [List.foldl_append]; rfl

/-- an own triple of ints -/
def Tup3 (H h : Heap) (T : Addr) (x : Nat × Nat × Nat) : Prop := H.objs.size ≤ T ∧ ∃ t1 t2 t3, h.get? T = some { cls := .type "tuple", data := .seq #[.int ((x.1 : Nat) : Int) t1, .int ((x.2.1 : Nat) : Int) t2, .int ((x.2.2 : Nat) : Int) t3] }

section
variable {prog : Program} {w : World} {A : Around} {E : Value → Shared → Prop} {s : Shared} {H h h0 h1 h2 : Heap} {mg mb : Str → Option Value} {env ce : Env} {m cm cc : Str → Option Value} {C : Str → Addr} {cl : List (Str × Addr)} {scope : Scope}

theorem Tup3.calm {S : Addr → Prop} {T : Addr} {x : Nat × Nat × Nat} (u : Tup3 H h1 T x) (c : Calm H S h1 h2) (hS : ¬ S T) : Tup3 H h2 T x :=
  ⟨u.1, let ⟨t1, t2, t3, e⟩ := u.2; ⟨t1, t2, t3, c.keep T _ hS u.1 (Solid.of fun vs q => by cases q) e⟩⟩
theorem Tup3.notOwn {T : Addr} {x : Nat × Nat × Nat} (u : Tup3 H h T x) (F : Frm H env m cm h) : ¬ Own env T := by
  obtain ⟨_, t1, t2, t3, e⟩ := u
  rintro (q | ⟨k, hm⟩)
  · obtain ⟨o', es, ep, e', hd', _⟩ := F.ns; rw [q] at e; rw [e] at e'; cases e'; cases hd'
  · obtain ⟨o', e', hd'⟩ := (F.cell k T hm).1; rw [e] at e'; cases e'; cases hd'

theorem l_tup {a b c : Nat} {k k1 k2 k3 : Nat} {p1 p2 p3 pos : Pos} {Q : Value → Shared → Prop} (hH : H.objs.size ≤ s.heap.objs.size)
    (h : ∀ h' tk, Tup3 H h' s.heap.objs.size (a, b, c) → Ext H Nil s.heap h' → h'.objs.size = s.heap.objs.size + 1 → Q (.ref s.heap.objs.size) (put s h' tk)) :
    wpAny (model prog w) A (eval (.Tuple [.Constant (.int ((a : Nat) : Int)) k1 p1, .Constant (.int ((b : Nat) : Int)) k2 p2, .Constant (.int ((c : Nat) : Int)) k3 p3] k pos) env) Q E s := by
  refine wpAny_Tuple ?_
  show wpAny (model prog w) A (spliced [(false, eval _ env), (false, eval _ env), (false, eval _ env)]) _ _ _
  refine spliced_cons (l_int fun t1 _ => spliced_cons (l_int fun t2 _ => spliced_cons (l_int fun t3 _ => spliced_nil ⟨by show 3 ≤ sizeLine; decide, ?_⟩)))
  exact h _ _ ⟨hH, t1, t2, t3, Heap.get?_push_size _ rfl⟩ (Ext.push _) (Heap.size_push ..)

set_option maxHeartbeats 2000000 in
theorem ph_while {l D Dn d : Addr} {vr : Array Value} {row : List Nat} {num : Nat → Nat} {size step weight n : Nat} {R Rn : Addr → Prop} {ds : List Int} {ts tp tw tst : Tok} {Q : Flow → Shared → Prop} (S : Stat H mg mb) (hA : Ok A (n + 10)) (G : Good H s.heap) (V : LawEnv env C) (F : Frm H env m cm s.heap)
    (hr : m "row" = some (.ref l)) (lr : Lst H s.heap l vr) (ir : IntL vr (intsOf row)) (hro : row ∈ ordN 4) (hD : cm "names" = some (.ref D)) (lD : FL H (NameRow H num) 4 R s.heap D) (hDn : cm "numbers" = some (.ref Dn)) (lDn : FL H (FI fun i => ((num i : Nat) : Int)) 4 Rn s.heap Dn)
    (hsz : cm "size" = some (.int ((size : Nat) : Int) ts)) (hst : cm "step" = some (.int ((step : Nat) : Int) tp)) (hst0 : step ≠ 0) (hw : m "weight" = some (.int ((weight : Nat) : Int) tw)) (hbits : Builtin.Int.intBits ((weight : Nat) : Int) ≤ 64)
    (hs : m "start" = some (.int ((0 : Nat) : Int) tst)) (hd : m "due" = some (.ref d)) (ld : GI H s.heap d ds) (hds : ds.length = 4) (hld : l ≠ d) (hRd : ¬ R d) (hRnd : ¬ Rn d) (hok : okL num row size step 4 0 = true)
    (kk : ∀ m' cm' h' tk', Frm H env m' cm' h' → (∀ z : Str, DueS z → m' z = m z) → (∀ z : Str, z ≠ "first" → z ≠ "place" → cm' z = cm z) → Ext H (fun b => Own env b ∨ b = d) s.heap h' →
      GI H h' d (dueL num row size weight 4 0 ds) → Q .next (put s h' tk')) :
    wpAny (model prog w) A (exec dueWhile env) Q E s := by
  refine while_rule (H := H) (S := fun b => Own env b ∨ b = d)
    (fun f h' => ∃ m' cm' start t d', Frm H env m' cm' h' ∧ Good H h' ∧ (∀ z : Str, DueS z → m' z = m z) ∧ (∀ z : Str, z ≠ "first" → z ≠ "place" → cm' z = cm z) ∧ m' "start" = some (.int ((start : Nat) : Int) t) ∧ GI H h' d d' ∧ d'.length = 4 ∧ okL num row size step f start = true ∧ dueL num row size weight f start d' = dueL num row size weight 4 0 ds)
    (fun _ _ => False)
    (fun h' => ∃ m' cm', Frm H env m' cm' h' ∧ (∀ z : Str, DueS z → m' z = m z) ∧ (∀ z : Str, z ≠ "first" → z ≠ "place" → cm' z = cm z) ∧ GI H h' d (dueL num row size weight 4 0 ds))
    4 ⟨m, cm, 0, tst, ds, F, G, fun _ _ => rfl, fun _ _ _ => rfl, hs, ld, hds, hok, rfl⟩ ?_ ?_ (fun _ _ _ _ r => r.elim)
  · rintro f s₁ Q' E' ⟨m', cm', start, t, d', F', G', hm, hc, hst', ld', hd', hok', htg⟩ X' hout hin
    refine wpAny_isTrue_Compare1 (nm_local F' V.k V.k_start hst' (l_int fun _ _ => wpAny_lt_int (wpAny_truthy_bool ?_)))
    by_cases hlt : start < 4
    · have e1 : decide (((start : Nat) : Int) < 4) = true := by simp; omega
      rw [e1]
      cases f with
      | zero => unfold okL at hok'; simp [hlt] at hok'
      | succ f =>
        unfold okL at hok'
        rw [if_pos hlt, Bool.and_eq_true] at hok'
        unfold dueL at htg
        rw [if_pos hlt] at htg
        refine hin _ ⟨_, _, rfl, .refl⟩ fun Qb hQb => ?_
        have hS : ∀ {R : Addr → Prop}, ¬ R d → ∀ b, Own env b ∨ b = d → Own env b ∨ ¬ R b := fun hR b q => q.imp id fun r => by rw [r]; exact hR
        refine due_turn (start := start) S hA G' V F' ((hm "row" ⟨by decide, by decide, by decide, by decide, by decide⟩).trans hr) (lr.calm X'.toCalm fun q => q.elim (fun r => F.notL _ r _ lr.isList) fun r => hld r) ir hro ((hc "names" (by decide) (by decide)).trans hD) (lD.own NameRow.fam F X'.toCalm (hS hRd))
          ((hc "numbers" (by decide) (by decide)).trans hDn) (lDn.own FI.fam F X'.toCalm (hS hRnd)) ((hc "size" (by decide) (by decide)).trans hsz) ((hc "step" (by decide) (by decide)).trans hst) hst0 ((hm "weight" ⟨by decide, by decide, by decide, by decide, by decide⟩).trans hw) hbits hst' hlt
          ((hm "due" ⟨by decide, by decide, by decide, by decide, by decide⟩).trans hd) ld' hd' hld hRd hRnd hok'.1 fun m2 cm2 h2 tk2 t2 F2 hm2 hc2 hst2 X2 ld2 => ?_
        refine hQb _ _ _ X2 ⟨f, Nat.lt_succ_self _, m2, cm2, _, t2, _, F2, X2.good G', fun z hz => (hm2 z hz).trans (hm z hz), fun z h1 h2 => (hc2 z h1 h2).trans (hc z h1 h2), hst2, ld2, ?_, hok'.2, htg⟩
        unfold dueRow; rw [dueRow_len, hd']
    · have e1 : decide (((start : Nat) : Int) < 4) = false := by simp; omega
      rw [e1]
      have e2 : dueL num row size weight f start d' = d' := by
        cases f with
        | zero => rfl
        | succ f => unfold dueL; rw [if_neg hlt]
      rw [e2] at htg
      exact hout _ _ .refl ⟨m', cm', F', hm, hc, htg ▸ ld'⟩
  · rintro h' tk' X' ⟨m', cm', F', hm, hc, ld'⟩
    exact kk m' cm' h' tk' F' hm hc X' ld'
end
end Mine

namespace Mine
open PySem PySem.W PySem.Spec PySem.Calls PyProof.Rows

theorem levels_facts : ∀ x ∈ levels, x.2.1 ≠ 0 ∧ Builtin.Int.intBits ((x.2.2 : Nat) : Int) ≤ 64 := by decide +kernel
theorem levels_get {i : Nat} (hi : i < 5) : levels.getD i (0, 0, 0) ∈ levels ∧ levels.take (i + 1) = levels.take i ++ [levels.getD i (0, 0, 0)] := by
  have h : ∀ i < 5, levels.getD i (0, 0, 0) ∈ levels ∧ levels.take (i + 1) = levels.take i ++ [levels.getD i (0, 0, 0)] := by decide
  exact h i hi

section
variable {prog : Program} {w : World} {A : Around} {E : Value → Shared → Prop} {s : Shared} {H h h0 h1 h2 : Heap} {mg mb : Str → Option Value} {env ce : Env} {m cm cc : Str → Option Value} {C : Str → Addr} {cl : List (Str × Addr)} {scope : Scope}

theorem Frm.keep (F : Frm H env m cm h1) (hk : ∀ b o, h1.get? b = some o → h2.get? b = some o) : Frm H env m cm h2 :=
  ⟨F.lo, F.ns.at' fun o e => hk _ o e, fun n c hm => ⟨(F.cell n c hm).1.keeps hk, (F.cell n c hm).2⟩, F.apart, F.uniq⟩

theorem asg_tuple {T : Addr} {x : Nat × Nat × Nat} {k : Nat} {p1 p2 p3 pos : Pos} {Q : Unit → Shared → Prop} (hA : A.handled = none) (V : LawEnv env C) (F : Frm H env m cm s.heap) (u : Tup3 H s.heap T x)
    (kk : ∀ h' tk' t1 t2 t3, Frm H env (upd m "weight" (.int ((x.2.2 : Nat) : Int) t3)) (upd (upd cm "size" (.int ((x.1 : Nat) : Int) t1)) "step" (.int ((x.2.1 : Nat) : Int) t2)) h' → Ext H (Own env) s.heap h' → Q () (put s h' tk')) :
    wpAny (model prog w) A (assign (.Tuple [.Name "size" p1, .Name "step" p2, .Name "weight" p3] k pos) env (.ref T)) Q E s := by
  obtain ⟨hT, t1, t2, t3, eT⟩ := u
  refine szd (wpAny_assign_Tuple hA ⟨_, eT, rfl, 0, rfl⟩ rfl rfl fun h1 hk1 => ?_)
  have keep1 : ∀ b o, s.heap.get? b = some o → h1.get? b = some o := fun b o e => hk1 b o (Nat.ne_of_lt (Heap.lt_size e)) e
  have F1 := F.keep keep1
  have hH1 : H.objs.size ≤ h1.objs.size := Nat.le_trans F1.lo (Nat.le_of_lt F1.ns.lt)
  refine wpAny_assignInOrder_more (wpAny_assign_Name (st_cell F1 V.k V.k_size V.c_size fun h2 tk2 F2 X2 => ?_))
  refine wpAny_assignInOrder_more (wpAny_assign_Name (st_cell F2 V.k V.k_step V.c_step fun h3 tk3 F3 X3 => ?_))
  refine wpAny_assignInOrder_more (wpAny_assign_Name (st_local F3 V.k V.k_weight fun h4 tk4 F4 X4 => ?_))
  refine wpAny_assignInOrder_none fun hsz => ?_
  have X14 : Ext H (Own env) h1 h4 := (X2.mono (Own.cell V.c_size)).trans ((X3.mono (Own.cell V.c_step)).trans (X4.mono Own.loc))
  refine kk h4 tk4 t1 t2 t3 F4 ⟨⟨hsz, fun b o hb hl hn e => X14.keep b o hb hl hn (keep1 b o e), fun G => X14.good ?_⟩, fun b o vs hl hd e => X14.flds b o vs hl hd (keep1 b o e)⟩
  exact ⟨G.lo, hH1, fun b o n1 n2 e => keep1 b o (G.old b o n1 n2 e), G.t1.keeps fun b o _ e => keep1 b o e, G.t2.keeps fun b o _ e => keep1 b o e⟩
end
end Mine

namespace Mine
open PySem PySem.W PySem.Spec PySem.Calls PyProof.Rows

def levList : Expr := match lawStmt 12 with
  | .For _ it _ _ _ => it
  | _ => default

section
variable {prog : Program} {w : World} {A : Around} {E : Value → Shared → Prop} {s : Shared} {H h h0 h1 h2 : Heap} {mg mb : Str → Option Value} {env ce : Env} {m cm cc : Str → Option Value} {C : Str → Addr} {cl : List (Str × Addr)} {scope : Scope}

theorem l_tupI (x : Nat × Nat × Nat) {a b c : Int} {k k1 k2 k3 : Nat} {p1 p2 p3 pos : Pos} {Q : Value → Shared → Prop} (hH : H.objs.size ≤ s.heap.objs.size) (ha : a = ((x.1 : Nat) : Int)) (hb : b = ((x.2.1 : Nat) : Int)) (hc : c = ((x.2.2 : Nat) : Int))
    (h : ∀ h' tk, Tup3 H h' s.heap.objs.size x → Ext H Nil s.heap h' → h'.objs.size = s.heap.objs.size + 1 → Q (.ref s.heap.objs.size) (put s h' tk)) :
    wpAny (model prog w) A (eval (.Tuple [.Constant (.int a) k1 p1, .Constant (.int b) k2 p2, .Constant (.int c) k3 p3] k pos) env) Q E s := by
  subst ha hb hc
  exact l_tup hH h

/-- what a tree of a triple does -/
def TupDo (prog : Program) (w : World) (H : Heap) (A : Around) (E : Value → Shared → Prop) (t : Sem Value) (x : Nat × Nat × Nat) : Prop :=
  ∀ (s : Shared) (Q : Value → Shared → Prop), H.objs.size ≤ s.heap.objs.size → (∀ h' tk, Tup3 H h' s.heap.objs.size x → Ext H Nil s.heap h' → h'.objs.size = s.heap.objs.size + 1 → Q (.ref s.heap.objs.size) (put s h' tk)) → wpAny (model prog w) A t Q E s

def levExpr (i : Nat) : Expr := match levList with
  | .List es _ => es.getD i default
  | _ => default

theorem lev0 : TupDo prog w H A E (eval (levExpr 0) env) (2, 2, 12) := fun s Q hH h => l_tupI (2, 2, 12) hH rfl rfl rfl h
theorem lev1 : TupDo prog w H A E (eval (levExpr 1) env) (3, 4, 12) := fun s Q hH h => l_tupI (3, 4, 12) hH rfl rfl rfl h
theorem lev2 : TupDo prog w H A E (eval (levExpr 2) env) (4, 8, 12) := fun s Q hH h => l_tupI (4, 8, 12) hH rfl rfl rfl h
theorem lev3 : TupDo prog w H A E (eval (levExpr 3) env) (5, 16, 6) := fun s Q hH h => l_tupI (5, 16, 6) hH rfl rfl rfl h
theorem lev4 : TupDo prog w H A E (eval (levExpr 4) env) (6, 32, 6) := fun s Q hH h => l_tupI (6, 32, 6) hH rfl rfl rfl h

set_option maxHeartbeats 1000000 in
theorem l_levels {Q : Value → Shared → Prop} (hH : H.objs.size ≤ s.heap.objs.size)
    (k : ∀ a h' tk vs, Lst H h' a vs → s.heap.objs.size ≤ a → Ext H Nil s.heap h' → vs.size = 5 → (∀ (i : Nat) (v : Value), vs[i]? = some v → v = Value.ref (s.heap.objs.size + i)) → (∀ j < 5, Tup3 H h' (s.heap.objs.size + j) (levels.getD j (0, 0, 0))) → Q (.ref a) (put s h' tk)) :
    wpAny (model prog w) A (eval levList env) Q E s := by
  refine l_list (H := H) ?_
  show wpAny (model prog w) A (spliced [(false, eval (levExpr 0) env), (false, eval (levExpr 1) env), (false, eval (levExpr 2) env), (false, eval (levExpr 3) env), (false, eval (levExpr 4) env)]) _ E s
  have d0 : TupDo prog w H A E (eval (levExpr 0) env) (2, 2, 12) := lev0
  have d1 : TupDo prog w H A E (eval (levExpr 1) env) (3, 4, 12) := lev1
  have d2 : TupDo prog w H A E (eval (levExpr 2) env) (4, 8, 12) := lev2
  have d3 : TupDo prog w H A E (eval (levExpr 3) env) (5, 16, 6) := lev3
  have d4 : TupDo prog w H A E (eval (levExpr 4) env) (6, 32, 6) := lev4
  generalize eval (levExpr 0) env = t0 at d0 ⊢
  generalize eval (levExpr 1) env = t1 at d1 ⊢
  generalize eval (levExpr 2) env = t2 at d2 ⊢
  generalize eval (levExpr 3) env = t3 at d3 ⊢
  generalize eval (levExpr 4) env = t4 at d4 ⊢
  generalize hX : (fun (vs : List Value) (s₁ : Shared) => vs.length ≤ 1000 ∧ H.objs.size ≤ s₁.heap.objs.size ∧ _) = X
  refine spliced_cons (d0 _ _ hH fun h1 tk1 u1 X1 z1 => ?_)
  have H1 := Nat.le_trans hH X1.size
  refine spliced_cons (d1 _ _ H1 fun h2 tk2 u2 X2 z2 => ?_)
  have H2 := Nat.le_trans H1 X2.size
  refine spliced_cons (d2 _ _ H2 fun h3 tk3 u3 X3 z3 => ?_)
  have H3 := Nat.le_trans H2 X3.size
  refine spliced_cons (d3 _ _ H3 fun h4 tk4 u4 X4 z4 => ?_)
  have H4 := Nat.le_trans H3 X4.size
  refine spliced_cons (d4 _ _ H4 fun h5 tk5 u5 X5 z5 => ?_)
  have H5 := Nat.le_trans H4 X5.size
  dsimp only at z1 z2 z3 z4 z5 u1 u2 u3 u4 u5
  refine spliced_nil ?_
  rw [← hX]
  refine ⟨by simp, H5, fun a h6 tk6 la X6 ha => ?_⟩
  have ha' : h5.objs.size ≤ a := ha
  have X06 : Ext H Nil s.heap h6 := X1.trans (X2.trans (X3.trans (X4.trans (X5.trans X6))))
  have hsa : s.heap.objs.size ≤ a := Nat.le_trans (X1.trans (X2.trans (X3.trans (X4.trans X5)))).size ha'
  have e2 : h2.objs.size = s.heap.objs.size + 2 := by rw [z2, z1]
  have e3 : h3.objs.size = s.heap.objs.size + 3 := by rw [z3, e2]
  have e4 : h4.objs.size = s.heap.objs.size + 4 := by rw [z4, e3]
  refine k a h6 tk6 _ la hsa X06 rfl ?_ ?_
  · intro i v hv
    rw [z1, e2, e3, e4] at hv
    match i, hv with
    | 0, hv => exact (Option.some.inj hv).symm
    | 1, hv => exact (Option.some.inj hv).symm
    | 2, hv => exact (Option.some.inj hv).symm
    | 3, hv => exact (Option.some.inj hv).symm
    | 4, hv => exact (Option.some.inj hv).symm
    | i + 5, hv => simp at hv
  · intro j hj
    match j, hj with
    | 0, _ => exact u1.calm (X2.trans (X3.trans (X4.trans (X5.trans X6)))).toCalm fun q => q
    | 1, _ => rw [z1] at u2; exact u2.calm (X3.trans (X4.trans (X5.trans X6))).toCalm fun q => q
    | 2, _ => rw [e2] at u3; exact u3.calm (X4.trans (X5.trans X6)).toCalm fun q => q
    | 3, _ => rw [e3] at u4; exact u4.calm (X5.trans X6).toCalm fun q => q
    | 4, _ => rw [e4] at u5; exact u5.calm X6.toCalm fun q => q
end
end Mine

namespace Mine
open PySem PySem.W PySem.Spec PySem.Calls PyProof.Rows

/-- the names that the levels' loop writes -/
def LevS (z : Str) : Prop := DueS z ∧ z ≠ "weight"

def levPart : Expr × List Stmt × Pos := match lawStmt 12 with
  | .For t _ b _ p => (t, b, p)
  | _ => (default, [], default)

section
variable {prog : Program} {w : World} {A : Around} {E : Value → Shared → Prop} {s : Shared} {H h h0 h1 h2 : Heap} {mg mb : Str → Option Value} {env ce : Env} {m cm cc : Str → Option Value} {C : Str → Addr} {cl : List (Str × Addr)} {scope : Scope}

set_option maxHeartbeats 1000000 in
theorem ph_due {l D Dn d : Addr} {vr : Array Value} {row : List Nat} {num : Nat → Nat} {n : Nat} {R Rn : Addr → Prop} {Q : Flow → Shared → Prop} (S : Stat H mg mb) (hA : Ok A (n + 10)) (G : Good H s.heap) (V : LawEnv env C) (F : Frm H env m cm s.heap)
    (hr : m "row" = some (.ref l)) (lr : Lst H s.heap l vr) (ir : IntL vr (intsOf row)) (hro : row ∈ ordN 4) (hD : cm "names" = some (.ref D)) (lD : FL H (NameRow H num) 4 R s.heap D) (hDn : cm "numbers" = some (.ref Dn)) (lDn : FL H (FI fun i => ((num i : Nat) : Int)) 4 Rn s.heap Dn)
    (hd : m "due" = some (.ref d)) (ld : GI H s.heap d [0, 0, 0, 0]) (hld : l ≠ d) (hRd : ¬ R d) (hRnd : ¬ Rn d) (hok : ∀ x ∈ levels, okL num row x.1 x.2.1 4 0 = true)
    (kk : ∀ m' cm' h' tk', Frm H env m' cm' h' → (∀ z : Str, LevS z → m' z = m z) → Ext H (fun b => Own env b ∨ b = d) s.heap h' →
      GI H h' d (dueAll num row levels [0, 0, 0, 0]) → Q .next (put s h' tk')) :
    wpAny (model prog w) A (exec (lawStmt 12) env) Q E s := by
  have hds : d < s.heap.objs.size := by
    obtain ⟨_, vd, ⟨o, e, _⟩, _⟩ := ld
    exact Heap.lt_size e
  have spec : ∀ (s : Shared) (E : Value → Shared → Prop) (Q : Value → Shared → Prop), H.objs.size ≤ s.heap.objs.size → (∀ a h' tk vs, Lst H h' a vs → s.heap.objs.size ≤ a → Ext H Nil s.heap h' → vs.size = 5 → (∀ (i : Nat) (v : Value), vs[i]? = some v → v = Value.ref (s.heap.objs.size + i)) → (∀ j < 5, Tup3 H h' (s.heap.objs.size + j) (levels.getD j (0, 0, 0))) → Q (.ref a) (put s h' tk)) →
    wpAny (model prog w) A (eval levList env) Q E s := fun s E Q => @l_levels prog w A E s H env Q
  have hfold : ∀ x, foldedSetIterable levList env x = pure x := by intro _; rfl
  have est : lawStmt 12 = .For levPart.1 levList levPart.2.1 [] levPart.2.2 := rfl
  rw [est]
  generalize levList = it at spec hfold ⊢
  refine st_for_list (iter := it) (H := H) (n := 5) (P := fun i v => v = .ref (s.heap.objs.size + i)) (S' := fun b => Own env b ∨ b = d) hA.1
    (fun i h' => ∃ m' cm', Frm H env m' cm' h' ∧ Good H h' ∧ (∀ z : Str, LevS z → m' z = m z) ∧ (∀ z : Str, z ≠ "first" → z ≠ "place" → z ≠ "size" → z ≠ "step" → cm' z = cm z) ∧ GI H h' d (dueAll num row (levels.take i) [0, 0, 0, 0]) ∧ ∀ j < 5, Tup3 H h' (s.heap.objs.size + j) (levels.getD j (0, 0, 0))) (fun _ _ => False)
    ?iter (fun i ha hb ⟨m', cm', F', G', h1, h2, h3, h4⟩ c => ⟨m', cm', F'.nil c, c.good G', h1, h2, h3.nil c, fun j hj => (h4 j hj).calm c fun q => q⟩) ?turn (fun I v s₁ Q E' o e hc hq => lotg_tuple v s₁ Q E' o e hc hq) ?fin (fun _ _ _ _ r => r.elim) (hs := hfold)
  case iter =>
    refine spec s E _ G.size fun a h1 tk1 vs la ha X1 hvs hv ht => ?_
    have F1 := F.nil X1.toCalm
    refine ⟨a, vs, h1, tk1, rfl, rfl, la, G.size, ?_, X1, ⟨m, cm, F1, X1.good G, fun _ _ => rfl, fun _ _ _ _ _ => rfl, ld.nil X1.toCalm, ht⟩, hvs, hv⟩
    rintro (q | q)
    · exact F1.notL _ q _ la.isList
    · rw [q] at ha
      exact Nat.lt_irrefl _ (Nat.lt_of_lt_of_le hds ha)
  case turn =>
    rintro i v s₁ Q' E' hi rfl ⟨m', cm', F', G', hm, hc, ld', ht⟩ X' hq
    obtain ⟨hxm, etake⟩ := levels_get hi
    have hT := ht i hi
    generalize levels.getD i (0, 0, 0) = x at hT hxm etake
    obtain ⟨hx0, hxb⟩ := levels_facts x hxm
    refine asg_tuple hA.1 V F' hT fun h1 tk1 t1 t2 t3 F1 X1 => ?_
    have cmz : ∀ z : Str, z ≠ "size" → z ≠ "step" → upd (upd cm' "size" (.int ((x.1 : Nat) : Int) t1)) "step" (.int ((x.2.1 : Nat) : Int) t2) z = cm' z := fun z h1 h2 => (upd_ne h2).trans (upd_ne h1)
    refine wpAny_execs_cons (wpAny_Assign_Name (l_int fun t4 _ => st_local F1 V.k V.k_start fun h2 tk2 F2 X2 => ?_))
    have X12 : Ext H (Own env) s₁.heap h2 := X1.trans (X2.mono Own.loc)
    have XS : Ext H (fun b => Own env b ∨ b = d) s.heap h2 := X'.trans (X12.mono fun b q => .inl q)
    have hS : ∀ {R : Addr → Prop}, ¬ R d → ∀ b, Own env b ∨ b = d → Own env b ∨ ¬ R b := fun hR b q => q.imp id fun r => by rw [r]; exact hR
    have mz : ∀ z : Str, LevS z → upd (upd m' "weight" (.int ((x.2.2 : Nat) : Int) t3)) "start" (.int 0 t4) z = m z := fun z hz => (upd_ne hz.1.1).trans ((upd_ne hz.2).trans (hm z hz))
    have lev : ∀ z : Str, z ≠ "start" → z ≠ "stop" → z ≠ "side" → z ≠ "alike" → z ≠ "near" → z ≠ "weight" → LevS z := fun z a b c d e f => ⟨⟨a, b, c, d, e⟩, f⟩
    refine wpAny_execs_cons (ph_while (n := n) S hA (X12.good G') V F2 ((mz _ (lev _ (by decide) (by decide) (by decide) (by decide) (by decide) (by decide))).trans hr) (lr.calm XS.toCalm fun q => q.elim (fun r => F.notL _ r _ lr.isList) fun r => hld r) ir hro
      ((cmz _ (by decide) (by decide)).trans ((hc _ (by decide) (by decide) (by decide) (by decide)).trans hD)) (lD.own NameRow.fam F XS.toCalm (hS hRd)) ((cmz _ (by decide) (by decide)).trans ((hc _ (by decide) (by decide) (by decide) (by decide)).trans hDn)) (lDn.own FI.fam F XS.toCalm (hS hRnd))
      ((upd_ne (by decide)).trans upd_self) upd_self hx0 ((upd_ne (by decide)).trans upd_self) hxb upd_self ((mz _ (lev _ (by decide) (by decide) (by decide) (by decide) (by decide) (by decide))).trans hd) (ld'.own F' X12.toCalm fun b q => .inl q) (by rw [dueAll_len]; rfl) hld hRd hRnd (hok x hxm)
      fun m3 cm3 h3 tk3 F3 hm3 hc3 X3 ld3 => wpAny_execs_nil ?_)
    have X13 : Ext H (fun b => Own env b ∨ b = d) s₁.heap h3 := (X12.mono fun b q => .inl q).trans X3
    refine hq _ _ _ X13 ⟨m3, cm3, F3, X13.good G', fun z hz => (hm3 z hz.1).trans (mz z hz), fun z h1 h2 h3 h4 => (hc3 z h1 h2).trans ((cmz z h3 h4).trans (hc z h1 h2 h3 h4)), ?_, fun j hj => (ht j hj).calm X13.toCalm ?_⟩
    · rw [etake, dueAll_snoc]
      exact ld3
    · rintro (q | q)
      · exact (ht j hj).notOwn F' q
      · exact Nat.lt_irrefl d (Nat.lt_of_lt_of_le hds (q ▸ Nat.le_add_right _ _))
  case fin =>
    rintro h' tk' X' ⟨m', cm', F', G', hm, hc, ld', ht⟩
    exact kk m' cm' h' tk' F' hm X' ld'
end
end Mine

namespace Mine
open PySem PySem.W PySem.Spec PySem.Calls PyProof.Rows

def numN (ns : List Int) (i : Nat) : Nat := (numOf ns i).toNat
theorem numOf_range (ns : List Int) (i : Nat) : 0 ≤ numOf ns i ∧ numOf ns i < 32 := by
  unfold numOf
  rw [Int.fmod_eq_emod_of_nonneg _ (by decide)]
  omega
theorem numOf_eq (ns : List Int) : numOf ns = fun i => ((numN ns i : Nat) : Int) := by
  funext i
  have := numOf_range ns i
  unfold numN
  omega
theorem numN_lt (ns : List Int) (i : Nat) : numN ns i < 32 := by
  have := numOf_range ns i
  unfold numN
  omega

/-- what law computes behind its checks -/
def lawGrown (num : Nat → Nat) : List Int := grownN (fun i j => apN (num i) (num j)) (rowN num 4) (ordN 4) [0, 0, 0, 0]
def lawDue (num : Nat → Nat) : List Int := dueAll num (rowN num 4) levels [0, 0, 0, 0]
def lawChecks (num : Nat → Nat) : Prop := ∀ x ∈ levels, okL num (rowN num 4) x.1 x.2.1 4 0 = true

section
variable {prog : Program} {w : World} {A : Around} {E : Value → Shared → Prop} {s : Shared} {H h h0 h1 h2 : Heap} {mg mb : Str → Option Value} {env ce : Env} {m cm cc : Str → Option Value} {C : Str → Addr} {cl : List (Str × Addr)} {scope : Scope}

theorem GI.ofLst {a : Addr} {vs : Array Value} {xs : List Int} (l : Lst H h a vs) (x : IntL vs xs) : GI H h a xs := ⟨l.1, vs, l.isList, x⟩

/-- x = [0, 0, 0, 0] -/
theorem l_zeros {p0 p1 p2 p3 pos px pos2 : Pos} {x : Str} {Q : Flow → Shared → Prop} (G : Good H s.heap) (V : LawEnv env C) (F : Frm H env m cm s.heap) (hl : env.kindOf x = some .local)
    (k : ∀ a h' tk', Frm H env (upd m x (.ref a)) cm h' → Ext H (At env.locals) s.heap h' → s.heap.objs.size ≤ a → GI H h' a [0, 0, 0, 0] → Q .next (put s h' tk')) :
    wpAny (model prog w) A (exec (.Assign [.Name x px] (.List [.Constant (.int 0) 0 p0, .Constant (.int 0) 0 p1, .Constant (.int 0) 0 p2, .Constant (.int 0) 0 p3] pos) pos2) env) Q E s := by
  refine wpAny_Assign_Name (l_list (H := H) (spliced_cons (l_int fun t0 _ => spliced_cons (l_int fun t1 _ => spliced_cons (l_int fun t2 _ => spliced_cons (l_int fun t3 _ => spliced_nil ⟨by simp, G.size, fun a h1 tk1 la X1 ha => ?_⟩))))))
  refine st_local (F.nil X1.toCalm) V.k hl fun h2 tk2 F2 X2 => k a h2 tk2 F2 (X1.to.trans X2) ha ?_
  exact GI.ofLst (la.loc (F.nil X1.toCalm) X2.toCalm) (.ofCons (.ofCons (.ofCons (.ofCons .nil))))
end
end Mine

namespace Mine
open PySem PySem.W PySem.Spec PySem.Calls PyProof.Rows

section
variable {prog : Program} {w : World} {A : Around} {E : Value → Shared → Prop} {s : Shared} {H h h0 h1 h2 : Heap} {mg mb : Str → Option Value} {env ce : Env} {m cm cc : Str → Option Value} {C : Str → Addr} {cl : List (Str × Addr)} {scope : Scope}

/-- below K -/
def Bel (K : Addr) : Addr → Prop := fun a => a < K
theorem FL.bel {P : (Addr → Prop) → Nat → Value → Heap → Prop} (W : Fam H P) {n : Nat} {R : Addr → Prop} {a : Addr} (x : FL H P n R h a) : FL H P n (Bel h.objs.size) h a := x.mono W fun b hb _ => hb

/-- the later half: from the row on -/

theorem law_late {DA DN D : Addr} {num : Nat → Nat} {n : Nat} {K : Addr} {Q : Flow → Shared → Prop} (S : Stat H mg mb) (hA : Ok A (n + 20)) (G : Good H s.heap) (V : LawEnv env C) (F : Frm H env m cm s.heap)
    (hK : K ≤ s.heap.objs.size) (hD : cm "numbers" = some (.ref D)) (lD : FL H (FI fun i => ((num i : Nat) : Int)) 4 (Bel K) s.heap D) (hDA : cm "apart" = some (.ref DA)) (lDA : FL H (ApRow H num) 4 (Bel K) s.heap DA) (hDN : cm "names" = some (.ref DN)) (lDN : FL H (NameRow H num) 4 (Bel K) s.heap DN)
    (hok : lawChecks num) (kk : ∀ h' tk', Ext H (fun b => Own env b ∨ K ≤ b) s.heap h' → Q (.ret (.bool (decide (lawGrown num = lawDue num)))) (put s h' tk')) :
    wpAny (model prog w) A (execs ((bodyOf (topStmt 17)).drop 5) env) Q E s := by
  -- row = []
  refine wpAny_execs_cons (wpAny_Assign_Name (l_list (H := H) (spliced_nil ⟨by simp, G.size, fun l h1 tk1 la X1 hl => ?_⟩)))
  refine st_local (F.nil X1.toCalm) V.k V.k_row fun h2 tk2 F2 X2 => ?_
  have l2 : Lst H h2 l #[] := la.loc (F.nil X1.toCalm) X2.toCalm
  have X02 : Ext H (Own env) s.heap h2 := X1.to.trans (X2.mono Own.loc)
  have hl' : s.heap.objs.size ≤ l := hl
  have hKl : ¬ Bel K l := Nat.not_lt.mpr (Nat.le_trans hK hl')
  have G2 := X02.good G
  -- for place in range(4): insort
  refine wpAny_execs_cons (ph_row (n := n) S (hA.mono (by omega)) G2 V F2 hDN (lDN.own NameRow.fam F X02.toCalm fun b q => .inl q) upd_self l2 hKl fun m3 cm3 h3 tk3 vr F3 hc3 hm3 X3 l3 i3 => ?_)
  have hS3 : ∀ b, Own env b ∨ b = l → Own env b ∨ ¬ Bel K b := fun b q => q.imp id fun r => by rw [r]; exact hKl
  have X03 : Ext H (fun b => Own env b ∨ b = l) s.heap h3 := (X02.mono fun b q => .inl q).trans X3
  have G3 := X03.good G
  have hrow : m3 "row" = some (.ref l) := (hm3 "row").trans upd_self
  -- orders = [[]]
  refine wpAny_execs_cons (wpAny_Assign_Name (l_list (H := H) (spliced_cons (l_list (H := H) (spliced_nil ⟨by simp, G3.size, fun b0 h4 tk4 l4 X4 hb0 => spliced_nil ⟨by simp, (X4.good G3).size, fun a0 h5 tk5 l5 X5 ha0 => ?_⟩⟩)))))
  have F5 := (F3.nil X4.toCalm).nil X5.toCalm
  refine st_local F5 V.k V.k_orders fun h6 tk6 F6 X6 => ?_
  have X36 : Ext H (Own env) h3 h6 := X4.to.trans (X5.to.trans (X6.mono Own.loc))
  have l56 := l5.loc F5 X6.toCalm
  have l46 := (l4.nil X5.toCalm).loc F5 X6.toCalm
  have r6 : RowsI H (fun _ => True) h6 #[.ref b0] [[]] := by
    have := (RowsI.nil (H := H) (Rg := fun _ => True) (h := h6)).push (b := b0) trivial l46 IntL.nil
    exact this
  have G6 := X36.good G3
  -- the orders
  refine wpAny_execs_cons (ph_orders (n := n) S (hA.mono (by omega)) G6 V F6 upd_self l56 r6 fun m7 cm7 aO h7 tk7 zs F7 hc7 hm7 hO7 X7 lO rO => ?_)
  have X37 : Ext H (Own env) h3 h7 := X36.trans X7
  have G7 := X37.good G3
  have hrow7 : m7 "row" = some (.ref l) := (hm7 "row" (by decide)).trans ((upd_ne (by decide)).trans hrow)
  -- grown = [0, 0, 0, 0]
  refine wpAny_execs_cons (l_zeros G7 V F7 V.k_grown fun g h8 tk8 F8 X8 hg lg => ?_)
  have hg' : h7.objs.size ≤ g := hg
  have X08 : Ext H (fun b => Own env b ∨ b = l) s.heap h8 := X03.trans ((X37.mono fun b q => .inl q).trans (X8.mono fun b q => .inl (Own.loc b q)))
  have G8 := X08.good G
  have l8 := (l3.own F3 X37.toCalm).loc F7 X8.toCalm
  have hlg : l ≠ g := fun q => Nat.lt_irrefl _ (Nat.lt_of_lt_of_le (l3.own F3 X37.toCalm).lt (q ▸ hg'))
  have hKg : ¬ Bel K g := Nat.not_lt.mpr (Nat.le_trans hK (Nat.le_trans (X03.trans (X37.mono fun b q => .inl q)).size hg'))
  have c8 : ∀ z : Str, z ≠ "place" → cm7 z = cm z := fun z hz => (hc7 z hz).trans (hc3 z hz)
  have row8 : upd m7 "grown" (.ref g) "row" = some (.ref l) := (upd_ne (by decide)).trans hrow7
  -- the growth
  refine wpAny_execs_cons (ph_grown (n := n) S (hA.mono (by omega)) G8 V F8 ((upd_ne (by decide)).trans hO7) (lO.loc F7 X8.toCalm) ((rO.mono (Rg' := Bel h7.objs.size) fun b hb _ => hb).calm X8.toCalm fun b q => .inl (F7.notL b (Own.loc b q))) row8 l8 i3 (rowN_mem num 4)
    ((c8 "apart" (by decide)).trans hDA) (lDA.own ApRow.fam F X08.toCalm hS3) upd_self lg (fun q => ?_) hlg hKg (fun q => Nat.lt_irrefl _ (Nat.lt_of_lt_of_le q hg')) fun m9 cm9 h9 tk9 F9 hm9 hc9 X9 lg9 => ?_)
  · exact Nat.lt_irrefl _ (Nat.lt_of_lt_of_le lO.lt (q ▸ hg'))
  have X09 : Ext H (fun b => Own env b ∨ K ≤ b) s.heap h9 := (X08.mono fun b q => q.imp id fun r => by rw [r]; exact Nat.not_lt.mp hKl).trans (X9.mono fun b q => q.imp id fun r => by rw [r]; exact Nat.not_lt.mp hKg)
  have G9 := X09.good G
  have l9 := l8.calm X9.toCalm fun q => q.elim (fun r => F8.notL _ r _ l8.isList) fun r => hlg r
  -- due = [0, 0, 0, 0]
  refine wpAny_execs_cons (l_zeros G9 V F9 V.k_due fun d h10 tk10 F10 X10 hd ld => ?_)
  have hd' : h9.objs.size ≤ d := hd
  have X0A : Ext H (fun b => Own env b ∨ K ≤ b) s.heap h10 := X09.trans (X10.mono fun b q => .inl (Own.loc b q))
  have l10 := l9.loc F9 X10.toCalm
  have lg10 := lg9.own F9 X10.toCalm fun b q => .inl (Own.loc b q)
  have hld : l ≠ d := fun q => Nat.lt_irrefl _ (Nat.lt_of_lt_of_le l9.lt (q ▸ hd'))
  have hgd : g ≠ d := fun q => by
    obtain ⟨_, vd, ⟨o, e, _⟩, _⟩ := lg9
    exact Nat.lt_irrefl _ (Nat.lt_of_lt_of_le (Heap.lt_size e) (q ▸ hd'))
  have hKd : ¬ Bel K d := Nat.not_lt.mpr (Nat.le_trans hK (Nat.le_trans X09.size hd'))
  have hSK : ∀ b, Own env b ∨ K ≤ b → Own env b ∨ ¬ Bel K b := fun b q => q.imp id fun r => Nat.not_lt.mpr r
  have c10 : ∀ z : Str, z ≠ "came" → z ≠ "stops" → z ≠ "place" → cm9 z = cm z := fun z h1 h2 h3 => (hc9 z h1 h2).trans (c8 z h3)
  have row10 : upd m9 "due" (.ref d) "row" = some (.ref l) := (upd_ne (by decide)).trans ((hm9 "row" ⟨by decide, by decide, by decide, by decide⟩).trans row8)
  have grown10 : upd m9 "due" (.ref d) "grown" = some (.ref g) := (upd_ne (by decide)).trans ((hm9 "grown" ⟨by decide, by decide, by decide, by decide⟩).trans upd_self)
  -- what is due
  have D12 : ∀ Q' : Flow → Shared → Prop, (∀ m' cm' h' tk', Frm H env m' cm' h' → (∀ z : Str, LevS z → m' z = upd m9 "due" (.ref d) z) → Ext H (fun b => Own env b ∨ b = d) h10 h' → GI H h' d (dueAll num (rowN num 4) levels [0, 0, 0, 0]) → Q' .next (put (put s h10 tk10) h' tk')) → wpAny (model prog w) A (exec (lawStmt 12) env) Q' E (put s h10 tk10) :=
    fun Q' => @ph_due prog w A E (put s h10 tk10) H mg mb env (upd m9 "due" (.ref d)) cm9 C l DN D d vr (rowN num 4) num (n + 10) (Bel K) (Bel K) Q' S hA (X0A.good G) V F10 row10 l10 i3 (rowN_mem num 4) ((c10 "names" (by decide) (by decide) (by decide)).trans hDN) (lDN.own NameRow.fam F X0A.toCalm hSK) ((c10 "numbers" (by decide) (by decide) (by decide)).trans hD) (lD.own FI.fam F X0A.toCalm hSK)
      upd_self ld hld hKd hKd hok
  show wpAny (model prog w) A (execs (lawStmt 12 :: [lawStmt 13]) env) Q E (put s h10 tk10)
  have e13 : lawStmt 13 = .Return (some (.Compare (.Name "grown" ⟨137, 11, 137, 16⟩) [.Eq] [.Name "due" ⟨137, 20, 137, 23⟩] ⟨137, 11, 137, 23⟩)) ⟨137, 4, 137, 23⟩ := rfl
  rw [e13]
  generalize lawStmt 12 = st12 at D12 ⊢
  refine wpAny_execs_cons (D12 _ fun mB cmB hB tkB FB hmB XB ldB => ?_)
  have lgB := lg10.own F10 XB.toCalm fun b q => q.imp id fun r => by rw [r]; exact hgd.symm
  have lev : ∀ z : Str, z ≠ "start" → z ≠ "stop" → z ≠ "side" → z ≠ "alike" → z ≠ "near" → z ≠ "weight" → LevS z := fun z a b c d e f => ⟨⟨a, b, c, d, e⟩, f⟩
  obtain ⟨_, vg, hvg, ig⟩ := lgB
  obtain ⟨_, vd, hvd, idd⟩ := ldB
  refine wpAny_execs_cons (wpAny_Return_some (wpAny_Compare1 (nm_local FB V.k V.k_grown ((hmB _ (lev _ (by decide) (by decide) (by decide) (by decide) (by decide) (by decide))).trans grown10) (nm_local FB V.k V.k_due ((hmB _ (lev _ (by decide) (by decide) (by decide) (by decide) (by decide) (by decide))).trans upd_self)
    (l_eq_ints hvg hvd ig idd ?_ ?_)))))
  · have := hA.2.2
    show A.units + 64 < 9900
    omega
  · exact kk _ _ (X0A.trans (XB.mono fun b q => q.imp id fun r => by rw [r]; exact Nat.not_lt.mp hKd))
end
end Mine

namespace Mine
open PySem PySem.W PySem.Spec PySem.Calls PyProof.Rows

section
variable {prog : Program} {w : World} {A : Around} {E : Value → Shared → Prop} {s : Shared} {H h h0 h1 h2 : Heap} {mg mb : Str → Option Value} {env ce : Env} {m cm cc : Str → Option Value} {C : Str → Addr} {cl : List (Str × Addr)} {scope : Scope}

/-- law's body -/
theorem law_body {l0 : Addr} {vs : Array Value} {ns : List Int} {n : Nat} {Q : Flow → Shared → Prop} (S : Stat H mg mb) (hA : Ok A (n + 20)) (G : Good H s.heap) (V : LawEnv env C) (F : Frm H env m cm s.heap) (hm : m "script" = some (.ref l0)) (hl : ∀ h', Good H h' → h'.IsList l0 vs) (hi : IntL vs ns) (hn : ns.length ≤ 63)
    (hok : lawChecks (numN ns)) (kk : ∀ h' tk', Ext H (fun b => Own env b ∨ s.heap.objs.size ≤ b) s.heap h' → Q (.ret (.bool (decide (lawGrown (numN ns) = lawDue (numN ns))))) (put s h' tk')) :
    wpAny (model prog w) A (execs (bodyOf (topStmt 17)) env) Q E s := by
  -- numbers
  refine wpAny_execs_cons (ph_numbers (n := n + 20) S hA G V F hm hl hi hn fun D h1 tk1 F1 X1 lD0 => ?_)
  have lD : FL H (FI fun i => ((numN ns i : Nat) : Int)) 4 (Bel h1.objs.size) h1 D := by
    have := lD0.bel FI.fam
    rwa [numOf_eq] at this
  have G1 := X1.good G
  -- ladders = []
  refine wpAny_execs_cons (wpAny_Assign_Name (l_list (H := H) (spliced_nil ⟨by simp, G1.size, fun l h2 tk2 la X2 hl2 => ?_⟩)))
  refine st_cell (F1.nil X2.toCalm) V.k V.k_ladders V.c_ladders fun h3 tk3 F3 X3 => ?_
  have l3 : Lst H h3 l #[] := la.cel (F1.nil X2.toCalm) V.c_ladders X3.toCalm
  have X13 : Ext H (Own env) h1 h3 := X2.to.trans (X3.mono (Own.cell V.c_ladders))
  have hl' : h1.objs.size ≤ l := hl2
  have hBl : ¬ Bel h1.objs.size l := Nat.not_lt.mpr hl'
  have lD3 := lD.own FI.fam F1 X13.toCalm fun b q => .inl q
  have G3 := X13.good G1
  -- the ladders
  refine wpAny_execs_cons (ph_ladders (n := n + 15) S hA G3 V F3 ((upd_ne (by decide)).trans upd_self) lD3 (fun i _ => numN_lt ns i) upd_self l3 (fun q => hBl (q ▸ lD3.1)) fun m4 cm4 h4 tk4 F4 hc4 X4 lL0 => ?_)
  have lL := lL0.bel LadRow.fam
  have hS4 : ∀ b, Own env b ∨ b = l → Own env b ∨ ¬ Bel h1.objs.size b := fun b q => q.imp id fun r => by rw [r]; exact hBl
  have lD4 := lD3.own FI.fam F3 X4.toCalm hS4
  have G4 := X4.good G3
  have hlad4 : cm4 "ladders" = some (.ref l) := (hc4 "ladders" (by decide)).trans upd_self
  have hnum4 : cm4 "numbers" = some (.ref D) := (hc4 "numbers" (by decide)).trans ((upd_ne (by decide)).trans upd_self)
  -- apart
  refine wpAny_execs_cons (ph_apart (n := n + 12) S hA G4 V F4 (fun i _ => numN_lt ns i) hlad4 lL fun DA h5 tk5 F5 X5 lA0 => ?_)
  have lA := lA0.bel ApRow.fam
  have lL5 := lL.cel LadRow.fam F4 V.c_apart X5.toCalm
  have lD5 := lD4.cel FI.fam F4 V.c_apart X5.toCalm
  have G5 := X5.good G4
  -- names
  refine wpAny_execs_cons (ph_names hA.1 G5 V F5 (fun i _ => numN_lt ns i) ((upd_ne (by decide)).trans hlad4) lL5 fun DN h6 tk6 F6 X6 lN0 => ?_)
  have lN := lN0.bel NameRow.fam
  have lA6 := lA.cel ApRow.fam F5 V.c_names X6.toCalm
  have lD6 := lD5.cel FI.fam F5 V.c_names X6.toCalm
  have G6 := X6.good G5
  have X06 : Ext H (fun b => Own env b ∨ s.heap.objs.size ≤ b) s.heap h6 :=
    (X1.mono fun b q => .inl (Own.cell V.c_numbers b q)).trans ((X13.mono fun b q => .inl q).trans ((X4.mono fun b q => q.imp id fun r => by rw [r]; exact Nat.le_trans X1.size hl').trans
      ((X5.mono fun b q => .inl (Own.cell V.c_apart b q)).trans (X6.mono fun b q => .inl (Own.cell V.c_names b q)))))
  have le16 : h1.objs.size ≤ h6.objs.size := Nat.le_trans X13.size (Nat.le_trans X4.size (Nat.le_trans X5.size X6.size))
  refine law_late (n := n) (K := h6.objs.size) S hA G6 V F6 (Nat.le_refl _) ((upd_ne (by decide)).trans ((upd_ne (by decide)).trans hnum4)) (lD6.mono FI.fam fun a _ q => Nat.lt_of_lt_of_le q le16) ((upd_ne (by decide)).trans upd_self) (lA6.mono ApRow.fam fun a _ q => Nat.lt_of_lt_of_le q X6.size) upd_self (lN.mono NameRow.fam fun a _ q => q) hok
    fun h7 tk7 X7 => ?_
  exact kk h7 tk7 (X06.trans (X7.mono fun b q => q.imp id fun r => Nat.le_trans X06.size r))
end
end Mine

namespace Mine
open PySem PySem.W PySem.Spec PySem.Calls PyProof.Rows

/-- the rank of a number's names -/
def rk (n : Nat) : Nat := 16 * (n % 2) + 8 * (1 - n / 2 % 2) + 4 * (1 - n / 4 % 2) + 2 * (n / 8 % 2) + (1 - n / 16 % 2)
theorem rk_lt (n : Nat) : rk n < 32 := by unfold rk; omega

/-- the names' letters -/
def tabL : List (List (List Nat)) := [
  [[46, 108, 111, 99, 97, 108], [46, 97, 46, 108, 111, 99, 97, 108], [46, 98, 46, 97, 46, 108, 111, 99, 97, 108], [46, 99, 111, 109, 46, 98, 46, 97, 46, 108, 111, 99, 97, 108], [120, 46, 99, 111, 109, 46, 98, 46, 97, 46, 108, 111, 99, 97, 108], [120, 46, 99, 111, 109, 46, 98, 46, 97, 46, 108, 111, 99, 97, 108]],
  [[46, 108, 111, 99, 97, 108], [46, 108, 111, 99, 97, 108, 46, 108, 111, 99, 97, 108], [46, 98, 46, 108, 111, 99, 97, 108, 46, 108, 111, 99, 97, 108], [46, 99, 111, 109, 46, 98, 46, 108, 111, 99, 97, 108, 46, 108, 111, 99, 97, 108], [120, 46, 99, 111, 109, 46, 98, 46, 108, 111, 99, 97, 108, 46, 108, 111, 99, 97, 108], [120, 46, 99, 111, 109, 46, 98, 46, 108, 111, 99, 97, 108, 46, 108, 111, 99, 97, 108]],
  [[46, 108, 111, 99, 97, 108], [46, 97, 46, 108, 111, 99, 97, 108], [46, 55, 46, 97, 46, 108, 111, 99, 97, 108], [46, 99, 111, 109, 46, 55, 46, 97, 46, 108, 111, 99, 97, 108], [120, 46, 99, 111, 109, 46, 55, 46, 97, 46, 108, 111, 99, 97, 108], [120, 46, 99, 111, 109, 46, 55, 46, 97, 46, 108, 111, 99, 97, 108]],
  [[46, 108, 111, 99, 97, 108], [46, 108, 111, 99, 97, 108, 46, 108, 111, 99, 97, 108], [46, 55, 46, 108, 111, 99, 97, 108, 46, 108, 111, 99, 97, 108], [46, 99, 111, 109, 46, 55, 46, 108, 111, 99, 97, 108, 46, 108, 111, 99, 97, 108], [120, 46, 99, 111, 109, 46, 55, 46, 108, 111, 99, 97, 108, 46, 108, 111, 99, 97, 108], [120, 46, 99, 111, 109, 46, 55, 46, 108, 111, 99, 97, 108, 46, 108, 111, 99, 97, 108]],
  [[46, 108, 111, 99, 97, 108], [46, 97, 46, 108, 111, 99, 97, 108], [46, 98, 46, 97, 46, 108, 111, 99, 97, 108], [46, 99, 46, 98, 46, 97, 46, 108, 111, 99, 97, 108], [120, 46, 99, 46, 98, 46, 97, 46, 108, 111, 99, 97, 108], [120, 46, 99, 46, 98, 46, 97, 46, 108, 111, 99, 97, 108]],
  [[46, 108, 111, 99, 97, 108], [46, 108, 111, 99, 97, 108, 46, 108, 111, 99, 97, 108], [46, 98, 46, 108, 111, 99, 97, 108, 46, 108, 111, 99, 97, 108], [46, 99, 46, 98, 46, 108, 111, 99, 97, 108, 46, 108, 111, 99, 97, 108], [120, 46, 99, 46, 98, 46, 108, 111, 99, 97, 108, 46, 108, 111, 99, 97, 108], [120, 46, 99, 46, 98, 46, 108, 111, 99, 97, 108, 46, 108, 111, 99, 97, 108]],
  [[46, 108, 111, 99, 97, 108], [46, 97, 46, 108, 111, 99, 97, 108], [46, 55, 46, 97, 46, 108, 111, 99, 97, 108], [46, 99, 46, 55, 46, 97, 46, 108, 111, 99, 97, 108], [120, 46, 99, 46, 55, 46, 97, 46, 108, 111, 99, 97, 108], [120, 46, 99, 46, 55, 46, 97, 46, 108, 111, 99, 97, 108]],
  [[46, 108, 111, 99, 97, 108], [46, 108, 111, 99, 97, 108, 46, 108, 111, 99, 97, 108], [46, 55, 46, 108, 111, 99, 97, 108, 46, 108, 111, 99, 97, 108], [46, 99, 46, 55, 46, 108, 111, 99, 97, 108, 46, 108, 111, 99, 97, 108], [120, 46, 99, 46, 55, 46, 108, 111, 99, 97, 108, 46, 108, 111, 99, 97, 108], [120, 46, 99, 46, 55, 46, 108, 111, 99, 97, 108, 46, 108, 111, 99, 97, 108]],
  [[46, 108, 111, 99, 97, 108], [46, 97, 46, 108, 111, 99, 97, 108], [46, 98, 46, 97, 46, 108, 111, 99, 97, 108], [46, 99, 111, 109, 46, 98, 46, 97, 46, 108, 111, 99, 97, 108], [121, 46, 99, 111, 109, 46, 98, 46, 97, 46, 108, 111, 99, 97, 108], [121, 46, 99, 111, 109, 46, 98, 46, 97, 46, 108, 111, 99, 97, 108]],
  [[46, 108, 111, 99, 97, 108], [46, 108, 111, 99, 97, 108, 46, 108, 111, 99, 97, 108], [46, 98, 46, 108, 111, 99, 97, 108, 46, 108, 111, 99, 97, 108], [46, 99, 111, 109, 46, 98, 46, 108, 111, 99, 97, 108, 46, 108, 111, 99, 97, 108], [121, 46, 99, 111, 109, 46, 98, 46, 108, 111, 99, 97, 108, 46, 108, 111, 99, 97, 108], [121, 46, 99, 111, 109, 46, 98, 46, 108, 111, 99, 97, 108, 46, 108, 111, 99, 97, 108]],
  [[46, 108, 111, 99, 97, 108], [46, 97, 46, 108, 111, 99, 97, 108], [46, 55, 46, 97, 46, 108, 111, 99, 97, 108], [46, 99, 111, 109, 46, 55, 46, 97, 46, 108, 111, 99, 97, 108], [121, 46, 99, 111, 109, 46, 55, 46, 97, 46, 108, 111, 99, 97, 108], [121, 46, 99, 111, 109, 46, 55, 46, 97, 46, 108, 111, 99, 97, 108]],
  [[46, 108, 111, 99, 97, 108], [46, 108, 111, 99, 97, 108, 46, 108, 111, 99, 97, 108], [46, 55, 46, 108, 111, 99, 97, 108, 46, 108, 111, 99, 97, 108], [46, 99, 111, 109, 46, 55, 46, 108, 111, 99, 97, 108, 46, 108, 111, 99, 97, 108], [121, 46, 99, 111, 109, 46, 55, 46, 108, 111, 99, 97, 108, 46, 108, 111, 99, 97, 108], [121, 46, 99, 111, 109, 46, 55, 46, 108, 111, 99, 97, 108, 46, 108, 111, 99, 97, 108]],
  [[46, 108, 111, 99, 97, 108], [46, 97, 46, 108, 111, 99, 97, 108], [46, 98, 46, 97, 46, 108, 111, 99, 97, 108], [46, 99, 46, 98, 46, 97, 46, 108, 111, 99, 97, 108], [121, 46, 99, 46, 98, 46, 97, 46, 108, 111, 99, 97, 108], [121, 46, 99, 46, 98, 46, 97, 46, 108, 111, 99, 97, 108]],
  [[46, 108, 111, 99, 97, 108], [46, 108, 111, 99, 97, 108, 46, 108, 111, 99, 97, 108], [46, 98, 46, 108, 111, 99, 97, 108, 46, 108, 111, 99, 97, 108], [46, 99, 46, 98, 46, 108, 111, 99, 97, 108, 46, 108, 111, 99, 97, 108], [121, 46, 99, 46, 98, 46, 108, 111, 99, 97, 108, 46, 108, 111, 99, 97, 108], [121, 46, 99, 46, 98, 46, 108, 111, 99, 97, 108, 46, 108, 111, 99, 97, 108]],
  [[46, 108, 111, 99, 97, 108], [46, 97, 46, 108, 111, 99, 97, 108], [46, 55, 46, 97, 46, 108, 111, 99, 97, 108], [46, 99, 46, 55, 46, 97, 46, 108, 111, 99, 97, 108], [121, 46, 99, 46, 55, 46, 97, 46, 108, 111, 99, 97, 108], [121, 46, 99, 46, 55, 46, 97, 46, 108, 111, 99, 97, 108]],
  [[46, 108, 111, 99, 97, 108], [46, 108, 111, 99, 97, 108, 46, 108, 111, 99, 97, 108], [46, 55, 46, 108, 111, 99, 97, 108, 46, 108, 111, 99, 97, 108], [46, 99, 46, 55, 46, 108, 111, 99, 97, 108, 46, 108, 111, 99, 97, 108], [121, 46, 99, 46, 55, 46, 108, 111, 99, 97, 108, 46, 108, 111, 99, 97, 108], [121, 46, 99, 46, 55, 46, 108, 111, 99, 97, 108, 46, 108, 111, 99, 97, 108]],
  [[46, 108, 111, 99, 97, 108], [46, 97, 46, 108, 111, 99, 97, 108], [46, 98, 46, 97, 46, 108, 111, 99, 97, 108], [46, 99, 111, 109, 46, 98, 46, 97, 46, 108, 111, 99, 97, 108], [120, 46, 99, 111, 109, 46, 98, 46, 97, 46, 108, 111, 99, 97, 108], [88, 46, 99, 111, 109, 46, 98, 46, 97, 46, 108, 111, 99, 97, 108]],
  [[46, 108, 111, 99, 97, 108], [46, 108, 111, 99, 97, 108, 46, 108, 111, 99, 97, 108], [46, 98, 46, 108, 111, 99, 97, 108, 46, 108, 111, 99, 97, 108], [46, 99, 111, 109, 46, 98, 46, 108, 111, 99, 97, 108, 46, 108, 111, 99, 97, 108], [120, 46, 99, 111, 109, 46, 98, 46, 108, 111, 99, 97, 108, 46, 108, 111, 99, 97, 108], [88, 46, 99, 111, 109, 46, 98, 46, 108, 111, 99, 97, 108, 46, 108, 111, 99, 97, 108]],
  [[46, 108, 111, 99, 97, 108], [46, 97, 46, 108, 111, 99, 97, 108], [46, 55, 46, 97, 46, 108, 111, 99, 97, 108], [46, 99, 111, 109, 46, 55, 46, 97, 46, 108, 111, 99, 97, 108], [120, 46, 99, 111, 109, 46, 55, 46, 97, 46, 108, 111, 99, 97, 108], [88, 46, 99, 111, 109, 46, 55, 46, 97, 46, 108, 111, 99, 97, 108]],
  [[46, 108, 111, 99, 97, 108], [46, 108, 111, 99, 97, 108, 46, 108, 111, 99, 97, 108], [46, 55, 46, 108, 111, 99, 97, 108, 46, 108, 111, 99, 97, 108], [46, 99, 111, 109, 46, 55, 46, 108, 111, 99, 97, 108, 46, 108, 111, 99, 97, 108], [120, 46, 99, 111, 109, 46, 55, 46, 108, 111, 99, 97, 108, 46, 108, 111, 99, 97, 108], [88, 46, 99, 111, 109, 46, 55, 46, 108, 111, 99, 97, 108, 46, 108, 111, 99, 97, 108]],
  [[46, 108, 111, 99, 97, 108], [46, 97, 46, 108, 111, 99, 97, 108], [46, 98, 46, 97, 46, 108, 111, 99, 97, 108], [46, 99, 46, 98, 46, 97, 46, 108, 111, 99, 97, 108], [120, 46, 99, 46, 98, 46, 97, 46, 108, 111, 99, 97, 108], [88, 46, 99, 46, 98, 46, 97, 46, 108, 111, 99, 97, 108]],
  [[46, 108, 111, 99, 97, 108], [46, 108, 111, 99, 97, 108, 46, 108, 111, 99, 97, 108], [46, 98, 46, 108, 111, 99, 97, 108, 46, 108, 111, 99, 97, 108], [46, 99, 46, 98, 46, 108, 111, 99, 97, 108, 46, 108, 111, 99, 97, 108], [120, 46, 99, 46, 98, 46, 108, 111, 99, 97, 108, 46, 108, 111, 99, 97, 108], [88, 46, 99, 46, 98, 46, 108, 111, 99, 97, 108, 46, 108, 111, 99, 97, 108]],
  [[46, 108, 111, 99, 97, 108], [46, 97, 46, 108, 111, 99, 97, 108], [46, 55, 46, 97, 46, 108, 111, 99, 97, 108], [46, 99, 46, 55, 46, 97, 46, 108, 111, 99, 97, 108], [120, 46, 99, 46, 55, 46, 97, 46, 108, 111, 99, 97, 108], [88, 46, 99, 46, 55, 46, 97, 46, 108, 111, 99, 97, 108]],
  [[46, 108, 111, 99, 97, 108], [46, 108, 111, 99, 97, 108, 46, 108, 111, 99, 97, 108], [46, 55, 46, 108, 111, 99, 97, 108, 46, 108, 111, 99, 97, 108], [46, 99, 46, 55, 46, 108, 111, 99, 97, 108, 46, 108, 111, 99, 97, 108], [120, 46, 99, 46, 55, 46, 108, 111, 99, 97, 108, 46, 108, 111, 99, 97, 108], [88, 46, 99, 46, 55, 46, 108, 111, 99, 97, 108, 46, 108, 111, 99, 97, 108]],
  [[46, 108, 111, 99, 97, 108], [46, 97, 46, 108, 111, 99, 97, 108], [46, 98, 46, 97, 46, 108, 111, 99, 97, 108], [46, 99, 111, 109, 46, 98, 46, 97, 46, 108, 111, 99, 97, 108], [121, 46, 99, 111, 109, 46, 98, 46, 97, 46, 108, 111, 99, 97, 108], [89, 46, 99, 111, 109, 46, 98, 46, 97, 46, 108, 111, 99, 97, 108]],
  [[46, 108, 111, 99, 97, 108], [46, 108, 111, 99, 97, 108, 46, 108, 111, 99, 97, 108], [46, 98, 46, 108, 111, 99, 97, 108, 46, 108, 111, 99, 97, 108], [46, 99, 111, 109, 46, 98, 46, 108, 111, 99, 97, 108, 46, 108, 111, 99, 97, 108], [121, 46, 99, 111, 109, 46, 98, 46, 108, 111, 99, 97, 108, 46, 108, 111, 99, 97, 108], [89, 46, 99, 111, 109, 46, 98, 46, 108, 111, 99, 97, 108, 46, 108, 111, 99, 97, 108]],
  [[46, 108, 111, 99, 97, 108], [46, 97, 46, 108, 111, 99, 97, 108], [46, 55, 46, 97, 46, 108, 111, 99, 97, 108], [46, 99, 111, 109, 46, 55, 46, 97, 46, 108, 111, 99, 97, 108], [121, 46, 99, 111, 109, 46, 55, 46, 97, 46, 108, 111, 99, 97, 108], [89, 46, 99, 111, 109, 46, 55, 46, 97, 46, 108, 111, 99, 97, 108]],
  [[46, 108, 111, 99, 97, 108], [46, 108, 111, 99, 97, 108, 46, 108, 111, 99, 97, 108], [46, 55, 46, 108, 111, 99, 97, 108, 46, 108, 111, 99, 97, 108], [46, 99, 111, 109, 46, 55, 46, 108, 111, 99, 97, 108, 46, 108, 111, 99, 97, 108], [121, 46, 99, 111, 109, 46, 55, 46, 108, 111, 99, 97, 108, 46, 108, 111, 99, 97, 108], [89, 46, 99, 111, 109, 46, 55, 46, 108, 111, 99, 97, 108, 46, 108, 111, 99, 97, 108]],
  [[46, 108, 111, 99, 97, 108], [46, 97, 46, 108, 111, 99, 97, 108], [46, 98, 46, 97, 46, 108, 111, 99, 97, 108], [46, 99, 46, 98, 46, 97, 46, 108, 111, 99, 97, 108], [121, 46, 99, 46, 98, 46, 97, 46, 108, 111, 99, 97, 108], [89, 46, 99, 46, 98, 46, 97, 46, 108, 111, 99, 97, 108]],
  [[46, 108, 111, 99, 97, 108], [46, 108, 111, 99, 97, 108, 46, 108, 111, 99, 97, 108], [46, 98, 46, 108, 111, 99, 97, 108, 46, 108, 111, 99, 97, 108], [46, 99, 46, 98, 46, 108, 111, 99, 97, 108, 46, 108, 111, 99, 97, 108], [121, 46, 99, 46, 98, 46, 108, 111, 99, 97, 108, 46, 108, 111, 99, 97, 108], [89, 46, 99, 46, 98, 46, 108, 111, 99, 97, 108, 46, 108, 111, 99, 97, 108]],
  [[46, 108, 111, 99, 97, 108], [46, 97, 46, 108, 111, 99, 97, 108], [46, 55, 46, 97, 46, 108, 111, 99, 97, 108], [46, 99, 46, 55, 46, 97, 46, 108, 111, 99, 97, 108], [121, 46, 99, 46, 55, 46, 97, 46, 108, 111, 99, 97, 108], [89, 46, 99, 46, 55, 46, 97, 46, 108, 111, 99, 97, 108]],
  [[46, 108, 111, 99, 97, 108], [46, 108, 111, 99, 97, 108, 46, 108, 111, 99, 97, 108], [46, 55, 46, 108, 111, 99, 97, 108, 46, 108, 111, 99, 97, 108], [46, 99, 46, 55, 46, 108, 111, 99, 97, 108, 46, 108, 111, 99, 97, 108], [121, 46, 99, 46, 55, 46, 108, 111, 99, 97, 108, 46, 108, 111, 99, 97, 108], [89, 46, 99, 46, 55, 46, 108, 111, 99, 97, 108, 46, 108, 111, 99, 97, 108]]]

def codes (xs : List Str) : List (List Nat) := xs.map fun x => x.cps.toList
def ltLL : List Nat → List Nat → Bool
  | x :: xs, y :: ys => if x == y then ltLL xs ys else decide (x < y)
  | [], _ :: _ => true
  | _, [] => false
def strsLtL : List (List Nat) → List (List Nat) → Bool
  | x :: xs, y :: ys => if x == y then strsLtL xs ys else ltLL x y
  | [], _ :: _ => true
  | _, [] => false

theorem tab_ok : ∀ n < 32, codes (nameS n) = tabL.getD n [] := by decide +kernel
theorem tab_lt : ∀ size < 5, ∀ a < 32, ∀ b < 32, strsLtL ((tabL.getD a []).take (size + 2)) ((tabL.getD b []).take (size + 2)) = decide (rk a / 2 ^ (4 - size) < rk b / 2 ^ (4 - size)) := by decide +kernel

theorem ltLL_eq : ∀ xs ys : List Nat, decide (xs < ys) = ltLL xs ys
  | [], [] => by simp [ltLL]
  | [], _ :: _ => by simp [ltLL]
  | _ :: _, [] => by simp [ltLL]
  | x :: xs, y :: ys => by
    unfold ltLL
    rw [← ltLL_eq xs ys]
    by_cases h : x = y
    · subst h; simp [List.cons_lt_cons_iff]
    · have hb : (x == y) = false := by simpa using h
      rw [hb]
      simp [List.cons_lt_cons_iff, h]
theorem str_eq_codes (x y : Str) : (x == y) = (x.cps.toList == y.cps.toList) := by
  rw [Bool.eq_iff_iff, beq_iff_eq, beq_iff_eq]
  constructor
  · intro h; rw [h]
  · intro h
    cases x; cases y
    simp only at h
    congr
    exact Array.toList_inj.mp h
theorem strsLt_codes : ∀ xs ys : List Str, strsLt xs ys = strsLtL (codes xs) (codes ys)
  | [], [] => rfl
  | [], _ :: _ => rfl
  | _ :: _, [] => rfl
  | x :: xs, y :: ys => by
    show (if (x == y) = true then strsLt xs ys else strLt x y) = (if (x.cps.toList == y.cps.toList) = true then strsLtL (codes xs) (codes ys) else ltLL x.cps.toList y.cps.toList)
    rw [← str_eq_codes, strsLt_codes xs ys, ← ltLL_eq]
    rfl
theorem codes_take (xs : List Str) (k : Nat) : codes (xs.take k) = (codes xs).take k := by simp [codes, List.map_take]

/-- the names are ordered as the ranks are -/
theorem names_lt {size a b : Nat} (hs : size < 5) (ha : a < 32) (hb : b < 32) : strsLt ((nameS a).take (size + 2)) ((nameS b).take (size + 2)) = decide (rk a / 2 ^ (4 - size) < rk b / 2 ^ (4 - size)) := by
  rw [strsLt_codes, codes_take, codes_take, tab_ok a ha, tab_ok b hb]
  exact tab_lt size hs a ha b hb
theorem nameLt_rk {a b : Nat} (ha : a < 32) (hb : b < 32) : nameLt a b = decide (rk a < rk b) := by
  have := names_lt (size := 4) (by decide) ha hb
  rw [List.take_of_length_le (by rw [nameS_len]; decide), List.take_of_length_le (by rw [nameS_len]; decide)] at this
  simpa [nameLt] using this

/-- the remainders are as the ranks are -/
theorem step_rk : ∀ size < 5, ∀ a < 32, ∀ b < 32, (Int.fmod (((a : Nat) : Int) - ((b : Nat) : Int)) ((2 ^ (size + 1) : Nat) : Int) == 0) = (rk a / 2 ^ (4 - size) == rk b / 2 ^ (4 - size)) := by decide +kernel

/-- costs by the table -/
def costL (a b i : Nat) : Int :=
  if (((tabL.getD a []).getD (if i = 4 then 5 else i) []) == ((tabL.getD b []).getD (if i = 4 then 5 else i) [])) = true then 0
  else if (((tabL.getD a []).getD i []) == ((tabL.getD b []).getD i [])) = true then 1 else 2
def difR (k a b : Nat) : Int := if rk a / 2 ^ (5 - k) = rk b / 2 ^ (5 - k) then 0 else 1
theorem tab_ap : ∀ a < 32, ∀ b < 32, 10 - ((bs (fun i => decide (costL a b i < 1)) 5 0 5 : Nat) : Int) - ((bs (fun i => decide (costL a b i < 2)) 5 0 5 : Nat) : Int) = 2 * difR 1 a b + (2 * difR 2 a b + (2 * difR 3 a b + (1 * difR 4 a b + 1 * difR 5 a b))) := by decide +kernel
end Mine

namespace Mine
open PySem PySem.W PySem.Spec PySem.Calls PyProof.Rows

theorem bs_congr {p q : Nat → Bool} : ∀ f lo hi, (∀ j, lo ≤ j → j < hi → p j = q j) → bs p f lo hi = bs q f lo hi
  | 0, _, _, _ => rfl
  | f + 1, lo, hi, h => by
    unfold bs
    split
    · rename_i hlt
      rw [h ((lo + hi) / 2) (by omega) (by omega)]
      split
      · exact bs_congr f _ _ fun j h1 h2 => h j (by omega) h2
      · exact bs_congr f _ _ fun j h1 h2 => h j h1 (by omega)
    · rfl

theorem lad_tab : ∀ n < 32, codes (ladS n) = (tabL.getD n []).take 4 ++ [(tabL.getD n []).getD 5 []] := by decide +kernel

theorem codes_getD {xs : List Str} {i : Nat} (h : i < xs.length) : (xs.getD i "").cps.toList = (codes xs).getD i [] := by simp [codes, List.getD, h]

theorem lad_code {n i : Nat} (hn : n < 32) (hi : i < 5) : ((ladS n).getD i "").cps.toList = (tabL.getD n []).getD (if i = 4 then 5 else i) [] := by
  have hl : ((tabL.getD n []).take 4).length = 4 := by
    have h := congrArg List.length (tab_ok n hn)
    simp only [codes, List.length_map, nameS_len] at h
    rw [List.length_take, ← h]
    rfl
  rw [codes_getD (by rw [ladS_len]; exact hi), lad_tab n hn]
  generalize tabL.getD n [] = t at hl
  by_cases h4 : i = 4
  · subst h4
    rw [if_pos rfl, List.getD, List.getElem?_append_right (by rw [hl]; exact Nat.le_refl _), hl]
    rfl
  · rw [if_neg h4, List.getD, List.getElem?_append_left (by rw [hl]; omega), List.getElem?_take_of_lt (by omega)]
    rfl
theorem low_code {n i : Nat} (hn : n < 32) (hi : i < 5) : (Txt.lower ((ladS n).getD i "")).cps.toList = (tabL.getD n []).getD i [] := by
  rw [← tab_ok n hn, ← codes_getD (by rw [nameS_len]; omega)]
  congr 2
  have : i < (ladS n).length := by rw [ladS_len]; exact hi
  simp [nameS, List.getD, List.getElem?_append_left, this]

theorem subCost_tab {a b i : Nat} (ha : a < 32) (hb : b < 32) (hi : i < 5) : subCost ((ladS a).getD i "") ((ladS b).getD i "") = costL a b i := by
  unfold subCost costL
  rw [str_eq_codes, str_eq_codes, lad_code ha hi, lad_code hb hi, low_code ha hi, low_code hb hi]

theorem apN_rk {a b : Nat} (ha : a < 32) (hb : b < 32) : apN a b = 2 * difR 1 a b + (2 * difR 2 a b + (2 * difR 3 a b + (1 * difR 4 a b + 1 * difR 5 a b))) := by
  rw [← tab_ap a ha b hb]
  unfold apN apartF
  have e1 : bs (apP (ladS a) (ladS b) 1) 5 0 5 = bs (fun i => decide (costL a b i < 1)) 5 0 5 := bs_congr 5 0 5 fun j _ hj => by unfold apP; rw [subCost_tab ha hb hj]
  have e2 : bs (apP (ladS a) (ladS b) 2) 5 0 5 = bs (fun i => decide (costL a b i < 2)) 5 0 5 := bs_congr 5 0 5 fun j _ hj => by unfold apP; rw [subCost_tab ha hb hj]
  rw [e1, e2]
end Mine

namespace Mine
open PySem PySem.W PySem.Spec PySem.Calls PyProof.Rows

theorem bs_spec (p : Nat → Bool) : ∀ f lo hi, hi - lo ≤ f → lo ≤ hi → (∀ i j, lo ≤ i → i ≤ j → j < hi → p j = true → p i = true) →
    (∀ j, lo ≤ j → j < bs p f lo hi → p j = true) ∧ (∀ j, bs p f lo hi ≤ j → j < hi → p j = false)
  | 0, lo, hi, hf, hl, hp => by
    have : lo = hi := by omega
    subst this
    exact ⟨fun j h1 h2 => by rw [bs_end p 0 lo lo (by omega)] at h2; omega, fun j h1 h2 => by rw [bs_end p 0 lo lo (by omega)] at h1; omega⟩
  | f + 1, lo, hi, hf, hl, hp => by
    by_cases hlt : lo < hi
    · cases hm : p ((lo + hi) / 2) with
      | true =>
        have e : bs p (f + 1) lo hi = bs p f ((lo + hi) / 2 + 1) hi := by simp only [bs, if_pos hlt, hm, if_true]
        have ih := bs_spec p f ((lo + hi) / 2 + 1) hi (by omega) (by omega) fun i j h1 h2 h3 h4 => hp i j (by omega) h2 h3 h4
        rw [e]
        refine ⟨fun j h1 h2 => ?_, ih.2⟩
        by_cases hj : (lo + hi) / 2 + 1 ≤ j
        · exact ih.1 j hj h2
        · exact hp j ((lo + hi) / 2) h1 (by omega) (by omega) hm
      | false =>
        have e : bs p (f + 1) lo hi = bs p f lo ((lo + hi) / 2) := by simp only [bs, if_pos hlt, hm, Bool.false_eq_true, if_false]
        have ih := bs_spec p f lo ((lo + hi) / 2) (by omega) (by omega) fun i j h1 h2 h3 h4 => hp i j h1 h2 (by omega) h4
        rw [e]
        refine ⟨ih.1, fun j h1 h2 => ?_⟩
        by_cases hj : j < (lo + hi) / 2
        · exact ih.2 j h1 hj
        · cases hpj : p j with
          | false => rfl
          | true =>
            have := hp ((lo + hi) / 2) j (by omega) (by omega) h2 hpj
            rw [hm] at this; cases this
    · have : lo = hi := by omega
      subst this
      rw [bs_end p (f + 1) lo lo (by omega)]
      exact ⟨fun j h1 h2 => by omega, fun j h1 h2 => by omega⟩

/-- the order of the row -/
def Rl (num : Nat → Nat) (x y : Nat) : Prop := rk (num x) < rk (num y) ∨ (rk (num x) = rk (num y) ∧ y < x)

theorem row_sorted {num : Nat → Nat} (hnum : ∀ i < 4, num i < 32) : ∀ i, i ≤ 4 → (rowN num i).Pairwise (Rl num)
  | 0, _ => List.Pairwise.nil
  | i + 1, hi => by
    have ih := row_sorted hnum i (by omega)
    have hlen := rowN_len num i
    have hlt := rowN_lt num i
    show (insAt (rowN num i) (bs (fun j => nameLt (num ((rowN num i).getD j 0)) (num i)) (rowN num i).length 0 (rowN num i).length) i).Pairwise (Rl num)
    generalize rowN num i = row at *
    have hget : ∀ j, j < row.length → row.getD j 0 ∈ row := fun j hj => by
      have : row.getD j 0 = row[j] := by simp [List.getD, hj]
      rw [this]; exact List.getElem_mem _
    have hp : ∀ j, j < row.length → nameLt (num (row.getD j 0)) (num i) = decide (rk (num (row.getD j 0)) < rk (num i)) := fun j hj =>
      nameLt_rk (hnum _ (Nat.lt_of_lt_of_le (hlt _ (hget j hj)) (by omega))) (hnum i (by omega))
    have hmono : ∀ a b, 0 ≤ a → a ≤ b → b < row.length → nameLt (num (row.getD b 0)) (num i) = true → nameLt (num (row.getD a 0)) (num i) = true := by
      intro a b _ hab hb h
      rw [hp b hb] at h
      rw [hp a (by omega)]
      have h := of_decide_eq_true h
      refine decide_eq_true ?_
      rcases Nat.eq_or_lt_of_le hab with e | e
      · rw [e]; exact h
      · have hR : Rl num (row.getD a 0) (row.getD b 0) := by
          have e1 : row.getD a 0 = row[a]'(by omega) := by simp [List.getD, show a < row.length by omega]
          have e2 : row.getD b 0 = row[b] := by simp [List.getD, hb]
          rw [e1, e2]
          exact List.pairwise_iff_getElem.mp ih a b (by omega) hb e
        rcases hR with hR | hR
        · omega
        · omega
    obtain ⟨s1, s2⟩ := bs_spec (fun j => nameLt (num (row.getD j 0)) (num i)) row.length 0 row.length (by omega) (Nat.zero_le _) hmono
    have hk := bs_le (fun j => nameLt (num (row.getD j 0)) (num i)) row.length 0 row.length (Nat.zero_le _)
    generalize bs (fun j => nameLt (num (row.getD j 0)) (num i)) row.length 0 row.length = k at *
    have split : (row.take k ++ row.drop k).Pairwise (Rl num) := by rw [List.take_append_drop]; exact ih
    rw [List.pairwise_append] at split
    obtain ⟨p1, p2, p3⟩ := split
    unfold insAt
    rw [List.pairwise_append]
    have hdrop : ∀ y ∈ row.drop k, Rl num i y := by
      intro y hy
      obtain ⟨j, hj, rfl⟩ := List.getElem_of_mem hy
      rw [List.length_drop] at hj
      rw [List.getElem_drop]
      have h := s2 (k + j) (Nat.le_add_right _ _) (by omega)
      have e : row.getD (k + j) 0 = row[k + j]'(by omega) := by simp [List.getD, show k + j < row.length by omega]
      rw [hp _ (by omega), e] at h
      have h := of_decide_eq_false h
      have hy := hlt (row[k + j]'(by omega)) (List.getElem_mem _)
      unfold Rl
      omega
    have htake : ∀ x ∈ row.take k, rk (num x) < rk (num i) := by
      intro x hx
      obtain ⟨j, hj, rfl⟩ := List.getElem_of_mem hx
      rw [List.length_take] at hj
      rw [List.getElem_take]
      have h := s1 j (Nat.zero_le _) (by omega)
      have e : row.getD j 0 = row[j]'(by omega) := by simp [List.getD, show j < row.length by omega]
      rw [hp _ (by omega), e] at h
      exact of_decide_eq_true h
    refine ⟨p1, List.pairwise_cons.mpr ⟨hdrop, p2⟩, fun x hx y hy => ?_⟩
    rcases List.mem_cons.mp hy with rfl | hy
    · exact .inl (htake x hx)
    · exact p3 x hx y hy
end Mine

namespace Mine
open PySem PySem.W PySem.Spec PySem.Calls PyProof.Rows

def grpN (c p : Nat) : Nat := match p with
  | 0 => 0
  | 1 => c % 2
  | 2 => c % 2 + c / 2 % 2
  | _ => c % 2 + c / 2 % 2 + c / 4 % 2
def stopG (g : Nat → Nat) (start : Nat) : Nat := bs (fun j => !(decide (g start < g j))) (4 - start) start 4
def sideG (row : List Nat) (g : Nat → Nat) (start : Nat) : List Nat := (row.drop start).take (stopG g start - start)
def alikeG (row : List Nat) (g : Nat → Nat) (start : Nat) : List Nat := ([3, 2, 1, 0] : List Nat).filter fun q => g (row.idxOf q) == g start
def okG (row : List Nat) (g : Nat → Nat) (strict : Bool) : Nat → Nat → Bool
  | 0, start => !decide (start < 4)
  | f + 1, start => if start < 4 then (decide (start < stopG g start) && decide (stopG g start ≤ 4) && (sideG row g start).isPerm (alikeG row g start) && (!strict || sideG row g start == alikeG row g start)) && okG row g strict f (stopG g start) else true
def dueG (row : List Nat) (g : Nat → Nat) (weight : Nat) : Nat → Nat → List Int → List Int
  | 0, _, d => d
  | f + 1, start, d => if start < 4 then dueG row g weight f (stopG g start) (dueRow weight row (sideG row g start) d) else d
def apG (row : List Nat) (g : Nat → Nat) (i j : Nat) : Int := if g (row.idxOf i) = g (row.idxOf j) then 0 else 1
/-- uncut neighbours fall -/
def desc (row : List Nat) (c : Nat) : Bool := (List.range 3).all fun p => c / 2 ^ p % 2 == 1 || decide (row.getD (p + 1) 0 < row.getD p 0)
def caseOk (row : List Nat) (c : Nat) : Bool :=
  okG row (grpN c) false 4 0 && (!desc row c || okG row (grpN c) true 4 0) &&
  (dueG row (grpN c) 12 4 0 [0, 0, 0, 0] == (grownN (apG row (grpN c)) row (ordN 4) [0, 0, 0, 0]).map (2 * ·)) &&
  (dueG row (grpN c) 6 4 0 [0, 0, 0, 0] == (grownN (apG row (grpN c)) row (ordN 4) [0, 0, 0, 0]).map (1 * ·))
theorem case_0 : ∀ i < 4, ∀ c < 8, caseOk ((ordN 4).getD (0 + i) []) c = true := by decide +kernel
theorem case_1 : ∀ i < 4, ∀ c < 8, caseOk ((ordN 4).getD (4 + i) []) c = true := by decide +kernel
theorem case_2 : ∀ i < 4, ∀ c < 8, caseOk ((ordN 4).getD (8 + i) []) c = true := by decide +kernel
theorem case_3 : ∀ i < 4, ∀ c < 8, caseOk ((ordN 4).getD (12 + i) []) c = true := by decide +kernel
theorem case_4 : ∀ i < 4, ∀ c < 8, caseOk ((ordN 4).getD (16 + i) []) c = true := by decide +kernel
theorem case_5 : ∀ i < 4, ∀ c < 8, caseOk ((ordN 4).getD (20 + i) []) c = true := by decide +kernel
theorem case_all {row : List Nat} (h : row ∈ ordN 4) {c : Nat} (hc : c < 8) : caseOk row c = true := by
  obtain ⟨i, hi, rfl⟩ := List.getElem_of_mem h
  have h24 : (ordN 4).length = 24 := by decide
  have e : (ordN 4)[i] = (ordN 4).getD i [] := by simp [List.getD, hi]
  rw [e]
  rw [h24] at hi
  have hk : i = 4 * (i / 4) + i % 4 := by omega
  have hm : i % 4 < 4 := by omega
  have h6 : i / 4 < 6 := by omega
  rw [hk]
  generalize i % 4 = m at hm
  generalize i / 4 = k at h6
  match k, h6 with
  | 0, _ => exact case_0 m hm c hc
  | 1, _ => exact case_1 m hm c hc
  | 2, _ => exact case_2 m hm c hc
  | 3, _ => exact case_3 m hm c hc
  | 4, _ => exact case_4 m hm c hc
  | 5, _ => exact case_5 m hm c hc
end Mine

namespace Mine
open PySem PySem.W PySem.Spec PySem.Calls PyProof.Rows

def cutN (v : Nat → Nat) : Nat := (if v 0 = v 1 then 0 else 1) + 2 * (if v 1 = v 2 then 0 else 1) + 4 * (if v 2 = v 3 then 0 else 1)
theorem cutN_lt (v : Nat → Nat) : cutN v < 8 := by unfold cutN; split <;> split <;> split <;> decide
theorem four {a : Nat} (h : a < 4) : a = 0 ∨ a = 1 ∨ a = 2 ∨ a = 3 := by omega
theorem grp_cases (v : Nat → Nat) (h0 : v 0 ≤ v 1) (h1 : v 1 ≤ v 2) (h2 : v 2 ≤ v 3) : ∀ a b, a < 4 → b < 4 → (v a < v b ↔ grpN (cutN v) a < grpN (cutN v) b) ∧ (v a = v b ↔ grpN (cutN v) a = grpN (cutN v) b) := by
  intro a b ha hb
  have hc : ∀ x y z : Nat, x < 2 → y < 2 → z < 2 → (x + 2 * y + 4 * z) % 2 = x ∧ (x + 2 * y + 4 * z) / 2 % 2 = y ∧ (x + 2 * y + 4 * z) / 4 % 2 = z := by omega
  generalize hx : (if v 0 = v 1 then 0 else 1) = x
  generalize hy : (if v 1 = v 2 then 0 else 1) = y
  generalize hz : (if v 2 = v 3 then 0 else 1) = z
  have ec : cutN v = x + 2 * y + 4 * z := by unfold cutN; rw [hx, hy, hz]
  have x2 : x < 2 := by rw [← hx]; split <;> decide
  have y2 : y < 2 := by rw [← hy]; split <;> decide
  have z2 : z < 2 := by rw [← hz]; split <;> decide
  obtain ⟨e1, e2, e3⟩ := hc x y z x2 y2 z2
  have g0 : grpN (cutN v) 0 = 0 := rfl
  have g1 : grpN (cutN v) 1 = x := by rw [ec]; exact e1
  have g2 : grpN (cutN v) 2 = x + y := by rw [ec]; show _ % 2 + _ / 2 % 2 = _; rw [e1, e2]
  have g3 : grpN (cutN v) 3 = x + y + z := by rw [ec]; show _ % 2 + _ / 2 % 2 + _ / 4 % 2 = _; rw [e1, e2, e3]
  have fx : (x = 0 ∧ v 0 = v 1) ∨ (x = 1 ∧ v 0 ≠ v 1) := by rw [← hx]; split <;> simp_all
  have fy : (y = 0 ∧ v 1 = v 2) ∨ (y = 1 ∧ v 1 ≠ v 2) := by rw [← hy]; split <;> simp_all
  have fz : (z = 0 ∧ v 2 = v 3) ∨ (z = 1 ∧ v 2 ≠ v 3) := by rw [← hz]; split <;> simp_all
  generalize grpN (cutN v) = G at *
  rcases four ha with rfl | rfl | rfl | rfl <;> rcases four hb with rfl | rfl | rfl | rfl <;> (try rw [g0]) <;> (try rw [g1]) <;> (try rw [g2]) <;> (try rw [g3]) <;> omega

section
variable {num : Nat → Nat} {row : List Nat} {size : Nat}

/-- a level's value at a place of the row -/
def lev (num : Nat → Nat) (row : List Nat) (size p : Nat) : Nat := rk (num (row.getD p 0)) / 2 ^ (4 - size)

theorem getD_lt (h : row ∈ ordN 4) (p : Nat) : row.getD p 0 < 4 := by
  obtain ⟨hl, hlt⟩ := ordN_facts row h
  by_cases hp : p < row.length
  · have : row.getD p 0 = row[p] := by simp [List.getD, hp]
    rw [this]; exact hlt _ (List.getElem_mem _)
  · have : row.getD p 0 = 0 := by simp [List.getD, List.getElem?_eq_none (by omega : row.length ≤ p)]
    rw [this]; decide

theorem idx_facts : ∀ row ∈ ordN 4, ∀ q < 4, row.idxOf q < 4 ∧ row.getD (row.idxOf q) 0 = q := by decide

theorem lev_mono (h : row ∈ ordN 4) (hs : row.Pairwise (Rl num)) : lev num row size 0 ≤ lev num row size 1 ∧ lev num row size 1 ≤ lev num row size 2 ∧ lev num row size 2 ≤ lev num row size 3 := by
  obtain ⟨hl, hlt⟩ := ordN_facts row h
  have key : ∀ p, p + 1 < 4 → lev num row size p ≤ lev num row size (p + 1) := by
    intro p hp
    have hR := List.pairwise_iff_getElem.mp hs p (p + 1) (by omega) (by omega) (Nat.lt_succ_self p)
    have e1 : row.getD p 0 = row[p]'(by omega) := by simp [List.getD, show p < row.length by omega]
    have e2 : row.getD (p + 1) 0 = row[p + 1]'(by omega) := by simp [List.getD, show p + 1 < row.length by omega]
    unfold lev
    rw [e1, e2]
    refine Nat.div_le_div_right ?_
    rcases hR with hR | hR
    · omega
    · omega
  exact ⟨key 0 (by decide), key 1 (by decide), key 2 (by decide)⟩

/-- the groups of a level -/
def grp (num : Nat → Nat) (row : List Nat) (size : Nat) : Nat → Nat := grpN (cutN (lev num row size))

theorem stop_eq (hnum : ∀ i < 4, num i < 32) (h : row ∈ ordN 4) (hs : row.Pairwise (Rl num)) (hsz : size < 5) {start : Nat} (hst : start < 4) : stopF num row (size + 2) start = stopG (grp num row size) start := by
  obtain ⟨m0, m1, m2⟩ := lev_mono (size := size) h hs
  unfold stopF stopG
  refine bs_congr _ _ _ fun j _ hj => ?_
  unfold stopP nameP
  rw [names_lt hsz (hnum _ (getD_lt h _)) (hnum _ (getD_lt h _))]
  congr 1
  exact decide_eq_decide.mpr (grp_cases (lev num row size) m0 m1 m2 start j hst hj).1
theorem side_eq (hnum : ∀ i < 4, num i < 32) (h : row ∈ ordN 4) (hs : row.Pairwise (Rl num)) (hsz : size < 5) {start : Nat} (hst : start < 4) : sideF num row (size + 2) start = sideG row (grp num row size) start := by
  unfold sideF sideG
  rw [stop_eq hnum h hs hsz hst]
theorem alike_eq (hnum : ∀ i < 4, num i < 32) (h : row ∈ ordN 4) (hs : row.Pairwise (Rl num)) (hsz : size < 5) {start : Nat} (hst : start < 4) : alikeF num (row.getD start 0) (2 ^ (size + 1)) = alikeG row (grp num row size) start := by
  obtain ⟨m0, m1, m2⟩ := lev_mono (size := size) h hs
  unfold alikeF alikeG
  refine List.filter_congr fun q hq => ?_
  have hq4 : q < 4 := by simp at hq; omega
  obtain ⟨hi, he⟩ := idx_facts row h q hq4
  rw [step_rk size hsz _ (hnum q hq4) _ (hnum _ (getD_lt h _))]
  have hg := (grp_cases (lev num row size) m0 m1 m2 (row.idxOf q) start hi hst).2
  unfold lev at hg
  rw [he] at hg
  rw [Bool.eq_iff_iff, beq_iff_eq, beq_iff_eq]
  exact hg

theorem due_eq (hnum : ∀ i < 4, num i < 32) (h : row ∈ ordN 4) (hs : row.Pairwise (Rl num)) (hsz : size < 5) (weight : Nat) : ∀ f start d, dueL num row (size + 2) weight f start d = dueG row (grp num row size) weight f start d
  | 0, _, _ => rfl
  | f + 1, start, d => by
    unfold dueL dueG
    by_cases hst : start < 4
    · rw [if_pos hst, if_pos hst, stop_eq hnum h hs hsz hst, side_eq hnum h hs hsz hst]
      exact due_eq hnum h hs hsz weight f _ _
    · rw [if_neg hst, if_neg hst]
theorem ok_eq (hnum : ∀ i < 4, num i < 32) (h : row ∈ ordN 4) (hs : row.Pairwise (Rl num)) (hsz : size < 5) (strict : Bool) (hstr : 2 ^ (size + 1) = 32 → strict = true) : ∀ f start, okG row (grp num row size) strict f start = true → okL num row (size + 2) (2 ^ (size + 1)) f start = true
  | 0, _, hh => hh
  | f + 1, start, hh => by
    unfold okL
    unfold okG at hh
    by_cases hst : start < 4
    · rw [if_pos hst] at hh ⊢
      rw [Bool.and_eq_true] at hh ⊢
      obtain ⟨h1, h2⟩ := hh
      rw [stop_eq hnum h hs hsz hst]
      refine ⟨?_, ok_eq hnum h hs hsz strict hstr f _ h2⟩
      unfold checkAt
      rw [stop_eq hnum h hs hsz hst, side_eq hnum h hs hsz hst, alike_eq hnum h hs hsz hst]
      simp only [Bool.and_eq_true, Bool.or_eq_true] at h1 ⊢
      refine ⟨h1.1, ?_⟩
      by_cases e : 2 ^ (size + 1) = 32
      · right
        rcases h1.2 with q | q
        · rw [hstr e] at q; cases q
        · exact q
      · left; simpa using e
    · rw [if_neg hst]
end
end Mine

namespace Mine
open PySem PySem.W PySem.Spec PySem.Calls PyProof.Rows

def lin (a : Int) (l1 l2 : List Int) : List Int := List.zipWith (fun x y => a * x + y) l1 l2
theorem lin_len {a : Int} {l1 l2 : List Int} (h : l1.length = l2.length) : (lin a l1 l2).length = l2.length := by simp [lin, h]
theorem lin_set {a x y : Int} {l1 l2 : List Int} (i : Nat) : (lin a l1 l2).set i (a * x + y) = lin a (l1.set i x) (l2.set i y) := by
  unfold lin
  induction l1 generalizing l2 i with
  | nil => simp
  | cons p r ih =>
    cases l2 with
    | nil => simp
    | cons q r2 =>
      cases i with
      | zero => simp
      | succ i => simp [ih]
theorem lin_getD {a : Int} {l1 l2 : List Int} (h : l1.length = l2.length) (i : Nat) : (lin a l1 l2).getD i 0 = a * l1.getD i 0 + l2.getD i 0 := by
  unfold lin
  induction l1 generalizing l2 i with
  | nil =>
    cases l2 with
    | nil => simp
    | cons q r2 => simp at h
  | cons p r ih =>
    cases l2 with
    | nil => simp at h
    | cons q r2 =>
      cases i with
      | zero => simp
      | succ i => simpa using ih (by simpa using h) i

theorem sum_lin {α : Type} (a : Int) (f h : α → Int) : ∀ l : List α, (l.map fun t => a * f t + h t).sum = a * (l.map f).sum + (l.map h).sum
  | [] => by simp
  | x :: r => by
    simp only [List.map_cons, List.sum_cons, sum_lin a f h r, Int.mul_add]
    omega
theorem now_lin (a : Int) (f h : Nat → Nat → Int) (row o : List Nat) (k : Nat) : nowN (fun i j => a * f i j + h i j) row o k = a * nowN f row o k + nowN h row o k := by
  unfold nowN
  exact sum_lin a (nowAt f (stopsN row o k) k) (nowAt h (stopsN row o k) k) _
theorem way_lin (a : Int) (f h : Nat → Nat → Int) (row o : List Nat) : ∀ k, wayN (fun i j => a * f i j + h i j) row o k = a * wayN f row o k + wayN h row o k
  | 0 => by simp [wayN]
  | k + 1 => now_lin a f h row o k
theorem growO_lin (a : Int) (f h : Nat → Nat → Int) (row o : List Nat) (g1 g2 : List Int) (hl : g1.length = g2.length) : ∀ k, growO (fun i j => a * f i j + h i j) row o (lin a g1 g2) k = lin a (growO f row o g1 k) (growO h row o g2 k)
  | 0 => rfl
  | k + 1 => by
    unfold growO
    rw [growO_lin a f h row o g1 g2 hl k, lin_getD (by rw [growO_len, growO_len, hl]), now_lin, way_lin, ← lin_set]
    congr 1
    rw [Int.mul_add, Int.mul_sub]
    omega
theorem grown_lin (a : Int) (f h : Nat → Nat → Int) (row : List Nat) : ∀ (os : List (List Nat)) (g1 g2 : List Int), g1.length = g2.length → grownN (fun i j => a * f i j + h i j) row os (lin a g1 g2) = lin a (grownN f row os g1) (grownN h row os g2)
  | [], _, _, _ => rfl
  | o :: os, g1, g2, hl => by
    show grownN _ row os (growO _ row o (lin a g1 g2) 4) = lin a (grownN f row os (growO f row o g1 4)) (grownN h row os (growO h row o g2 4))
    rw [growO_lin a f h row o g1 g2 hl]
    exact grown_lin a f h row os _ _ (by rw [growO_len, growO_len, hl])

/-- the growth looks at places alone -/
theorem now_congr {f h : Nat → Nat → Int} (e : ∀ i j, i < 4 → j < 4 → f i j = h i j) {row : List Nat} (hr : row ∈ ordN 4) (o : List Nat) (k : Nat) : nowN f row o k = nowN h row o k := by
  unfold nowN
  congr 1
  refine List.map_congr_left fun t _ => ?_
  have hst : ∀ t, (stopsN row o k).getD t 0 < 4 := by
    intro t
    by_cases ht : t < (stopsN row o k).length
    · have : (stopsN row o k).getD t 0 = (stopsN row o k)[t] := by simp [List.getD, ht]
      rw [this]
      exact (ordN_facts row hr).2 _ ((List.mem_filter.mp (List.getElem_mem (h := ht) : (stopsN row o k)[t] ∈ stopsN row o k)).1)
    · have : (stopsN row o k).getD t 0 = 0 := by simp [List.getD, List.getElem?_eq_none (by omega : (stopsN row o k).length ≤ t)]
      rw [this]; decide
  exact e _ _ (hst _) (hst _)
theorem growO_congr {f h : Nat → Nat → Int} (e : ∀ i j, i < 4 → j < 4 → f i j = h i j) {row : List Nat} (hr : row ∈ ordN 4) (o : List Nat) (g : List Int) : ∀ k, growO f row o g k = growO h row o g k
  | 0 => rfl
  | k + 1 => by
    unfold growO
    have hw : wayN f row o k = wayN h row o k := by
      cases k with
      | zero => rfl
      | succ k => exact now_congr e hr o k
    rw [growO_congr e hr o g k, now_congr e hr o k, hw]
theorem grown_congr {f h : Nat → Nat → Int} (e : ∀ i j, i < 4 → j < 4 → f i j = h i j) {row : List Nat} (hr : row ∈ ordN 4) : ∀ (os : List (List Nat)) (g : List Int), grownN f row os g = grownN h row os g
  | [], _ => rfl
  | o :: os, g => by
    show grownN f row os (growO f row o g 4) = grownN h row os (growO h row o g 4)
    rw [growO_congr e hr o g 4]
    exact grown_congr e hr os _

/-- what is due adds up -/
theorem dueOne_lin (weight near : Nat) (side : List Nat) (d e : List Int) (x : Nat) (hl : d.length = e.length) : dueOne weight near side (lin 1 d e) x = lin 1 (dueOne weight near side d x) e := by
  have key : ∀ z : Int, (lin 1 d e).set x ((lin 1 d e).getD x 0 + z) = lin 1 (d.set x (d.getD x 0 + z)) e := by
    intro z
    have h1 : (lin 1 d e).getD x 0 + z = 1 * (d.getD x 0 + z) + e.getD x 0 := by rw [lin_getD hl]; omega
    rw [h1, lin_set]
    congr 1
    by_cases hx : x < e.length
    · have : e.getD x 0 = e[x] := by simp [List.getD, hx]
      rw [this]; exact List.set_getElem_self hx
    · rw [List.set_eq_of_length_le (by omega)]
  unfold dueOne
  split
  · split
    · exact key _
    · exact key _
  · rfl
theorem dueRow_lin (weight near : Nat) (side : List Nat) (e : List Int) : ∀ (row : List Nat) (d : List Int), d.length = e.length → row.foldl (dueOne weight near side) (lin 1 d e) = lin 1 (row.foldl (dueOne weight near side) d) e
  | [], _, _ => rfl
  | x :: r, d, hl => by
    rw [List.foldl_cons, List.foldl_cons, dueOne_lin weight near side d e x hl]
    exact dueRow_lin weight near side e r _ (by rw [dueOne_len, hl])
theorem dueG_lin (row : List Nat) (g : Nat → Nat) (weight : Nat) (e : List Int) : ∀ f start (d : List Int), d.length = e.length → dueG row g weight f start (lin 1 d e) = lin 1 (dueG row g weight f start d) e
  | 0, _, _, _ => rfl
  | f + 1, start, d, hl => by
    unfold dueG
    split
    · unfold dueRow
      rw [dueRow_lin weight _ _ e row d hl]
      exact dueG_lin row g weight e f _ _ (by rw [dueRow_len, hl])
    · rfl
theorem len4 {G : List Int} (h : G.length = 4) : ∃ a b c d, G = [a, b, c, d] := by
  match G, h with
  | [a, b, c, d], _ => exact ⟨a, b, c, d, rfl⟩
end Mine

namespace Mine
open PySem PySem.W PySem.Spec PySem.Calls PyProof.Rows

section
variable {num : Nat → Nat} {row : List Nat}

theorem dif_ap {size : Nat} (hsz : size < 5) (h : row ∈ ordN 4) (hs : row.Pairwise (Rl num)) (i j : Nat) (hi : i < 4) (hj : j < 4) : difR (size + 1) (num i) (num j) = apG row (grp num row size) i j := by
  obtain ⟨m0, m1, m2⟩ := lev_mono (size := size) h hs
  obtain ⟨hi1, hi2⟩ := idx_facts row h i hi
  obtain ⟨hj1, hj2⟩ := idx_facts row h j hj
  have hg := (grp_cases (lev num row size) m0 m1 m2 (row.idxOf i) (row.idxOf j) hi1 hj1).2
  have ei : lev num row size (row.idxOf i) = rk (num i) / 2 ^ (4 - size) := by unfold lev; rw [hi2]
  have ej : lev num row size (row.idxOf j) = rk (num j) / 2 ^ (4 - size) := by unfold lev; rw [hj2]
  rw [ei, ej] at hg
  have hg : rk (num i) / 2 ^ (4 - size) = rk (num j) / 2 ^ (4 - size) ↔ grp num row size (row.idxOf i) = grp num row size (row.idxOf j) := hg
  unfold difR apG
  rw [show 5 - (size + 1) = 4 - size by omega]
  by_cases e : rk (num i) / 2 ^ (4 - size) = rk (num j) / 2 ^ (4 - size)
  · rw [if_pos e, if_pos (hg.mp e)]
  · rw [if_neg e, if_neg fun q => e (hg.mpr q)]

theorem desc_ok (h : row ∈ ordN 4) (hs : row.Pairwise (Rl num)) : desc row (cutN (lev num row 4)) = true := by
  obtain ⟨hl, hlt⟩ := ordN_facts row h
  unfold desc
  rw [List.all_eq_true]
  intro p hp
  rw [List.mem_range] at hp
  have hR := List.pairwise_iff_getElem.mp hs p (p + 1) (by omega) (by omega) (Nat.lt_succ_self p)
  have e1 : row.getD p 0 = row[p]'(by omega) := by simp [List.getD, show p < row.length by omega]
  have e2 : row.getD (p + 1) 0 = row[p + 1]'(by omega) := by simp [List.getD, show p + 1 < row.length by omega]
  rw [Bool.or_eq_true, decide_eq_true_eq, beq_iff_eq, e1, e2]
  rw [← e1, ← e2] at hR
  rcases hR with hR | hR
  · left
    have hne : lev num row 4 p ≠ lev num row 4 (p + 1) := by
      unfold lev
      simp only [Nat.sub_self, Nat.pow_zero, Nat.div_one]
      omega
    unfold cutN
    match p, hp, hne with
    | 0, _, hne => rw [if_neg hne]; split <;> split <;> decide
    | 1, _, hne => rw [if_neg hne]; split <;> split <;> decide
    | 2, _, hne => rw [if_neg hne]; split <;> split <;> decide
  · right
    rw [← e1, ← e2]; exact hR.2

theorem level_facts (h : row ∈ ordN 4) (hs : row.Pairwise (Rl num)) (size : Nat) :
    okG row (grp num row size) false 4 0 = true ∧ (size = 4 → okG row (grp num row size) true 4 0 = true) ∧
    dueG row (grp num row size) 12 4 0 [0, 0, 0, 0] = (grownN (apG row (grp num row size)) row (ordN 4) [0, 0, 0, 0]).map (2 * ·) ∧
    dueG row (grp num row size) 6 4 0 [0, 0, 0, 0] = (grownN (apG row (grp num row size)) row (ordN 4) [0, 0, 0, 0]).map (1 * ·) := by
  have hc := case_all h (cutN_lt (lev num row size))
  unfold caseOk at hc
  simp only [Bool.and_eq_true, Bool.or_eq_true, Bool.not_eq_true', beq_iff_eq] at hc
  obtain ⟨⟨⟨h1, h2⟩, h3⟩, h4⟩ := hc
  refine ⟨h1, fun e => ?_, h3, h4⟩
  subst e
  rcases h2 with q | q
  · rw [desc_ok h hs] at q; cases q
  · exact q
end

theorem law_true {num : Nat → Nat} (hnum : ∀ i < 4, num i < 32) : lawChecks num ∧ lawGrown num = lawDue num := by
  have hr := rowN_mem num 4
  have hs := row_sorted hnum 4 (Nat.le_refl 4)
  constructor
  · unfold lawChecks
    generalize rowN num 4 = row at hr hs
    have f := fun size => level_facts hr hs size
    intro x hx
    simp only [levels, List.mem_cons, List.not_mem_nil, or_false] at hx
    rcases hx with rfl | rfl | rfl | rfl | rfl
    · exact ok_eq (size := 0) hnum hr hs (by decide) false (by decide) 4 0 (f 0).1
    · exact ok_eq (size := 1) hnum hr hs (by decide) false (by decide) 4 0 (f 1).1
    · exact ok_eq (size := 2) hnum hr hs (by decide) false (by decide) 4 0 (f 2).1
    · exact ok_eq (size := 3) hnum hr hs (by decide) false (by decide) 4 0 (f 3).1
    · exact ok_eq (size := 4) hnum hr hs (by decide) true (fun _ => rfl) 4 0 ((f 4).2.1 rfl)
  · unfold lawGrown lawDue
    generalize rowN num 4 = row at hr hs
    have f := fun size => level_facts hr hs size
    have hG : grownN (fun i j => apN (num i) (num j)) row (ordN 4) [0, 0, 0, 0] =
        grownN (fun i j => 2 * apG row (grp num row 0) i j + (2 * apG row (grp num row 1) i j + (2 * apG row (grp num row 2) i j + (1 * apG row (grp num row 3) i j + 1 * apG row (grp num row 4) i j)))) row (ordN 4) [0, 0, 0, 0] :=
      grown_congr (fun i j hi hj => by
        rw [apN_rk (hnum i hi) (hnum j hj), dif_ap (size := 0) (by decide) hr hs i j hi hj, dif_ap (size := 1) (by decide) hr hs i j hi hj, dif_ap (size := 2) (by decide) hr hs i j hi hj, dif_ap (size := 3) (by decide) hr hs i j hi hj, dif_ap (size := 4) (by decide) hr hs i j hi hj]) hr _ _
    have z : ∀ a : Int, ([0, 0, 0, 0] : List Int) = lin a [0, 0, 0, 0] [0, 0, 0, 0] := fun a => by simp [lin]
    have len : ∀ g : Nat → Nat → Int, (grownN g row (ordN 4) [0, 0, 0, 0]).length = 4 := fun g => by rw [grown_len]; rfl
    have e1 : ∀ (a : Int) (g k : Nat → Nat → Int), grownN (fun i j => a * g i j + k i j) row (ordN 4) [0, 0, 0, 0] = lin a (grownN g row (ordN 4) [0, 0, 0, 0]) (grownN k row (ordN 4) [0, 0, 0, 0]) := fun a g k => by
      conv => lhs; rw [z a]
      exact grown_lin a g k row (ordN 4) _ _ rfl
    have e2 : (fun i j => 1 * apG row (grp num row 4) i j) = apG row (grp num row 4) := by funext i j; exact Int.one_mul _
    rw [hG, e1, e1, e1, e1, e2]
    -- what is due
    have d : ∀ (size weight : Nat) (c : Int), size < 5 → dueG row (grp num row size) weight 4 0 [0, 0, 0, 0] = (grownN (apG row (grp num row size)) row (ordN 4) [0, 0, 0, 0]).map (c * ·) → ∀ e : List Int, e.length = 4 → dueL num row (size + 2) weight 4 0 e = lin c (grownN (apG row (grp num row size)) row (ordN 4) [0, 0, 0, 0]) e := by
      intro size weight c hsz hd e he
      have hz : e = lin 1 [0, 0, 0, 0] e := by
        obtain ⟨p, q, r, t, rfl⟩ := len4 he
        simp [lin]
      rw [due_eq hnum hr hs hsz]
      conv => lhs; rw [hz]
      rw [dueG_lin row _ weight e 4 0 _ (by rw [he]; rfl), hd]
      obtain ⟨p, q, r, t, rfl⟩ := len4 he
      obtain ⟨a1, a2, a3, a4, eG⟩ := len4 (len (apG row (grp num row size)))
      rw [eG]
      simp [lin]
    have l0 := len (apG row (grp num row 0))
    have l1 := len (apG row (grp num row 1))
    have l2 := len (apG row (grp num row 2))
    have l3 := len (apG row (grp num row 3))
    have l4 := len (apG row (grp num row 4))
    have d0 : ∀ e : List Int, e.length = 4 → dueL num row 2 12 4 0 e = lin 2 (grownN (apG row (grp num row 0)) row (ordN 4) [0, 0, 0, 0]) e := d 0 12 2 (by decide) (f 0).2.2.1
    have d1 : ∀ e : List Int, e.length = 4 → dueL num row 3 12 4 0 e = lin 2 (grownN (apG row (grp num row 1)) row (ordN 4) [0, 0, 0, 0]) e := d 1 12 2 (by decide) (f 1).2.2.1
    have d2 : ∀ e : List Int, e.length = 4 → dueL num row 4 12 4 0 e = lin 2 (grownN (apG row (grp num row 2)) row (ordN 4) [0, 0, 0, 0]) e := d 2 12 2 (by decide) (f 2).2.2.1
    have d3 : ∀ e : List Int, e.length = 4 → dueL num row 5 6 4 0 e = lin 1 (grownN (apG row (grp num row 3)) row (ordN 4) [0, 0, 0, 0]) e := d 3 6 1 (by decide) (f 3).2.2.2
    have d4 : ∀ e : List Int, e.length = 4 → dueL num row 6 6 4 0 e = lin 1 (grownN (apG row (grp num row 4)) row (ordN 4) [0, 0, 0, 0]) e := d 4 6 1 (by decide) (f 4).2.2.2
    unfold dueAll levels
    simp only [List.foldl_cons, List.foldl_nil]
    generalize grownN (apG row (grp num row 0)) row (ordN 4) [0, 0, 0, 0] = G0 at *
    generalize grownN (apG row (grp num row 1)) row (ordN 4) [0, 0, 0, 0] = G1 at *
    generalize grownN (apG row (grp num row 2)) row (ordN 4) [0, 0, 0, 0] = G2 at *
    generalize grownN (apG row (grp num row 3)) row (ordN 4) [0, 0, 0, 0] = G3 at *
    generalize grownN (apG row (grp num row 4)) row (ordN 4) [0, 0, 0, 0] = G4 at *
    have n0 : (lin 2 G0 [0, 0, 0, 0]).length = 4 := lin_len l0
    have n1 : (lin 2 G1 (lin 2 G0 [0, 0, 0, 0])).length = 4 := by rw [lin_len (by rw [l1, n0]), n0]
    have n2 : (lin 2 G2 (lin 2 G1 (lin 2 G0 [0, 0, 0, 0]))).length = 4 := by rw [lin_len (by rw [l2, n1]), n1]
    have n3 : (lin 1 G3 (lin 2 G2 (lin 2 G1 (lin 2 G0 [0, 0, 0, 0])))).length = 4 := by rw [lin_len (by rw [l3, n2]), n2]
    rw [d0 _ rfl, d1 _ n0, d2 _ n1, d3 _ n2, d4 _ n3]
    clear d0 d1 d2 d3 d4 n0 n1 n2 n3 d e1 e2 z len hG f
    obtain ⟨a1, a2, a3, a4, rfl⟩ := len4 l0
    obtain ⟨b1, b2, b3, b4, rfl⟩ := len4 l1
    obtain ⟨c1, c2, c3, c4, rfl⟩ := len4 l2
    obtain ⟨p1, p2, p3, p4, rfl⟩ := len4 l3
    obtain ⟨q1, q2, q3, q4, rfl⟩ := len4 l4
    simp only [lin, List.zipWith_cons_cons, List.zipWith_nil_left, List.cons.injEq, and_true]
    omega
end Mine

set_option maxHeartbeats 8000000
section
open PySem PySem.W PyProof.Rows
open_top hd for PySem.Challenge.rw_xe0024_01
end

namespace Mine
open PySem PySem.W PySem.Spec PySem.Calls PyProof.Rows
variable {w : World} {h : Heap} {mg mb : Str → Option Value}

theorem s_code (KX : (hd.heap_39 w.params).In h) : ∀ p ∈ [((37 : Addr), "_substitution_cost"), (46, "bisect_right"), (55, "insort_left"), (64, "bisect_left"), (76, "is_HDN"), (83, "reach"), (90, "_law_labels"), (97, "_law_ladder"), (104, "_law_apart"), (109, "law")], h.CodeRec (.ref p.1) (Str.ofString p.2) := by
  intro p hp
  simp only [List.mem_cons, List.not_mem_nil, or_false] at hp
  rcases hp with rfl | rfl | rfl | rfl | rfl | rfl | rfl | rfl | rfl | rfl
  · exact ⟨_, _, _, _, rfl, KX 37 _ rfl, rfl, rfl⟩
  · exact ⟨_, _, _, _, rfl, KX 46 _ rfl, rfl, rfl⟩
  · exact ⟨_, _, _, _, rfl, KX 55 _ rfl, rfl, rfl⟩
  · exact ⟨_, _, _, _, rfl, KX 64 _ rfl, rfl, rfl⟩
  · exact ⟨_, _, _, _, rfl, KX 76 _ rfl, rfl, rfl⟩
  · exact ⟨_, _, _, _, rfl, KX 83 _ rfl, rfl, rfl⟩
  · exact ⟨_, _, _, _, rfl, KX 90 _ rfl, rfl, rfl⟩
  · exact ⟨_, _, _, _, rfl, KX 97 _ rfl, rfl, rfl⟩
  · exact ⟨_, _, _, _, rfl, KX 104 _ rfl, rfl, rfl⟩
  · exact ⟨_, _, _, _, rfl, KX 109 _ rfl, rfl, rfl⟩
theorem s_co (KX : (hd.heap_39 w.params).In h) : h.get? 69 = some { cls := .type "tuple", data := .seq (#[14, 8, 1, 2, 4294967295, 1, 1, 46, 0, 16, 46, 24, 9, 1, 4294967295, 13, 4, 8, 0, 0, 1, 6, 5, 1].map fun i => Value.int i 0) } := by
  have e : (#[14, 8, 1, 2, 4294967295, 1, 1, 46, 0, 16, 46, 24, 9, 1, 4294967295, 13, 4, 8, 0, 0, 1, 6, 5, 1].map fun i => Value.int i 0) = #[Value.int 14 0, Value.int 8 0, Value.int 1 0, Value.int 2 0, Value.int 4294967295 0, Value.int 1 0, Value.int 1 0, Value.int 46 0, Value.int 0 0, Value.int 16 0, Value.int 46 0, Value.int 24 0, Value.int 9 0, Value.int 1 0, Value.int 4294967295 0, Value.int 13 0, Value.int 4 0, Value.int 8 0, Value.int 0 0, Value.int 0 0, Value.int 1 0, Value.int 6 0, Value.int 5 0, Value.int 1 0] := by simp
  rw [e]
  exact KX 69 _ rfl

theorem stat_of {p : Program} {loose : List Str} {mean : ExcName → Option Value} (KX : (hd.heap_39 w.params).In h) (T : Top p loose mean mg mb h) (hT : TabsAt [(104, 100), (109, 107)] h) : Stat h mg mb where
  g := T.g
  b := T.b
  nolimit := T.nolimit
  builtins := T.builtins
  bmain := T.bmain
  codes := s_code KX
  cApart := (hT (104, 100) (.head _)).1
  cLaw := (hT (109, 107) (.tail _ (.head _))).1
  tApart := (hT (104, 100) (.head _)).2
  tLaw := (hT (109, 107) (.tail _ (.head _))).2
  fSub := ⟨_, KX 38 _ rfl⟩
  fRight := ⟨_, KX 47 _ rfl⟩
  fInsort := ⟨_, KX 56 _ rfl⟩
  fLeft := ⟨_, KX 65 _ rfl⟩
  fHdn := ⟨_, KX 77 _ rfl⟩
  fReach := ⟨_, KX 84 _ rfl⟩
  fLabels := ⟨_, KX 91 _ rfl⟩
  fLadder := ⟨_, KX 98 _ rfl⟩
  fApart := ⟨_, KX 105 _ rfl⟩
  dRight := ⟨_, KX 39 _ rfl⟩
  dInsort := ⟨_, KX 48 _ rfl⟩
  dLeft := ⟨_, KX 57 _ rfl⟩
  gSub := mg_of KX T.g rfl
  gRight := mg_of KX T.g rfl
  gInsort := mg_of KX T.g rfl
  gLeft := mg_of KX T.g rfl
  gHdn := mg_of KX T.g rfl
  gReach := mg_of KX T.g rfl
  gLabels := mg_of KX T.g rfl
  gLadder := mg_of KX T.g rfl
  gApart := mg_of KX T.g rfl
  gRe := mg_of KX T.g rfl
  gMove := ⟨_, mg_of KX T.g rfl⟩
  gCase := ⟨_, mg_of KX T.g rfl⟩
  gRange := mg_none_of KX T.g rfl
  gLen := mg_none_of KX T.g rfl
  gSum := mg_none_of KX T.g rfl
  gSorted := mg_none_of KX T.g rfl
  oRe := ⟨_, _, KX 70 _ rfl⟩
  oCode := s_co KX
end Mine

namespace Mine
open PySem PySem.W PySem.Spec PySem.Calls PyProof.Rows

theorem LawEnv.func {env : Env} {C : Str → Addr} (V : LawEnv env C) (f : Option Addr) : LawEnv { env with func := f } C where
  k := V.k
  g := V.g
  b := V.b
  code := V.code
  q := V.q
  i := V.i
  k_script := V.k_script
  k_numbers := V.k_numbers
  k_ladders := V.k_ladders
  k_number := V.k_number
  k_labels := V.k_labels
  k_ladder := V.k_ladder
  k_k := V.k_k
  k_apart := V.k_apart
  k_row := V.k_row
  k_place := V.k_place
  k_orders := V.k_orders
  k_order := V.k_order
  k_grown := V.k_grown
  k_way := V.k_way
  k_came := V.k_came
  k_stops := V.k_stops
  k_now := V.k_now
  k_due := V.k_due
  k_step := V.k_step
  k_weight := V.k_weight
  k_start := V.k_start
  k_first := V.k_first
  k_stop := V.k_stop
  k_side := V.k_side
  k_alike := V.k_alike
  k_near := V.k_near
  k_names := V.k_names
  k_size := V.k_size
  k_len := V.k_len
  k_law_labels := V.k_law_labels
  k_law_ladder := V.k_law_ladder
  k_range := V.k_range
  k_insort_left := V.k_insort_left
  k_sum := V.k_sum
  k_bisect_right := V.k_bisect_right
  k_sorted := V.k_sorted
  c_numbers := V.c_numbers
  c_ladders := V.c_ladders
  c_labels := V.c_labels
  c_apart := V.c_apart
  c_place := V.c_place
  c_came := V.c_came
  c_stops := V.c_stops
  c_step := V.c_step
  c_first := V.c_first
  c_names := V.c_names
  c_size := V.c_size

theorem good_start {h : Heap} (hT : TabsAt [(104, 100), (109, 107)] h) : Good h h := by
  have t1 := (hT (104, 100) (.head _)).2
  have t2 := (hT (109, 107) (.tail _ (.head _))).2
  exact ⟨Heap.lt_size t2, Nat.le_refl _, fun _ _ _ _ e => e, ⟨#[], t1, trivial, fun pos cv e => by cases e⟩, ⟨#[], t2, trivial, fun pos cv e => by cases e⟩⟩

theorem law_code {prog : Program} {w : World} {A : Around} {R : Result → Shared → Prop} {s : Shared} {mg mb : Str → Option Value} {fa l0 : Addr} {o : Obj} {vs : List Value} {ns : List Int} {pm : Value}
    (S : Stat s.heap mg mb) (hT : TabsAt [(104, 100), (109, 107)] s.heap) (hA : Ok A 21) (ho : s.heap.get? fa = some o) (hd : o.data = .func (fdOf (topStmt 17) .none .none pm (.ref 109))) (hl : s.heap.IsList l0 vs.toArray) (hi : IntsAre vs ns) (hn : ¬ ((63 : Int) < ((ns.length : Nat) : Int)))
    (k : ∀ h' tk', Good s.heap h' → R (.ok (.ret (.bool true))) (put s h' tk')) : codeAny (model prog w) A (.call (.ref fa) ⟨[.ref l0], []⟩) R s := by
  have G := good_start hT
  refine codeAny_call_cells (binds := [("script", .ref l0)]) hA.depth ho hd (G.nolimit S) (G.codeRec (S.codes (109, "law") (by decide)) (by decide) (by decide)) rfl rfl rfl (fun x hx => ?_) (fun s₁ x => ?_)
  · simp only [List.mem_cons, List.not_mem_nil, or_false] at hx
    subst hx
    exact .inl rfl
  obtain ⟨h₀, tk, rfl, hk₀⟩ := x.done
  have F : Frm s.heap _ _ _ h₀ := frm_of_inC (H := s.heap) (Nat.le_refl _) rfl (of_decide_eq_true rfl) x
  have X : Ext s.heap Nil s.heap h₀ := Ext.ofKeeps (Nat.le_of_lt F.ns.lt) hk₀
  have V := (lawEnv pm s.heap.objs.size).func (some fa)
  have hA1 : Ok (A.deeper (callEnvC (fdOf (topStmt 17) .none .none pm (.ref 109)) s.heap.objs.size fa)) 20 := hA.deeper
  obtain ⟨ol, el, hcl, nl, hdl⟩ := hl
  have hl' : ∀ h', Good s.heap h' → h'.IsList l0 vs.toArray := fun h' G' => by
    refine ⟨ol, G'.old l0 ol (fun q => ?_) (fun q => ?_) el, hcl, nl, hdl⟩
    · rw [q, S.tApart] at el; cases el; cases hdl
    · rw [q, S.tLaw] at el; cases el; cases hdl
  obtain ⟨ck, ce⟩ := law_true (num := numN ns) fun i _ => numN_lt ns i
  refine law_body (n := 0) (vs := vs.toArray) (ns := ns) S hA1 (X.good G) V F ?_ hl' (IntL.ofAre hi) (by omega) ck fun h' tk' X' => ?_
  · simp only [bindL]
    rfl
  · rw [decide_eq_true ce]
    exact k h' tk' (X'.good (X.good G))
end Mine

open PySem PySem.W PyProof.Rows
theorem Mine.s_law {w : World} {h : Heap} (KX : (hd.heap_39 w.params).In h) : Mine.FnIs h 110 17 .none .none (.ref 109) := ⟨_, KX 110 _ rfl⟩
theorem Mine.s_fa {w : World} {h : Heap} {mg : Str → Option Value} {fa : Addr} (KX : (hd.heap_39 w.params).In h) (G : h.Ns mainGlobals mg) (e : mg "law" = some (.ref fa)) : fa = 110 := by
  have h110 : mg "law" = some (.ref 110) := mg_of KX G rfl
  rw [e] at h110
  cases h110; rfl
theorem PySem.Challenge.cw_xe0024_01_holds : PySem.Challenge.rw_xe0024_01.Holds := by
  exact hd (by
  k_fill
  intro w s₀ s₁ mg mb G Y fa o pm cd doc dV kV ho hd hcd hD hmg hg args vals as hpre hlay hrd hwl hlo
  have KX := km_in_of Y
  km_tabs Y
  have X := (Ground.X G).1
  have V := (Ground.X G).2
  refine Ground.open G ?_
  intro T B D TE TW
  try (refine guard_noD D (by decide +kernel) ?_; clear D)
  km_lay T hmg ho hd cd
  have hmg2 := hmg
  clear hmg
  wrow_args hpre hlay hrd hwl hlo
  first | refine callC_kw (enter_call ?_) | refine enter_call ?_
  w_top on
  kn_posts
  have he := Dflts.none hD rfl; subst he; have he := Dflts.noKw hD; subst he
  have hfa := Mine.s_fa KX T.g hmg2
  subst hfa
  obtain ⟨pm2, ho2⟩ := Mine.s_law KX
  have hT9 : TabsAt [(104, 100), (109, 107)] s₁.heap := by assumption
  have S := Mine.stat_of KX T hT9
  refine Mine.law_code S hT9 ⟨rfl, by decide, by decide⟩ ho2 rfl (by assumption) (by assumption) (by assumption) fun h' tk' G' => ?_
  refine ⟨⟨.inl ⟨_, _, [], rfl, fun cls => rfl, .bool true, (by first | rfl | wrow_post), fun _ => ⟨List.nodup_nil, fun a ha => by cases ha⟩⟩, fun b ob e => ?_, rfl, hg⟩, ?_⟩
  · have e0 := of_hideAll _ e
    refine G'.old b ob (fun q => ?_) (fun q => ?_) e0
    · subst q
      have this := hideAll_none [100, 107] (h := s₁.heap) (b := 100) (.head _)
      have t : some ob = none := e.symm.trans this
      cases t
    · subst q
      have this := hideAll_none [100, 107] (h := s₁.heap) (b := 107) (.tail _ (.head _))
      have t : some ob = none := e.symm.trans this
      cases t
  · obtain ⟨p1, e1, _⟩ := G'.t1
    obtain ⟨p2, e2, _⟩ := G'.t2
    exact ⟨⟨p1, e1⟩, ⟨p2, e2⟩, trivial⟩)
