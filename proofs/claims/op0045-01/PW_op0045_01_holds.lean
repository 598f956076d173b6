import PyProof.Rows.All
import Wide.All
import OpenK.AllK
import Wide.FinOn
import KE.KSuperObj
import OpenK.KMake
import OpenK.KMore
import PySem.Challenge.RW_op0045_01
open PySem PySem.W PySem.Calls PyProof.Rows
set_option Elab.async false
set_option maxRecDepth 100000
set_option linter.unusedVariables false
set_option maxHeartbeats 0
set_option linter.unusedSimpArgs false
local macro_rules | `(tactic| omega) => `(tactic| lia)
namespace Mine
def au0 : Lean.Syntax := .node .none `Lean.Parser.Tactic.tacticSeq #[.node .none `Lean.Parser.Tactic.tacticSeq1Indented #[.node .none `null #[.node .none `Lean.Parser.Tactic.tacticRfl #[.atom .none "rfl"]]]]
def au1 : Lean.Syntax := .node .none `Lean.Parser.Tactic.tacticSeq #[.node .none `Lean.Parser.Tactic.tacticSeq1Indented #[.node .none `null #[.node .none `Lean.Parser.Tactic.intro #[.atom .none "intro", .node .none `null #[.node .none `Lean.Parser.Term.hole #[.atom .none "_"], .node .none `Lean.Parser.Term.hole #[.atom .none "_"]]], .atom .none ";", .node .none `Lean.Parser.Tactic.tacticRfl #[.atom .none "rfl"]]]]
def au2 : Lean.Syntax := .node .none `Lean.Parser.Tactic.tacticSeq #[.node .none `Lean.Parser.Tactic.tacticSeq1Indented #[.node .none `null #[.node .none `Lean.Parser.Tactic.intro #[.atom .none "intro", .node .none `null #[.node .none `Lean.Parser.Term.hole #[.atom .none "_"]]], .atom .none ";", .node .none `Lean.Parser.Tactic.tacticRfl #[.atom .none "rfl"]]]]
noncomputable def zIt := @wpAny_bind
noncomputable def zIu := @wpAny_pure
noncomputable def zIv := @wpAny_mono
noncomputable def zIw := @wpAny_holding
end Mine
open PySem PySem.W PyProof.Rows
namespace Mine

noncomputable abbrev PM := Addr → Option Obj
def Le (φ ψ : PM) : Prop := ∀ a o, φ a = some o → ψ a = some o
theorem Le.refl (φ : PM) : Le φ φ := fun _ _ h => h
theorem Le.trans {φ ψ χ : PM} (h : Le φ ψ) (k : Le ψ χ) : Le φ χ := fun a o e => k a o (h a o e)
def Sub (φ : PM) (h : Heap) : Prop := ∀ a o, φ a = some o → h.get? a = some o
structure VP where
  p : PM → Value → Prop
  mono : ∀ {φ ψ : PM} {v : Value}, Le φ ψ → p φ v → p ψ v

inductive zO {α β : Type} (R : α → β → Prop) : List α → List β → Prop
  | nil : zO R [] []
  | cons {a b as bs} : R a b → zO R as bs → zO R (a :: as) (b :: bs)
theorem zO.imp {α β : Type} {R S : α → β → Prop} (f : ∀ a b, R a b → S a b) {as : List α} {bs : List β} (h : zO R as bs) : zO S as bs := by
  induction h with
  | nil => exact .nil
  | cons h _ ih => exact .cons (f _ _ h) ih
theorem zO.length {α β : Type} {R : α → β → Prop} {as : List α} {bs : List β} (h : zO R as bs) : as.length = bs.length := by
  induction h with
  | nil => rfl
  | cons _ _ ih => simp [ih]
theorem zO.get {α β : Type} {R : α → β → Prop} {as : List α} {bs : List β} (h : zO R as bs) : ∀ {i : Nat} {a : α}, as[i]? = some a → ∃ b, bs[i]? = some b ∧ R a b := by
  induction h with
  | nil => intro i a e; simp at e
  | cons h _ ih =>
    intro i a e
    cases i with
    | zero => simp at e; subst e; exact ⟨_, by simp, h⟩
    | succ i => simp at e; obtain ⟨b, hb, r⟩ := ih e; exact ⟨b, by simpa using hb, r⟩
theorem zO.get' {α β : Type} {R : α → β → Prop} {as : List α} {bs : List β} (h : zO R as bs) : ∀ {i : Nat} {b : β}, bs[i]? = some b → ∃ a, as[i]? = some a ∧ R a b := by
  induction h with
  | nil => intro i a e; simp at e
  | cons h _ ih =>
    intro i a e
    cases i with
    | zero => simp at e; subst e; exact ⟨_, by simp, h⟩
    | succ i => simp at e; obtain ⟨b, hb, r⟩ := ih e; exact ⟨b, by simpa using hb, r⟩
theorem zO.append {α β : Type} {R : α → β → Prop} {as as' : List α} {bs bs' : List β} (h : zO R as bs) (k : zO R as' bs') : zO R (as ++ as') (bs ++ bs') := by
  induction h with
  | nil => exact k
  | cons h _ ih => exact .cons h ih
theorem zO.of_get {α β : Type} {R : α → β → Prop} : ∀ {as : List α} {bs : List β}, as.length = bs.length → (∀ (i : Nat) a b, as[i]? = some a → bs[i]? = some b → R a b) → zO R as bs
  | [], [], _, _ => .nil
  | a :: as, b :: bs, h, f => .cons (f 0 a b (by simp) (by simp)) (zO.of_get (by simpa using h) fun i x y e1 e2 => f (i + 1) x y (by simpa using e1) (by simpa using e2))

noncomputable def zT (x : Value) : VP := ⟨fun _ v => v = x, fun _ h => h⟩
noncomputable def vInt (i : Int) : VP := ⟨fun _ v => ∃ t, v = .int i t, fun _ h => h⟩
noncomputable def zN (b : Bool) : VP := ⟨fun _ v => v = .bool b, fun _ h => h⟩
noncomputable def zCT : VP := ⟨fun _ v => v = .none, fun _ h => h⟩
inductive SeqP (c : String) (ps : List VP) (φ : PM) (v : Value) : Prop
  | mk (a : Addr) (vs : List Value) (n : Nat) (e : v = .ref a) (h : φ a = some { cls := .type c, data := .seq vs.toArray n }) (all : zO (fun (P : VP) v => P.p φ v) ps vs)
noncomputable def vSeq (c : String) (ps : List VP) : VP :=
  ⟨fun φ v => SeqP c ps φ v, fun le => by
    rintro ⟨a, vs, n, e, h, k⟩
    exact ⟨a, vs, n, e, le _ _ h, k.imp fun P _ x => P.mono le x⟩⟩
noncomputable abbrev zB (ps : List VP) : VP := vSeq "list" ps
noncomputable abbrev zCQ (ps : List VP) : VP := vSeq "tuple" ps

def zDO (F : List Addr) (b : Addr) (o : Obj) (r : Option Obj) : Prop :=
  (∃ sl, r = some { o with slots := sl } ∧ (sl = o.slots ∨ (b ∈ F ∧ ∀ vs, o.data ≠ .fields vs))) ∨
  (b ∈ F ∧ o.cls = .none ∧ ∃ vs more, o.data = .fields vs ∧ r = some { o with data := .fields (vs ++ more) })
structure Ext (F : List Addr) (s s' : Shared) : Prop where
  rest : ∃ h' tk, s' = { s with heap := h', toks := tk }
  kept : ∀ b o, s.heap.get? b = some o → zDO F b o (s'.heap.get? b)
theorem zDO.same {F : List Addr} {b : Addr} {o : Obj} {r : Option Obj} (h : r = some o) : zDO F b o r := .inl ⟨o.slots, h, .inl rfl⟩
theorem zDO.trans {F : List Addr} {b : Addr} {o : Obj} {r r' : Option Obj} (h : zDO F b o r) (k : ∀ o1, r = some o1 → zDO F b o1 r') : zDO F b o r' := by
  rcases h with ⟨sl, rfl, hs⟩ | ⟨hF, hc, vs, more, hd, rfl⟩
  · rcases k _ rfl with ⟨sl2, rfl, hs2⟩ | ⟨hF, hc, vs, more, hd, rfl⟩
    · refine .inl ⟨sl2, rfl, ?_⟩
      rcases hs2 with hs2 | hs2
      · rcases hs with hs | hs
        · exact .inl (hs2.trans hs)
        · exact .inr hs
      · exact .inr hs2
    · rcases hs with rfl | hs
      · exact .inr ⟨hF, hc, vs, more, hd, rfl⟩
      · exact absurd hd (hs.2 vs)
  · rcases k _ rfl with ⟨sl2, rfl, hs2⟩ | ⟨_, _, vs2, more2, hd2, rfl⟩
    · rcases hs2 with hs2 | hs2
      · subst hs2; exact .inr ⟨hF, hc, vs, more, hd, rfl⟩
      · exact absurd rfl (hs2.2 _)
    · cases hd2
      exact .inr ⟨hF, hc, vs, more ++ more2, hd, by rw [Array.append_assoc]⟩
theorem zDO.there {F : List Addr} {b : Addr} {o : Obj} {r : Option Obj} (h : zDO F b o r) : ∃ o', r = some o' := by
  rcases h with ⟨sl, rfl, _⟩ | ⟨_, _, _, _, _, rfl⟩ <;> exact ⟨_, rfl⟩
theorem zDO.off {F : List Addr} {b : Addr} {o : Obj} {r : Option Obj} (h : zDO F b o r) (hb : b ∉ F) : r = some o := by
  rcases h with ⟨sl, rfl, rfl | hs⟩ | ⟨hF, _⟩
  · rfl
  · exact absurd hs.1 hb
  · exact absurd hF hb
theorem zDO.solid {F : List Addr} {b : Addr} {o : Obj} {r : Option Obj} (h : zDO F b o r) (hb : ∀ vs, o.data ≠ .fields vs) : ∃ sl, r = some { o with slots := sl } := by
  rcases h with ⟨sl, rfl, _⟩ | ⟨_, _, vs, _, hd, _⟩
  · exact ⟨sl, rfl⟩
  · exact absurd hd (hb vs)
theorem zDO.mono {F G : List Addr} {b : Addr} {o : Obj} {r : Option Obj} (h : zDO F b o r) (k : b ∈ F → b ∈ G) : zDO G b o r :=
  h.imp (fun ⟨sl, e, hs⟩ => ⟨sl, e, hs.imp id fun ⟨a, c⟩ => ⟨k a, c⟩⟩) fun ⟨a, c⟩ => ⟨k a, c⟩

theorem Ext.refl (F : List Addr) (s : Shared) : Ext F s s := ⟨⟨s.heap, s.toks, rfl⟩, fun _ o e => .same e⟩
theorem Ext.trans {F : List Addr} {s s' s'' : Shared} (x : Ext F s s') (y : Ext F s' s'') : Ext F s s'' := by
  refine ⟨?_, fun b o e => (x.kept b o e).trans fun o1 e1 => y.kept b o1 e1⟩
  obtain ⟨h', tk, rfl⟩ := x.rest
  obtain ⟨h'', tk', rfl⟩ := y.rest
  exact ⟨h'', tk', rfl⟩
theorem Ext.keep_off {F : List Addr} {s s' : Shared} (x : Ext F s s') {b : Addr} {o : Obj} (e : s.heap.get? b = some o) (hb : b ∉ F) : s'.heap.get? b = some o := (x.kept b o e).off hb
theorem Ext.there {F : List Addr} {s s' : Shared} (x : Ext F s s') {b : Addr} {o : Obj} (e : s.heap.get? b = some o) : ∃ o', s'.heap.get? b = some o' := (x.kept b o e).there
theorem Ext.solid {F : List Addr} {s s' : Shared} (x : Ext F s s') {b : Addr} {o : Obj} (e : s.heap.get? b = some o) (hb : ∀ vs, o.data ≠ .fields vs) : ∃ sl, s'.heap.get? b = some { o with slots := sl } := (x.kept b o e).solid hb
theorem Ext.of_keeps {F : List Addr} {s : Shared} {h' : Heap} {tk : Nat} (k : ∀ b o, s.heap.get? b = some o → h'.get? b = some o) : Ext F s { s with heap := h', toks := tk } :=
  ⟨⟨h', tk, rfl⟩, fun b o e => .same (k b o e)⟩
theorem Ext.none {F : List Addr} {s s' : Shared} (x : Ext F s s') {b : Addr} (e : s'.heap.get? b = none) : s.heap.get? b = none := by
  cases q : s.heap.get? b with
  | none => rfl
  | some o => obtain ⟨o', e1⟩ := x.there q; rw [e] at e1; cases e1
theorem Ext.ns {F : List Addr} {s s' : Shared} (x : Ext F s s') {L : Addr} {m : Str → Option Value} (n : s.heap.Ns L m) : s'.heap.Ns L m := by
  obtain ⟨o, es, ep, ho, hd, hk, hf⟩ := n
  obtain ⟨sl, e1⟩ := x.solid ho (fun vs q => by rw [hd] at q; cases q)
  exact ⟨_, es, ep, e1, hd, hk, hf⟩
theorem Ext.cell {F : List Addr} {s s' : Shared} (x : Ext F s s') {c : Addr} {v : Option Value} (n : s.heap.IsCell c v) : s'.heap.IsCell c v := by
  obtain ⟨o, ho, hd⟩ := n
  obtain ⟨sl, e1⟩ := x.solid ho (fun vs q => by rw [hd] at q; cases q)
  exact ⟨_, e1, hd⟩
theorem Ext.sub {F : List Addr} {s s' : Shared} (x : Ext F s s') {φ : PM} (h : Sub φ s.heap) (off : ∀ b ∈ F, φ b = Option.none) : Sub φ s'.heap := by
  intro a o e
  refine x.keep_off (h a o e) fun hF => ?_
  rw [off a hF] at e; cases e

structure zQ (F : List Addr) (ψ : PM) (s : Shared) (ψ' : PM) (s' : Shared) : Prop where
  ext : Ext F s s'
  le : Le ψ ψ'
  sub : Sub ψ' s'.heap
  new : ∀ b o, ψ' b = some o → ψ b = some o ∨ s.heap.get? b = none
theorem zQ.refl {F : List Addr} {ψ : PM} {s : Shared} (h : Sub ψ s.heap) : zQ F ψ s ψ s := ⟨Ext.refl F s, Le.refl ψ, h, fun _ _ e => .inl e⟩
theorem zQ.trans {F : List Addr} {ψ ψ' ψ'' : PM} {s s' s'' : Shared} (x : zQ F ψ s ψ' s') (y : zQ F ψ' s' ψ'' s'') : zQ F ψ s ψ'' s'' :=
  ⟨x.ext.trans y.ext, x.le.trans y.le, y.sub, fun b o e => (y.new b o e).elim (x.new b o) fun e => .inr (x.ext.none e)⟩
theorem zQ.of_ext {F : List Addr} {ψ : PM} {s s' : Shared} (x : Ext F s s') (h : Sub ψ s.heap) (off : ∀ b ∈ F, ψ b = Option.none) : zQ F ψ s ψ s' :=
  ⟨x, Le.refl ψ, x.sub h off, fun _ _ e => .inl e⟩

noncomputable def put (ψ : PM) (a : Addr) (o : Obj) : PM := fun b => if b = a then some o else ψ b
theorem zA (ψ : PM) (a : Addr) (o : Obj) : put ψ a o a = some o := by simp [put]
theorem zC {ψ : PM} {a b : Addr} {o : Obj} (h : b ≠ a) : put ψ a o b = ψ b := by simp [put, h]
theorem zL {ψ : PM} {a : Addr} {o : Obj} (h : ψ a = none) : Le ψ (put ψ a o) := fun b x e => by
  by_cases q : b = a
  · subst q; rw [h] at e; cases e
  · rw [zC q]; exact e
theorem Sub.put {ψ : PM} {h : Heap} {a : Addr} {o : Obj} (x : Sub ψ h) (e : h.get? a = some o) : Sub (put ψ a o) h := fun b y q => by
  by_cases z : b = a
  · subst z; rw [zA] at q; cases q; exact e
  · rw [zC z] at q; exact x b y q
theorem zE {ψ : PM} {h : Heap} (x : Sub ψ h) {a : Addr} (e : h.get? a = none) : ψ a = none := by
  cases q : ψ a with
  | none => rfl
  | some o => rw [x a o q] at e; cases e
theorem zF (h : Heap) : h.get? h.objs.size = none := Heap.get?_none_of_le (Nat.le_refl _)
theorem zQ.push {F : List Addr} {ψ : PM} {s : Shared} (h : Sub ψ s.heap) (o : Obj) (hf : o.isFreed = false) (tk : Nat) : zQ F ψ s (put ψ s.heap.objs.size o) { s with heap := s.heap.push o, toks := tk } := by
  have hn := zE h (zF s.heap)
  refine ⟨Ext.of_keeps fun b x e => Heap.get?_push_of_some _ e, zL hn, Sub.put (fun a x e => Heap.get?_push_of_some _ (h a x e)) (Heap.get?_push_size _ hf), fun b x e => ?_⟩
  by_cases q : b = s.heap.objs.size
  · subst q; exact .inr (zF _)
  · rw [zC q] at e; exact .inl e

noncomputable def frs (A : Around) : List Addr := (A.frames.getD []).filterMap (·.frame)
def Stk (A : Around) (h : Heap) : Prop := ∃ fr, A.frames = some fr ∧ ∀ env ∈ fr, env.scope.kind ≠ .module ∧ ∃ L o, env.frame = some L ∧ h.get? L = some o ∧ ∀ vs, o.data ≠ .fields vs
def HK (ψ : PM) (x : Addr) : Prop := ∃ o vs, ψ x = some o ∧ o.data = .fields vs ∧ (vs[2]? = some .none ∨ ∃ y oy ys, vs[2]? = some (.ref y) ∧ ψ y = some oy ∧ oy.data = .fields ys ∧ ys[2]? = some .none)
theorem HK.le {ψ ψ' : PM} {x : Addr} (h : HK ψ x) (k : Le ψ ψ') : HK ψ' x := by obtain ⟨o, vs, a, b, c⟩ := h; exact ⟨o, vs, k _ _ a, b, c.imp id fun h => by obtain ⟨y, oy, ys, d, e, f⟩ := h; exact ⟨y, oy, ys, d, k _ _ e, f⟩⟩
def HOk (A : Around) (ψ : PM) : Prop := A.handled = none ∨ ∃ x, A.handled = some (.ref x) ∧ HK ψ x
theorem HOk.le {A : Around} {ψ ψ' : PM} (h : HOk A ψ) (k : Le ψ ψ') : HOk A ψ' := h.imp id fun ⟨x, a, b⟩ => ⟨x, a, b.le k⟩
theorem Stk.ext {A : Around} {F : List Addr} {s s' : Shared} (h : Stk A s.heap) (x : Ext F s s') : Stk A s'.heap := by
  obtain ⟨fr, e, k⟩ := h
  refine ⟨fr, e, fun env he => ?_⟩
  obtain ⟨h1, L, o, h2, h3, h4⟩ := k env he
  obtain ⟨sl, e1⟩ := x.solid h3 h4
  exact ⟨h1, L, _, h2, e1, h4⟩

structure Md where
  k : Nat
  n : Bool
structure Cx (μ : Md) (A : Around) (ψ : PM) (s : Shared) : Prop where
  depth : A.depth + μ.k < 1000
  units : A.units + 10 * μ.k < 9900
  none : μ.n = true → A.handled = none
  hand : HOk A ψ
  stk : Stk A s.heap
  off : ∀ b ∈ frs A, ψ b = Option.none
  sub : Sub ψ s.heap
theorem zBf {A : Around} {h : Heap} (k : Stk A h) {b : Addr} (hb : b ∈ frs A) : ∃ o, h.get? b = some o := by
  obtain ⟨fr, e, k⟩ := k
  unfold frs at hb
  rw [e] at hb
  obtain ⟨env, he, hf⟩ := List.mem_filterMap.mp hb
  obtain ⟨_, L, o, h2, h3, _⟩ := k env he
  rw [hf] at h2; cases h2
  exact ⟨o, h3⟩
theorem Cx.grow {μ : Md} {A : Around} {ψ ψ' : PM} {s s' : Shared} (c : Cx μ A ψ s) (g : zQ (frs A) ψ s ψ' s') : Cx μ A ψ' s' :=
  ⟨c.depth, c.units, c.none, c.hand.le g.le, c.stk.ext g.ext, (fun b hb => by
    cases q : ψ' b with
    | none => rfl
    | some o =>
      obtain ⟨x, hx⟩ := zBf c.stk hb
      rcases g.new b o q with e | e
      · rw [c.off b hb] at e; cases e
      · rw [hx] at e; cases e), g.sub⟩
theorem Cx.weak {k k' : Nat} {n : Bool} {A : Around} {ψ : PM} {s : Shared} (c : Cx ⟨k, n⟩ A ψ s) (h : k' ≤ k) : Cx ⟨k', n⟩ A ψ s :=
  ⟨by have := c.depth; simp at *; omega, by have := c.units; simp at *; omega, c.none, c.hand, c.stk, c.off, c.sub⟩
theorem Cx.in1 {k : Nat} {n : Bool} {A : Around} {ψ : PM} {s : Shared} (c : Cx ⟨k + 1, n⟩ A ψ s) : Cx ⟨k, n⟩ A.in1 ψ s :=
  ⟨by have := c.depth; simp at *; omega, by have := c.units; simp at *; omega, c.none, c.hand, c.stk, c.off, c.sub⟩

section
variable {prog : Program} {w : World}

def zBJ (prog : Program) (w : World) (A : Around) (ψ : PM) (s : Shared) (t : Sem Value) (R : VP) : Prop :=
  wpAny (model prog w) A t (fun v s' => ∃ ψ', zQ (frs A) ψ s ψ' s' ∧ R.p ψ' v) (fun _ _ => False) s

theorem zBJ.use {A : Around} {ψ : PM} {s : Shared} {t : Sem Value} {R : VP} {Q : Value → Shared → Prop} {E : Value → Shared → Prop} (h : zBJ prog w A ψ s t R) (k : ∀ v ψ' s', zQ (frs A) ψ s ψ' s' → R.p ψ' v → Q v s') : wpAny (model prog w) A t Q E s :=
  zIv h (fun v s' ⟨ψ', g, r⟩ => k v ψ' s' g r) fun _ _ e => e.elim
theorem zBJ.pure {A : Around} {ψ : PM} {s : Shared} {v : Value} {R : VP} (h : Sub ψ s.heap) (r : R.p ψ v) : zBJ prog w A ψ s (Pure.pure v) R := zIu ⟨ψ, zQ.refl h, r⟩
theorem zBJ.bind {A : Around} {ψ : PM} {s : Shared} {t : Sem Value} {f : Value → Sem Value} {P R : VP} (h : zBJ prog w A ψ s t P) (k : ∀ v ψ' s', zQ (frs A) ψ s ψ' s' → P.p ψ' v → zBJ prog w A ψ' s' (f v) R) : zBJ prog w A ψ s (t >>= f) R :=
  zIt (h.use fun v ψ' s' g r => (k v ψ' s' g r).use fun v2 ψ2 s2 g2 r2 => ⟨ψ2, g.trans g2, r2⟩)
end
end Mine
namespace Mine
variable {prog : Program} {w : World} {X : Fix} {Γ : List (Str × VP)} {ψ ω φ : PM} {s s' : Shared} {k : Nat} {n b : Bool} {m : Str → Option Value} {μ : Md} {A : Around} {env : Env} {sc scope : Scope}
variable {E : Value → Shared → Prop}
structure zCl (env : Env) (m : Str → Option Value) (h : Heap) : Prop where
  fn : env.scope.kind = .function
  gl : env.globals = mainGlobals
  bi : env.builtins = builtinsNs
  loc : ∃ ml, h.Ns env.locals ml ∧ ∀ x, env.kindOf x = some .local → ml x = m x
  cel : ∀ x, (env.kindOf x = some .cell ∨ env.kindOf x = some .free) → ∃ c, env.cells.lookup x = some c ∧ h.IsCell c (m x)
  inj : ∀ x y c, env.cells.lookup x = some c → env.cells.lookup y = some c → x = y
  nl : ∀ x c, env.cells.lookup x = some c → c ≠ env.locals
theorem zCl.ext {env : Env} {m : Str → Option Value} {F : List Addr} {s s' : Shared} (f : zCl env m s.heap) (x : Ext F s s') : zCl env m s'.heap :=
  ⟨f.fn, f.gl, f.bi, let ⟨ml, n, k⟩ := f.loc; ⟨ml, x.ns n, k⟩, fun y hy => let ⟨c, a, b⟩ := f.cel y hy; ⟨c, a, x.cell b⟩, f.inj, f.nl⟩
def Typ (Γ : List (Str × VP)) (ψ : PM) (m : Str → Option Value) : Prop := ∀ x P, Γ.lookup x = some P → ∃ v, m x = some v ∧ P.p ψ v
theorem Typ.le {Γ : List (Str × VP)} {ψ ψ' : PM} {m : Str → Option Value} (t : Typ Γ ψ m) (k : Le ψ ψ') : Typ Γ ψ' m := fun x P h => let ⟨v, a, b⟩ := t x P h; ⟨v, a, P.mono k b⟩
theorem Typ.nil {ψ : PM} {m : Str → Option Value} : Typ [] ψ m := fun x P h => by cases h
theorem Typ.cons {Γ : List (Str × VP)} {ψ : PM} {m : Str → Option Value} {x : Str} {P : VP} {v : Value} (t : Typ Γ ψ m) (r : P.p ψ v) : Typ ((x, P) :: Γ) ψ (fun y => if y = x then some v else m y) := by
  intro y P' h
  rw [List.lookup_cons] at h
  by_cases q : y = x
  · subst q
    simp only [beq_self_eq_true] at h
    cases h
    exact ⟨v, by simp, r⟩
  · have : (y == x) = false := by simpa using q
    rw [this] at h
    obtain ⟨v', a, b⟩ := t y P' h
    exact ⟨v', by simp [q, a], b⟩
inductive zD (φ : PM) (a : Addr) (x : Str) (r : Option Value) : Prop
  | mk (o : _) (es : _) (ep : _) (h1 : φ a = some o) (h2 : o.data = .dict es ep) (h3 : StrKeys es) (h4 : nsFind es x = r) : zD φ a x r
theorem zD.ns {φ : PM} {a : Addr} {x : Str} {r : Option Value} (k : zD φ a x r) {h : Heap} (hs : Sub φ h) : ∃ m, h.Ns a m ∧ m x = r :=
  let ⟨o, es, ep, ho, hd, hk, hf⟩ := k; ⟨fun n => nsFind es n, ⟨o, es, ep, hs _ _ ho, hd, hk, fun _ => rfl⟩, hf⟩
def GN (φ : PM) (x : Str) (v : Value) : Prop := zD φ mainGlobals x (some v)
def BN (φ : PM) (x : Str) (v : Value) : Prop := zD φ mainGlobals x none ∧ zD φ builtinsNs x (some v)
theorem zD.le {φ ψ : PM} {a : Addr} {x : Str} {r : Option Value} (k : zD φ a x r) (l : Le φ ψ) : zD ψ a x r :=
  let ⟨o, es, ep, ho, a, b, c⟩ := k; ⟨o, es, ep, l _ _ ho, a, b, c⟩
section
variable {prog : Program} {w : World}
def Ev (prog : Program) (w : World) (μ : Md) (sc : Scope) (Γ : List (Str × VP)) (φ : PM) (e : Expr) (P : VP) : Prop :=
  ∀ A env m ψ s, env.scope = sc → Cx μ A ψ s → Le φ ψ → zCl env m s.heap → Typ Γ ψ m → zBJ prog w A ψ s (eval e env) P
def EvB (prog : Program) (w : World) (μ : Md) (sc : Scope) (Γ : List (Str × VP)) (φ : PM) (e : Expr) (b : Bool) : Prop :=
  ∀ A env m ψ s, env.scope = sc → Cx μ A ψ s → Le φ ψ → zCl env m s.heap → Typ Γ ψ m →
    wpAny (model prog w) A (isTrue e env (eval e env)) (fun r s' => r = b ∧ ∃ ψ', zQ (frs A) ψ s ψ' s') (fun _ _ => False) s
theorem EvB.use {μ : Md} {sc : Scope} {Γ : List (Str × VP)} {φ : PM} {e : Expr} {b : Bool} (h : EvB prog w μ sc Γ φ e b) {A : Around} {env : Env} {m : Str → Option Value} {ψ : PM} {s : Shared} (he : env.scope = sc) (c : Cx μ A ψ s) (l : Le φ ψ) (f : zCl env m s.heap) (t : Typ Γ ψ m) {Q : Bool → Shared → Prop} {E : Value → Shared → Prop} (k : ∀ ψ' s', zQ (frs A) ψ s ψ' s' → Q b s') : wpAny (model prog w) A (isTrue e env (eval e env)) Q E s :=
  zIv (h A env m ψ s he c l f t) (fun r s' ⟨e1, ψ', g⟩ => e1 ▸ k ψ' s' g) fun _ _ e => e.elim
variable {μ : Md} {sc : Scope} {Γ : List (Str × VP)} {φ : PM}
theorem Ev.le {ψ : PM} {e : Expr} {P : VP} (h : Ev prog w μ sc Γ φ e P) (l : Le φ ψ) : Ev prog w μ sc Γ ψ e P := fun A env m χ s he c k f t => h A env m χ s he c (l.trans k) f t
noncomputable def zu : Option NameKind → Bool
  | some .local | some .cell | some .free => true
  | _ => false
theorem zBN {A : Around} {env : Env} {m : Str → Option Value} {s : Shared} {x : Str} {v : Value} {Q : Value → Shared → Prop} {E : Value → Shared → Prop} (f : zCl env m s.heap) (hk : zu (env.scope.names.lookup x) = true) (hv : m x = some v) (h : Q v s) (hn : (x == ("__classdict__" : Str)) = false) : wpAny (model prog w) A (loadName env x) Q E s := by
  have hk' : env.kindOf x = env.scope.names.lookup x := rfl
  cases q : env.scope.names.lookup x with
  | none => rw [q] at hk; cases hk
  | some k =>
    rw [q] at hk hk'
    cases k with
    | «local» =>
      obtain ⟨ml, n, hm⟩ := f.loc
      exact wpAny_loadName_local f.fn hk' n ((hm x hk').trans hv) h
    | cell =>
      obtain ⟨c, hc, hi⟩ := f.cel x (.inl hk')
      rw [hv] at hi
      exact wpAny_loadName_cell f.fn hk' hc hi h
    | free =>
      obtain ⟨c, hc, hi⟩ := f.cel x (.inr hk')
      rw [hv] at hi
      exact wpAny_loadName_free f.fn hk' hc hi h hn
    | globalImplicit => cases hk
    | globalExplicit => cases hk
theorem zFM {x : Str} {pos : Pos} {P : VP} (h : Γ.lookup x = some P) (hk : zu (sc.names.lookup x) = true) (hd : (x == ("__debug__" : Str) || x == ("__classdict__" : Str)) = false) : Ev prog w μ sc Γ φ (.Name x pos) P := by
  intro A env m ψ s he c l f t
  obtain ⟨v, hv, hp⟩ := t x P h
  simp only [Bool.or_eq_false_iff] at hd
  exact wpAny_Name (zBN f (he ▸ hk) hv ⟨ψ, zQ.refl c.sub, hp⟩ hd.2) hd.1
theorem zEF {x : Str} {pos : Pos} {v : Value} (hg : GN φ x v) (hk : sc.names.lookup x = some .globalImplicit) (hd : (x == ("__debug__" : Str)) = false) : Ev prog w μ sc Γ φ (.Name x pos) (zT v) := by
  intro A env m ψ s he c l f t
  obtain ⟨mg, n, hm⟩ := (zD.le hg l).ns c.sub
  exact Name_function_global f.fn (by show env.scope.names.lookup x = _; rw [he]; exact hk) (loadGlobal_global (f.gl ▸ n) hm ⟨ψ, zQ.refl c.sub, rfl⟩) hd
theorem zq {x : Str} {pos : Pos} {v : Value} (hg : BN φ x v) (hk : sc.names.lookup x = some .globalImplicit) (hd : (x == ("__debug__" : Str)) = false) : Ev prog w μ sc Γ φ (.Name x pos) (zT v) := by
  intro A env m ψ s he c l f t
  obtain ⟨mg, n, hm⟩ := (zD.le hg.1 l).ns c.sub
  obtain ⟨mb, n2, hm2⟩ := (zD.le hg.2 l).ns c.sub
  exact Name_function_global f.fn (by show env.scope.names.lookup x = _; rw [he]; exact hk) (loadGlobal_builtin (f.gl ▸ n) hm (f.bi ▸ n2) hm2 ⟨ψ, zQ.refl c.sub, rfl⟩) hd
theorem zb {F : List Addr} {ψ : PM} {s : Shared} {tk : Nat} (h : Sub ψ s.heap) : zQ F ψ s ψ { s with toks := tk } := ⟨⟨⟨s.heap, tk, rfl⟩, fun _ o e => .same e⟩, Le.refl _, h, fun _ _ e => .inl e⟩
theorem ev_int {i : Int} {k : Nat} {pos : Pos} : Ev prog w μ sc Γ φ (.Constant (.int i) k pos) (vInt i) := by
  intro A env m ψ s he c l f t
  rw [arm_eval_Constant]
  exact wpAny_mkInt ⟨ψ, zb c.sub, _, rfl⟩
theorem zH6 {b : Bool} {k : Nat} {pos : Pos} : Ev prog w μ sc Γ φ (.Constant (.bool b) k pos) (zN b) := by
  intro A env m ψ s he c l f t
  rw [arm_eval_Constant]
  exact zIu ⟨ψ, zQ.refl c.sub, rfl⟩
def Op2 (prog : Program) (w : World) (μ : Md) (φ : PM) (t : Value → Value → Sem Value) (P Q R : VP) : Prop :=
  ∀ A ψ s a b, Cx μ A ψ s → Le φ ψ → P.p ψ a → Q.p ψ b → zBJ prog w A ψ s (t a b) R
def Op1 (prog : Program) (w : World) (μ : Md) (φ : PM) (t : Value → Sem Value) (P R : VP) : Prop :=
  ∀ A ψ s a, Cx μ A ψ s → Le φ ψ → P.p ψ a → zBJ prog w A ψ s (t a) R
theorem zD3 {M : Model} {A : Around} {E : Value → Shared → Prop} {s : Shared} {vs keep : List Value} {Q : Unit → Shared → Prop} (h : Q () s) : wpAny M A (release vs keep) Q E s := by
  unfold release
  generalize (vs.filter fun | .ref _ => true | _ => false) = l
  induction l with
  | nil => exact zIu h
  | cons x r ih =>
    cases r with
    | nil => exact zIu h
    | cons y r => exact zIt (zIw (wpAny_point ih))
theorem zAt {M : Model} {A : Around} {E : Value → Shared → Prop} {s : Shared} {vs : List Value} {t : Sem Value} {Q : Value → Shared → Prop} (h : wpAny M A t Q E s) : wpAny M A (operate vs t) Q E s :=
  zIt (zIw (zIv h (fun v s' hq => zIt (zD3 (zIu hq))) fun _ _ e => e))
theorem ev_bin {l r : Expr} {op : Operator} {pos : Pos} {P Q R : VP} (hl : Ev prog w μ sc Γ φ l P) (hr : Ev prog w μ sc Γ φ r Q) (ho : Op2 prog w μ φ (binaryOp op) P Q R) : Ev prog w μ sc Γ φ (.BinOp l op r pos) R := by
  intro A env m ψ s he c le f t
  rw [arm_eval_BinOp]
  refine zBJ.bind (hl A env m ψ s he c le f t) fun a ψ1 s1 g1 p1 => ?_
  have c1 := c.grow g1
  refine zIt (zIw ((hr A env m ψ1 s1 he c1 (le.trans g1.le) (f.ext g1.ext) (t.le g1.le)).use fun b ψ2 s2 g2 p2 => ?_))
  refine zIt (wpAny_standAt (zAt ((ho A ψ2 s2 a b (c1.grow g2) (le.trans (g1.le.trans g2.le)) (P.mono g2.le p1) p2).use fun v ψ3 s3 g3 p3 => ⟨ψ3, g2.trans g3, p3⟩)))
theorem ev_un {x : Expr} {op : UnaryOp} {pos : Pos} {P R : VP} (hl : Ev prog w μ sc Γ φ x P) (ho : Op1 prog w μ φ (unaryOp op) P R) : Ev prog w μ sc Γ φ (.UnaryOp op x pos) R := by
  intro A env m ψ s he c le f t
  rw [arm_eval_UnaryOp]
  refine zBJ.bind (hl A env m ψ s he c le f t) fun a ψ1 s1 g1 p1 => ?_
  exact zIt (wpAny_standAt (zIw ((ho A ψ1 s1 a (c.grow g1) (le.trans g1.le) p1).use fun v ψ3 s3 g3 p3 => ⟨ψ3, g3, p3⟩)))
theorem ev_cmp {l r : Expr} {op : CmpOp} {pos : Pos} {P Q R : VP} (hl : Ev prog w μ sc Γ φ l P) (hr : Ev prog w μ sc Γ φ r Q) (ho : Op2 prog w μ φ (compareOp op) P Q R) (hm : behindInMarks op r = false) : Ev prog w μ sc Γ φ (.Compare l [op] [r] pos) R := by
  intro A env m ψ s he c le f t
  rw [eval_Compare1]
  refine zBJ.bind (hl A env m ψ s he c le f t) fun a ψ1 s1 g1 p1 => ?_
  have c1 := c.grow g1
  have hmk : markedBehindIn op r (eval r env) = eval r env := by unfold markedBehindIn; rw [hm]
  rw [hmk]
  refine zIt (zIw ((hr A env m ψ1 s1 he c1 (le.trans g1.le) (f.ext g1.ext) (t.le g1.le)).use fun b ψ2 s2 g2 p2 => ?_))
  refine zIt (wpAny_standAt (zAt ((ho A ψ2 s2 a b (c1.grow g2) (le.trans (g1.le.trans g2.le)) (P.mono g2.le p1) p2).use fun v ψ3 s3 g3 p3 => ⟨ψ3, g2.trans g3, p3⟩)))
def Tru (prog : Program) (w : World) (μ : Md) (φ : PM) (P : VP) (b : Bool) : Prop :=
  ∀ A ψ s v, Cx μ A ψ s → Le φ ψ → P.p ψ v → wpAny (model prog w) A (truthy v) (fun r s' => r = b ∧ ∃ ψ', zQ (frs A) ψ s ψ' s') (fun _ _ => False) s
theorem zAF {b : Bool} : Tru prog w μ φ (zN b) b := by
  rintro A ψ s v c le rfl
  exact wpAny_truthy_bool ⟨rfl, ψ, zQ.refl c.sub⟩
theorem evb_cmp {l r : Expr} {op : CmpOp} {pos : Pos} {P Q : VP} {b : Bool} (hl : Ev prog w μ sc Γ φ l P) (hr : Ev prog w μ sc Γ φ r Q) (ho : Op2 prog w μ φ (compareOp op) P Q (zN b)) (hm : behindInMarks op r = false) : EvB prog w μ sc Γ φ (.Compare l [op] [r] pos) b := by
  intro A env m ψ s he c le f t
  refine wpAny_isTrue_Compare1 ((hl A env m ψ s he c le f t).use fun a ψ1 s1 g1 p1 => ?_) hm
  have c1 := c.grow g1
  refine (hr A env m ψ1 s1 he c1 (le.trans g1.le) (f.ext g1.ext) (t.le g1.le)).use fun b' ψ2 s2 g2 p2 => ?_
  refine (ho A ψ2 s2 a b' (c1.grow g2) (le.trans (g1.le.trans g2.le)) (P.mono g2.le p1) p2).use fun v ψ3 s3 g3 p3 => ?_
  cases p3
  exact wpAny_truthy_bool ⟨rfl, ψ3, g1.trans (g2.trans g3)⟩
theorem evb_not {x : Expr} {pos : Pos} {b : Bool} (h : EvB prog w μ sc Γ φ x b) : EvB prog w μ sc Γ φ (.UnaryOp .Not x pos) (!b) := by
  intro A env m ψ s he c le f t
  exact wpAny_isTrue_Not (h.use he c le f t fun ψ' s' g => ⟨rfl, ψ', g⟩)
theorem zHD {pos : Pos} : EvB prog w μ sc Γ φ (.BoolOp .Or [] pos) false := fun A env m ψ s he c le f t => isTrue_or_nil ⟨rfl, ψ, zQ.refl c.sub⟩
theorem evb_or {x : Expr} {rest : List Expr} {pos : Pos} {a b : Bool} (h : EvB prog w μ sc Γ φ x a) (k : a = false → EvB prog w μ sc Γ φ (.BoolOp .Or rest pos) b) : EvB prog w μ sc Γ φ (.BoolOp .Or (x :: rest) pos) (a || b) := by
  intro A env m ψ s he c le f t
  refine isTrue_or (h.use he c le f t fun ψ1 s1 g1 => ?_)
  cases a with
  | true => simp only [if_true]; exact ⟨rfl, ψ1, g1⟩
  | false =>
    simp only [Bool.false_eq_true, if_false]
    exact zIv ((k rfl) A env m ψ1 s1 he (c.grow g1) (le.trans g1.le) (f.ext g1.ext) (t.le g1.le)) (fun r s' ⟨e1, ψ', g⟩ => ⟨by simpa using e1, ψ', g1.trans g⟩) fun _ _ e => e
theorem evb_val {e : Expr} {P : VP} {b : Bool} (h : Ev prog w μ sc Γ φ e P) (k : Tru prog w μ φ P b) (he : ∀ env whole, isTrue e env whole = (do let v ← whole; standAt e.pos; holding [v] (truthy v))) : EvB prog w μ sc Γ φ e b := by
  intro A env m ψ s hs c le f t
  refine isTrue_plain ((h A env m ψ s hs c le f t).use fun v ψ1 s1 g1 p1 => ?_) (he env _)
  exact zIv (k A ψ1 s1 v (c.grow g1) (le.trans g1.le) p1) (fun r s' ⟨e1, ψ', g⟩ => ⟨e1, ψ', g1.trans g⟩) fun _ _ e => e
theorem ev_if {t b o : Expr} {pos : Pos} {c : Bool} {P : VP} (h : EvB prog w μ sc Γ φ t c) (k1 : c = true → Ev prog w μ sc Γ φ b P) (k2 : c = false → Ev prog w μ sc Γ φ o P) : Ev prog w μ sc Γ φ (.IfExp t b o pos) P := by
  intro A env m ψ s he cx le f ty
  rw [arm_eval_IfExp]
  refine zIt (h.use he cx le f ty fun ψ1 s1 g1 => ?_)
  cases c with
  | true => simp only [if_true]; exact (k1 rfl A env m ψ1 s1 he (cx.grow g1) (le.trans g1.le) (f.ext g1.ext) (ty.le g1.le)).use fun v ψ3 s3 g3 p3 => ⟨ψ3, g1.trans g3, p3⟩
  | false => simp only [Bool.false_eq_true, if_false]; exact (k2 rfl A env m ψ1 s1 he (cx.grow g1) (le.trans g1.le) (f.ext g1.ext) (ty.le g1.le)).use fun v ψ3 s3 g3 p3 => ⟨ψ3, g1.trans g3, p3⟩
noncomputable def zM (e : Expr) : Bool := !(Nat.beq e.ctorIdx (Expr.Starred (.Name "" ⟨0, 0, 0, 0⟩) ⟨0, 0, 0, 0⟩).ctorIdx)
theorem zI {e : Expr} (h : zM e = true) (rest : List Expr) (env : Env) : starEach (e :: rest) env = (false, eval e env) :: starEach rest env := by
  cases e <;> first | rfl | cases h
def EvA (prog : Program) (w : World) (μ : Md) (sc : Scope) (Γ : List (Str × VP)) (φ : PM) (es : List Expr) (Ps : List VP) : Prop := zO (fun e P => zM e = true ∧ Ev prog w μ sc Γ φ e P) es Ps
theorem EvA.nil : EvA prog w μ sc Γ φ [] [] := zO.nil
theorem EvA.cons {e : Expr} {es : List Expr} {P : VP} {Ps : List VP} (h : Ev prog w μ sc Γ φ e P) (k : EvA prog w μ sc Γ φ es Ps) (n : zM e = true) : EvA prog w μ sc Γ φ (e :: es) (P :: Ps) := zO.cons ⟨n, h⟩ k
theorem zAE {A : Around} {env : Env} {m : Str → Option Value} {pos : Pos} {E : Value → Shared → Prop} (he : env.scope = sc) {es : List Expr} {Ps : List VP} (h : EvA prog w μ sc Γ φ es Ps) : ∀ {ψ s} {Q : List Value → Shared → Prop}, Cx μ A ψ s → Le φ ψ → zCl env m s.heap → Typ Γ ψ m → (∀ vs ψ' s', zQ (frs A) ψ s ψ' s' → zO (fun (P : VP) v => P.p ψ' v) Ps vs → Q vs s') →
      wpAny (model prog w) A (spliced (backTo pos (starEach es env))) Q E s := by
  induction h with
  | nil => intro ψ s Q c l f t k; exact zIu (k [] ψ s (zQ.refl c.sub) .nil)
  | @cons e P es Ps h0 _ ih =>
    intro ψ s Q c l f t k
    rw [zI h0.1]
    show wpAny _ _ (spliced ((false, if (false = true) then _ else eval e env) :: backTo pos (starEach es env))) _ _ _
    unfold spliced
    simp only [Bool.false_eq_true, if_false]
    refine zIt ((h0.2 A env m ψ s he c l f t).use fun v ψ1 s1 g1 p1 => ?_)
    refine zIt (zIu (zIt (zIw (ih (c.grow g1) (l.trans g1.le) (f.ext g1.ext) (t.le g1.le) fun vs ψ2 s2 g2 p2 => zIu ?_))))
    exact k (v :: vs) ψ2 s2 (g1.trans g2) (.cons (P.mono g2.le p1) p2)
theorem zCh {A : Around} {ψ : PM} {s : Shared} {c : String} {Ps : List VP} {vs : List Value} (h : Sub ψ s.heap) (k : zO (fun (P : VP) v => P.p ψ v) Ps vs) (hsz : vs.length ≤ sizeLine) : zBJ prog w A ψ s (newObj (.type c) (.seq vs.toArray)) (vSeq c Ps) := by
  refine wpAny_newObj_type ⟨_, zQ.push h _ rfl s.toks, s.heap.objs.size, vs, 0, rfl, zA _ _ _, ?_⟩ (by show vs.toArray.size ≤ sizeLine; rw [List.size_toArray]; exact hsz)
  exact k.imp fun P v x => P.mono (zL (zE h (zF _))) x
theorem ev_listD {es : List Expr} {pos : Pos} {Ps : List VP} (h : EvA prog w μ sc Γ φ es Ps) (hsz : Ps.length ≤ sizeLine) : Ev prog w μ sc Γ φ (.List es pos) (zB Ps) := by
  intro A env m ψ s he c le f t
  rw [arm_eval_List]
  refine zIt (wpAny_standAt (zIt (zAE he h c le f t fun vs ψ1 s1 g1 p1 => ?_)))
  exact (zCh g1.sub p1 (by rw [← p1.length]; exact hsz)).use fun v ψ3 s3 g3 p3 => ⟨ψ3, g1.trans g3, p3⟩
theorem ev_tupD {es : List Expr} {k : Nat} {pos : Pos} {Ps : List VP} (h : EvA prog w μ sc Γ φ es Ps) (hsz : Ps.length ≤ sizeLine) : Ev prog w μ sc Γ φ (.Tuple es k pos) (zCQ Ps) := by
  intro A env m ψ s he c le f t
  rw [arm_eval_Tuple]
  refine zIt (wpAny_standAt (zIt (zAE he h c le f t fun vs ψ1 s1 g1 p1 => ?_)))
  exact (zCh g1.sub p1 (by rw [← p1.length]; exact hsz)).use fun v ψ3 s3 g3 p3 => ⟨ψ3, g1.trans g3, p3⟩
end
section
variable {prog : Program} {w : World}
def zj (prog : Program) (w : World) (μ : Md) (φ : PM) (f : Value) (Ps : List VP) (R : VP) : Prop :=
  ∀ A ψ s vs, Cx μ A ψ s → Le φ ψ → zO (fun (P : VP) v => P.p ψ v) Ps vs → zBJ prog w A ψ s (call f vs) R
theorem zj.le {μ : Md} {φ ψ : PM} {f : Value} {Ps : List VP} {R : VP} (h : zj prog w μ φ f Ps R) (l : Le φ ψ) : zj prog w μ ψ f Ps R := fun A χ s vs c k a => h A χ s vs c (l.trans k) a
def zw (φ : PM) (f : Value) : Prop := ∀ (M : Model) (h : Heap), Sub φ h → ∃ k, (k = Keeper.frame ∨ k = Keeper.machine ∨ k = Keeper.boundFrame) ∧ Looks M h (keeperOf f) k
theorem zA5 {φ : PM} {id : String} : zw φ (.builtin id) := fun M h _ => ⟨.machine, .inr (.inl rfl), Looks.of_pure rfl⟩
theorem zCp {φ : PM} {id : String} : zw φ (.type id) := fun M h _ => ⟨.machine, .inr (.inl rfl), Looks.of_pure rfl⟩
theorem zEM {φ : PM} {a : Addr} {o : Obj} {fd : FuncData} (h : φ a = some o) (hd : o.data = .func fd) : zw φ (.ref a) := by
  intro M hp hs
  refine ⟨.frame, .inl rfl, fun A Q E s k q => ?_⟩
  unfold keeperOf
  refine zIt (wpAny_load (k _ _ (hs _ _ h)) ?_)
  rw [hd]
  exact zIu q
variable {μ : Md} {sc : Scope} {Γ : List (Str × VP)} {φ : PM}
theorem zBw {es : List Expr} {Ps : List VP} (h : EvA prog w μ sc Γ φ es Ps) (pos : Pos) (env : Env) : (backTo pos (starEach es env)).any (·.1) = false := by
  induction h with
  | nil => rfl
  | @cons e P es Ps h0 _ ih =>
    rw [zI h0.1]
    show (false || (backTo pos (starEach es env)).any (·.1)) = false
    rw [ih]; rfl
theorem zCm {A : Around} {env : Env} {m : Str → Option Value} {pos : Pos} {E : Value → Shared → Prop} (he : env.scope = sc) {es : List Expr} {Ps : List VP} (h : EvA prog w μ sc Γ φ es Ps) {fv : Value} {ψ : PM} {s : Shared} {Q : Args → Shared → Prop} (c : Cx μ A ψ s) (l : Le φ ψ) (f : zCl env m s.heap) (t : Typ Γ ψ m) (k : ∀ vs ψ' s', zQ (frs A) ψ s ψ' s' → zO (fun (P : VP) v => P.p ψ' v) Ps vs → Q ⟨vs, []⟩ s') : wpAny (model prog w) A (evalArgs fv true (backTo pos (starEach es env)) []) Q E s := by
  have h' := zAE (pos := pos) (E := E) he h c l f t (Q := fun vs s' => Q ⟨vs, []⟩ s') k
  cases h with
  | nil => exact evalArgs_nil3 (k [] ψ s (zQ.refl c.sub) .nil)
  | @cons e P es Ps h0 _ =>
    rw [zI h0.1] at h' ⊢
    exact evalArgs_plain h'
theorem zBd {A : Around} {env : Env} {m : Str → Option Value} {pos : Pos} (he : env.scope = sc) {es : List Expr} {Ps Fs : List VP} (h : EvA prog w μ sc Γ φ es Ps) {fv : Value} {first : List Value} {R : VP} (hk : zw φ fv) (hs : zj prog w μ φ fv (Fs ++ Ps) R) {ψ : PM} {s : Shared} (c : Cx μ A ψ s) (l : Le φ ψ) (f : zCl env m s.heap) (t : Typ Γ ψ m) (hf : zO (fun (P : VP) v => P.p ψ v) Fs first) : zBJ prog w A ψ s (callWith pos fv first (backTo pos (starEach es env)) []) R := by
  refine callWith_of (P := fun h => ∃ k, (k = Keeper.frame ∨ k = Keeper.machine ∨ k = Keeper.boundFrame) ∧ Looks (model prog w) h (keeperOf fv) k) (by rw [zBw h]; rfl) (fun _ x => x) ?_
  refine zCm he h c l f t fun vs ψ' s' g p => ?_
  exact ⟨hk _ _ (fun a o e => g.sub a o (g.le _ _ (l _ _ e))), (hs A ψ' s' (first ++ vs) (c.grow g) (l.trans g.le) (zO.append (hf.imp fun P _ x => P.mono g.le x) p)).use fun v ψ3 s3 g3 p3 => ⟨ψ3, g.trans g3, p3⟩⟩
theorem zDz {x : Str} {px pos : Pos} {args : List Expr} {fv : Value} {Ps : List VP} {R : VP} (hf : Ev prog w μ sc Γ φ (.Name x px) (zT fv)) (ha : EvA prog w μ sc Γ φ args Ps) (hk : zw φ fv) (hs : zj prog w μ φ fv Ps R) : Ev prog w μ sc Γ φ (.Call (.Name x px) args [] pos) R := by
  intro A env m ψ s he c l f t
  rw [arm_eval_Call_Name']
  refine zBJ.bind (hf A env m ψ s he c l f t) fun v ψ1 s1 g1 p1 => ?_
  cases p1
  exact zBd (Fs := []) he ha hk hs (c.grow g1) (l.trans g1.le) (f.ext g1.ext) (t.le g1.le) .nil
def Meth (prog : Program) (w : World) (φ : PM) (P : VP) (name : Str) (id : String) : Prop :=
  ∀ A ψ (s : Shared) v (pl : Sem Bool) (Q : Value × List Value → Shared → Prop) (E : Value → Shared → Prop), Le φ ψ → Sub ψ s.heap → P.p ψ v → Q (.builtin id, [v]) s → wpAny (model prog w) A (getMethod v name pl) Q E s
theorem meth_seq {c : String} {ps : List VP} {name : Str} {id : String} (pa : PlainAttrs c) (slot : Slot c name id) (hty : typeOf (.builtin id) = pure (.type "method_descriptor")) : Meth prog w φ (vSeq c ps) name id := by
  rintro A ψ s v pl Q E l hs ⟨a, vs, n, rfl, ho, _⟩ q
  exact getMethod_builtin (T := c) ⟨_, hs _ _ ho, rfl⟩ pa slot hty (fun b e => by cases e; exact ⟨_, hs _ _ ho, rfl⟩) q
theorem ev_mcall {o : Expr} {name : Str} {apos pos : Pos} {args : List Expr} {P : VP} {id : String} {Ps : List VP} {R : VP} (ho : Ev prog w μ sc Γ φ o P) (ha : EvA prog w μ sc Γ φ args Ps) (hm : Meth prog w φ P name id) (hs : zj prog w μ φ (.builtin id) (P :: Ps) R) (hb : ∀ env t, attributeBase o name env t = t) (hn : args.length < 30) (hl : (apos.endLine == pos.line) = true) : Ev prog w μ sc Γ φ (.Call (.Attribute o name apos) args [] pos) R := by
  intro A env m ψ s he c l f t
  rw [arm_eval_Call, hb]
  refine zBJ.bind (ho A env m ψ s he c l f t) fun v ψ1 s1 g1 p1 => ?_
  refine zIt (wpAny_standAt ?_)
  unfold methodCall
  have hform : methodCallForm (args.length + ([] : List Keyword).length) (backTo pos (starEach args env)) (backToKw pos (keywordEach [] env)) = true := by
    unfold methodCallForm
    have h1 : (backTo pos (starEach args env)).all (!·.1) = true := by
      have := zBw ha pos env
      rw [List.all_eq_true]
      intro y hy
      have h2 := List.any_eq_false.mp this y hy
      simpa using h2
    rw [h1]
    show (true && ([] : List (Option Str × Sem Value)).all (·.1.isSome) && decide (args.length + 0 + (if ([] : List (Option Str × Sem Value)).isEmpty = true then 0 else 1) < 30)) = true
    simp
    exact hn
  rw [hform]
  refine zIt (zIw ?_)
  show wpAny _ _ (getMethod v name _) _ _ _
  refine hm A ψ1 s1 v _ _ _ (l.trans g1.le) g1.sub p1 ?_
  have hpos : methodCallPos true o env apos pos = pure pos := by unfold methodCallPos; rw [hl]; rfl
  show wpAny _ _ (methodCallPos true o env apos pos >>= fun callPos => callWith callPos (.builtin id) [v] (backTo pos (starEach args env)) []) _ _ _
  rw [hpos]
  refine zIt (zIu ?_)
  exact zBd (Fs := [P]) he ha zA5 hs (c.grow g1) (l.trans g1.le) (f.ext g1.ext) (t.le g1.le) (.cons p1 .nil)
inductive Lnk (A₀ : Around) (env : Env) : Option Addr → Around → Prop
  | deep : env.frame = some env.locals → Lnk A₀ env none (A₀.deeper env)
  | mark (e : Addr) : env.frame = some env.locals → Lnk A₀ env (some e) ((A₀.deeper env).mark (some (.ref e)))
  | same : Lnk A₀ env none A₀
structure Fix where
  A₀ : Around
  A : Around
  ψ₀ : PM
  s₀ : Shared
  ft : List Addr
  env : Env
  hx : Option Addr := none
  tb : List (Addr × Obj) := []
noncomputable def Fix.F (X : Fix) : List Addr := X.tb.map (·.1) ++ frs X.A₀
structure CX (μ : Md) (X : Fix) : Prop where
  base : ∃ n0, Cx ⟨μ.k + 1, n0⟩ X.A₀ X.ψ₀ X.s₀ ∧ (μ.n = true → n0 = true ∧ X.hx = none)
theorem CX.of {k : Nat} {n : Bool} {X : Fix} (c : Cx ⟨k + 1, n⟩ X.A₀ X.ψ₀ X.s₀) (h : X.hx = none) : CX ⟨k, n⟩ X := ⟨n, c, fun e => ⟨e, h⟩⟩
theorem CX.stk {μ : Md} {X : Fix} (c : CX μ X) : Stk X.A₀ X.s₀.heap := let ⟨_, c, _⟩ := c.base; c.stk
theorem CX.off {μ : Md} {X : Fix} (c : CX μ X) : ∀ b ∈ frs X.A₀, X.ψ₀ b = none := let ⟨_, c, _⟩ := c.base; c.off
theorem CX.sub {μ : Md} {X : Fix} (c : CX μ X) : Sub X.ψ₀ X.s₀.heap := let ⟨_, c, _⟩ := c.base; c.sub
structure S (X : Fix) (m : Str → Option Value) (ψ ω : PM) (s : Shared) : Prop where
  ext : Ext X.F X.s₀ s
  le : Le X.ψ₀ ψ
  new : ∀ b o, ψ b = some o → X.ψ₀ b = some o ∨ X.s₀.heap.get? b = none
  sub : Sub ψ s.heap
  fram : zCl X.env m s.heap
  link : Lnk X.A₀ X.env X.hx X.A
  hnd : ∀ e, X.hx = some e → HK ψ e
  loc : X.env.locals ∈ X.ft
  there : ∀ c ∈ X.ft, ∃ o, s.heap.get? c = some o
  off : ∀ c ∈ X.ft, ψ c = none ∧ X.s₀.heap.get? c = none
  fre : ∀ x c, X.env.cells.lookup x = some c → c ∉ X.ft → ∃ o, X.s₀.heap.get? c = some o
  own : ∀ a o, ω a = some o → s.heap.get? a = some o ∧ ψ a = none ∧ X.s₀.heap.get? a = none ∧ a ∉ X.ft
  tab : ∀ p ∈ X.tb, s.heap.get? p.1 = some p.2 ∧ ψ p.1 = none ∧ p.1 ∉ X.ft ∧ ω p.1 = none ∧ p.1 ∉ frs X.A₀ ∧ (∃ o, X.s₀.heap.get? p.1 = some o) ∧ X.ψ₀ p.1 = none
theorem zDZ {A : Around} {env : Env} {fr : List Env} (h : A.frames = some fr) (hf : env.frame = some env.locals) : frs (A.deeper env) = env.locals :: frs A := by
  unfold frs
  rw [Around.frames_deeper h, h]
  simp [hf]
theorem Lnk.frs {A₀ A : Around} {env : Env} {hx : Option Addr} {fr : List Env} (l : Lnk A₀ env hx A) (h : A₀.frames = some fr) {b : Addr} (hb : b ∈ frs A) : b = env.locals ∨ b ∈ Mine.frs A₀ := by
  cases l with
  | deep hf => rw [zDZ h hf] at hb; exact List.mem_cons.mp hb
  | mark e hf => rw [show Mine.frs ((A₀.deeper env).mark (some (.ref e))) = Mine.frs (A₀.deeper env) from rfl, zDZ h hf] at hb; exact List.mem_cons.mp hb
  | same => exact .inr hb
variable {X : Fix} {m : Str → Option Value} {ψ ω : PM} {s s' : Shared} {k : Nat} {n : Bool}
theorem S.frs_off (x : S X m ψ ω s) (c : CX μ X) {b : Addr} (hb : b ∈ frs X.A) : ψ b = none := by
  obtain ⟨fr, e, _⟩ := c.stk
  rcases x.link.frs e hb with rfl | hb
  · exact (x.off _ x.loc).1
  · cases q : ψ b with
    | none => rfl
    | some o =>
      obtain ⟨ob, hob⟩ := zBf c.stk hb
      rcases x.new b o q with z | z
      · rw [c.off b hb] at z; cases z
      · rw [hob] at z; cases z
theorem S.cx (x : S X m ψ ω s) (c : CX ⟨k, n⟩ X) : Cx ⟨k, n⟩ X.A ψ s := by
  have hoff : ∀ b ∈ frs X.A, ψ b = none := fun b hb => x.frs_off c hb
  obtain ⟨fr, e, hst⟩ := c.stk.ext x.ext
  obtain ⟨ml, ⟨oL, es, ep, hL, hd, _⟩, _⟩ := x.fram.loc
  have hlink := x.link
  obtain ⟨n0, cb, hn⟩ := c.base
  obtain ⟨A₀, A, ψ₀, s₀, ft, env, hx⟩ := X
  dsimp only at hlink c x hoff e hL cb hn ⊢
  have hstk : ∀ A', A'.frames = (A₀.deeper env).frames → env.frame = some env.locals → Stk A' s.heap := fun A' hA hf => by
    refine ⟨env :: fr, hA.trans (Around.frames_deeper e), ?_⟩
    intro env' he
    rcases List.mem_cons.mp he with rfl | he
    · exact ⟨by have := x.fram.fn; simp at this; rw [this]; decide, _, _, hf, hL, fun vs q => by rw [hd] at q; cases q⟩
    · exact hst env' he
  cases hlink with
  | deep hf => exact ⟨by have := cb.depth; simp [Around.deeper] at *; omega, by have := cb.units; simp [Around.deeper] at *; omega, fun z => cb.none (hn z).1, HOk.le (A := A₀) cb.hand x.le, hstk _ rfl hf, hoff, x.sub⟩
  | mark e' hf =>
    have h1 := x.hnd e' rfl
    exact ⟨by have := cb.depth; simp [Around.deeper, Around.mark] at *; omega, by have := cb.units; simp [Around.deeper, Around.mark] at *; omega, fun z => (by cases (hn z).2), .inr ⟨e', rfl, h1⟩, hstk _ rfl hf, hoff, x.sub⟩
  | same => exact ⟨by have := cb.depth; simp at *; omega, by have := cb.units; simp at *; omega, fun z => cb.none (hn z).1, cb.hand.le x.le, ⟨fr, e, hst⟩, hoff, x.sub⟩
theorem Ext.trans_new {F G : List Addr} {s₀ s s' : Shared} (x : Ext F s₀ s) (y : Ext G s s') (hL : ∀ b ∈ G, b ∈ F ∨ s₀.heap.get? b = Option.none) : Ext F s₀ s' := by
  refine ⟨?_, fun b o e => (x.kept b o e).trans fun o1 e1 => (y.kept b o1 e1).mono fun hG => (hL b hG).elim id fun z => by rw [z] at e; cases e⟩
  obtain ⟨h', tk, rfl⟩ := x.rest
  obtain ⟨h'', tk', rfl⟩ := y.rest
  exact ⟨h'', tk', rfl⟩
theorem S.frs_new (x : S X m ψ ω s) (c : CX μ X) : ∀ b ∈ frs X.A, b ∈ X.F ∨ X.s₀.heap.get? b = none := fun b hb => by
  obtain ⟨fr, e, _⟩ := c.stk
  rcases x.link.frs e hb with rfl | hb
  · exact .inr (x.off _ x.loc).2
  · exact .inl (List.mem_append_right _ hb)
theorem S.grow {ψ' : PM} (x : S X m ψ ω s) (cx : CX μ X) (g : zQ (frs X.A) ψ s ψ' s') : S X m ψ' ω s' := by
  have hn : ∀ c oc, s.heap.get? c = some oc → ψ c = none → ψ' c = none := fun c oc hoc hc => by
    cases q : ψ' c with
    | none => rfl
    | some o =>
      rcases g.new c o q with z | z
      · rw [hc] at z; cases z
      · rw [hoc] at z; cases z
  refine ⟨x.ext.trans_new g.ext (x.frs_new cx), x.le.trans g.le, fun b o e => ?_, g.sub, x.fram.ext g.ext, x.link, (fun e he => (x.hnd e he).le g.le), x.loc, fun c hc => ?_, fun c hc => ?_, x.fre, fun a o e => ?_, fun p hp => ?_⟩
  · rcases g.new b o e with z | z
    · exact x.new b o z
    · exact .inr (x.ext.none z)
  · obtain ⟨o, ho⟩ := x.there c hc
    exact g.ext.there ho
  · obtain ⟨o, ho⟩ := x.there c hc
    exact ⟨hn c o ho (x.off c hc).1, (x.off c hc).2⟩
  · obtain ⟨h1, h2, h3, h4⟩ := x.own a o e
    refine ⟨g.ext.keep_off h1 fun hm => ?_, hn a o h1 h2, h3, h4⟩
    obtain ⟨fr, ee, _⟩ := cx.stk
    rcases x.link.frs ee hm with rfl | hm
    · exact h4 x.loc
    · obtain ⟨ob, hob⟩ := zBf cx.stk hm
      rw [h3] at hob; cases hob
  · obtain ⟨h1, h2, h3, h4, h5, h6⟩ := x.tab p hp
    refine ⟨g.ext.keep_off h1 fun hm => ?_, hn p.1 p.2 h1 h2, h3, h4, h5, h6⟩
    obtain ⟨fr, ee, _⟩ := cx.stk
    rcases x.link.frs ee hm with q | hm
    · exact h3 (q ▸ x.loc)
    · exact h5 hm
theorem Ext.but {F : List Addr} {s₀ : Shared} (x : Ext F s₀ s) {W : Addr → Prop} (hW : ∀ b, W b → s₀.heap.get? b = Option.none) (hr : ∃ h' tk, s' = { s with heap := h', toks := tk })
    (hs : ∀ b ob, ¬ W b → s.heap.get? b = some ob → s'.heap.get? b = some ob) : Ext F s₀ s' := by
  refine ⟨?_, fun b ob e => (x.kept b ob e).trans fun o1 e1 => .same (hs b o1 (fun z => by rw [hW b z] at e; cases e) e1)⟩
  obtain ⟨q1, q2, rfl⟩ := x.rest
  obtain ⟨q3, q4, rfl⟩ := hr
  exact ⟨q3, q4, rfl⟩
theorem S.turn {ω' : PM} {W : Addr → Prop} (x : S X m ψ ω s) (hW : ∀ a, W a → ∃ o, ω a = some o) (hr : ∃ h' tk, s' = { s with heap := h', toks := tk }) (hs : ∀ b ob, ¬ W b → s.heap.get? b = some ob → s'.heap.get? b = some ob)
    (h1 : ∀ a o, ω' a = some o → (W a ∧ s'.heap.get? a = some o) ∨ (¬ W a ∧ ω a = some o)) : S X m ψ ω' s' := by
  have hw : ∀ a, W a → ψ a = none ∧ X.s₀.heap.get? a = none ∧ a ∉ X.ft := fun a ha => by obtain ⟨o, ho⟩ := hW a ha; exact (x.own a o ho).2
  refine ⟨x.ext.but (fun b hb => (hw b hb).2.1) hr hs, x.le, x.new, fun b ob e => hs b ob (fun z => by rw [(hw b z).1] at e; cases e) (x.sub b ob e), ?_, x.link, x.hnd, x.loc, fun c hc => ?_, x.off, x.fre, fun b ob e => ?_, fun p hp => ?_⟩
  · obtain ⟨fn, gl, bi, ⟨ml, ⟨oL, es, ep, hL, hd⟩, hm⟩, cel, inj, nl⟩ := x.fram
    refine ⟨fn, gl, bi, ⟨ml, ⟨oL, es, ep, hs _ _ (fun z => (hw _ z).2.2 x.loc) hL, hd⟩, hm⟩, fun y hy => ?_, inj, nl⟩
    obtain ⟨c, hc, oc, hoc, hdc⟩ := cel y hy
    refine ⟨c, hc, oc, hs _ _ (fun z => ?_) hoc, hdc⟩
    obtain ⟨ob, hob⟩ := x.fre y c hc (hw c z).2.2
    rw [(hw c z).2.1] at hob; cases hob
  · obtain ⟨o, ho⟩ := x.there c hc
    exact ⟨o, hs c o (fun z => (hw c z).2.2 hc) ho⟩
  · rcases h1 b ob e with ⟨z, q⟩ | ⟨z, q⟩
    · exact ⟨q, hw b z⟩
    · obtain ⟨k1, k2, k3, k4⟩ := x.own b ob q
      exact ⟨hs b ob z k1, k2, k3, k4⟩
  · obtain ⟨k1, k2, k3, k4, k5⟩ := x.tab p hp
    have hnw : ¬ W p.1 := fun z => by obtain ⟨o, ho⟩ := hW p.1 z; rw [k4] at ho; cases ho
    refine ⟨hs _ _ hnw k1, k2, k3, ?_, k5⟩
    cases q : ω' p.1 with
    | none => rfl
    | some o =>
      rcases h1 p.1 o q with ⟨z, _⟩ | ⟨_, z⟩
      · exact absurd z hnw
      · rw [k4] at z; cases z
theorem S.sameBut {a : Addr} {o o0 : Obj} (x : S X m ψ ω s) (ha : ω a = some o0) (hr : ∃ h' tk, s' = { s with heap := h', toks := tk }) (hs : ∀ b ob, b ≠ a → s.heap.get? b = some ob → s'.heap.get? b = some ob)
    (h' : s'.heap.get? a = some o) : S X m ψ (put ω a o) s' :=
  x.turn (W := fun b => b = a) (fun b hb => ⟨o0, by rw [hb]; exact ha⟩) hr hs fun b ob e => by
    by_cases q : b = a
    · subst q; rw [zA] at e; cases e; exact .inl ⟨rfl, h'⟩
    · rw [zC q] at e; exact .inr ⟨q, e⟩
theorem S.lay (x : S X m ψ ω s) (o : Obj) (hf : o.isFreed = false) (tk : Nat) : S X m ψ (put ω s.heap.objs.size o) { s with heap := s.heap.push o, toks := tk } := by
  have k : ∀ b ob, s.heap.get? b = some ob → (s.heap.push o).get? b = some ob := fun b ob e => Heap.get?_push_of_some _ e
  have e2 : Ext X.F s { s with heap := s.heap.push o, toks := tk } := Ext.of_keeps k
  refine ⟨x.ext.trans e2, x.le, x.new, fun b ob e => k b ob (x.sub b ob e), x.fram.ext e2, x.link, x.hnd, x.loc, fun c hc => let ⟨o', ho'⟩ := x.there c hc; ⟨o', k _ _ ho'⟩, x.off, x.fre, fun b ob e => ?_, fun p hp => ?_⟩
  · by_cases q : b = s.heap.objs.size
    · subst q
      rw [zA] at e; cases e
      refine ⟨Heap.get?_push_size _ hf, zE x.sub (zF _), x.ext.none (zF _), fun hft => ?_⟩
      obtain ⟨oc, hoc⟩ := x.there _ hft
      rw [zF] at hoc; cases hoc
    · rw [zC q] at e
      obtain ⟨k1, k2, k3, k4⟩ := x.own b ob e
      exact ⟨k b ob k1, k2, k3, k4⟩
  · obtain ⟨k1, k2, k3, k4, k5⟩ := x.tab p hp
    exact ⟨k _ _ k1, k2, k3, by rw [zC (fun q => by rw [q, zF] at k1; cases k1)]; exact k4, k5⟩
theorem S.freeze {a : Addr} {o : Obj} (x : S X m ψ ω s) (ha : ω a = some o) : S X m (put ψ a o) (fun b => if b = a then none else ω b) s := by
  obtain ⟨h1, h2, h3, h4⟩ := x.own a o ha
  refine ⟨x.ext, x.le.trans (zL h2), fun b ob e => ?_, x.sub.put h1, x.fram, x.link, (fun e he => (x.hnd e he).le (zL h2)), x.loc, x.there, fun c hc => ⟨?_, (x.off c hc).2⟩, x.fre, fun b ob e => ?_, fun p hp => ?_⟩
  · by_cases q : b = a
    · subst q; exact .inr h3
    · rw [zC q] at e; exact x.new b ob e
  · rw [zC (fun (q : c = a) => h4 (by rw [← q]; exact hc))]; exact (x.off c hc).1
  · by_cases q : b = a
    · simp [q] at e
    · simp only [if_neg q] at e
      obtain ⟨k1, k2, k3, k4⟩ := x.own b ob e
      exact ⟨k1, by rw [zC q]; exact k2, k3, k4⟩
  · obtain ⟨k1, k2, k3, k4, k5⟩ := x.tab p hp
    have hne : p.1 ≠ a := fun q => by rw [q, ha] at k4; cases k4
    exact ⟨k1, by rw [zC hne]; exact k2, k3, by simp [hne, k4], k5⟩
theorem S.forget {ω' : PM} (x : S X m ψ ω s) (h : Le ω' ω) : S X m ψ ω' s :=
  ⟨x.ext, x.le, x.new, x.sub, x.fram, x.link, x.hnd, x.loc, x.there, x.off, x.fre, fun a o e => x.own a o (h a o e), fun p hp => by
    obtain ⟨k1, k2, k3, k4, k5⟩ := x.tab p hp
    refine ⟨k1, k2, k3, ?_, k5⟩
    cases q : ω' p.1 with
    | none => rfl
    | some o => have := h _ _ q; rw [k4] at this; cases this⟩
noncomputable def zAa (ψ ω : PM) : PM := fun a => (ω a).or (ψ a)
theorem zA6 {ψ ω : PM} (h : ∀ a o, ω a = some o → ψ a = none) : Le ψ (zAa ψ ω) := fun a o e => by
  unfold zAa
  cases q : ω a with
  | none => simpa using e
  | some o' => rw [h a o' q] at e; cases e
theorem zD4 {ψ ω : PM} {a : Addr} {o : Obj} (h : ω a = some o) : zAa ψ ω a = some o := by unfold zAa; rw [h]; rfl
theorem S.all (x : S X m ψ ω s) : S X m (zAa ψ ω) (fun _ => none) s := by
  have get : ∀ b ob, zAa ψ ω b = some ob → ω b = some ob ∨ ψ b = some ob := fun b ob e => by
    unfold zAa at e
    cases q : ω b with
    | none => rw [q] at e; exact .inr (by simpa using e)
    | some o' => rw [q] at e; exact .inl (by simpa using e)
  refine ⟨x.ext, x.le.trans (zA6 fun a o e => (x.own a o e).2.1), fun b ob e => ?_, fun b ob e => ?_, x.fram, x.link, (fun e he => (x.hnd e he).le (zA6 fun a o e => (x.own a o e).2.1)), x.loc, x.there, fun c hc => ⟨?_, (x.off c hc).2⟩, x.fre, fun a o e => (by cases e), fun p hp => ?_⟩
  · rcases get b ob e with z | z
    · exact .inr (x.own b ob z).2.2.1
    · exact x.new b ob z
  · rcases get b ob e with z | z
    · exact (x.own b ob z).1
    · exact x.sub b ob z
  · cases q : zAa ψ ω c with
    | none => rfl
    | some o =>
      rcases get c o q with z | z
      · exact absurd hc (x.own c o z).2.2.2
      · rw [(x.off c hc).1] at z; cases z
  · obtain ⟨k1, k2, k3, k4, k5⟩ := x.tab p hp
    exact ⟨k1, by unfold zAa; rw [k4, k2]; rfl, k3, rfl, k5⟩
theorem S.back (x : S X m ψ ω s) (cx : CX μ X) (e : Ext (frs X.A) s s') : S X m ψ ω s' :=
  x.grow cx ⟨e, Le.refl _, e.sub x.sub fun b hb => x.frs_off cx hb, fun _ _ z => .inl z⟩
end
section
variable {prog : Program} {w : World} {X : Fix} {m : Str → Option Value} {ψ ω : PM} {s : Shared}
theorem S.touch {c : Addr} {m' : Str → Option Value} {s' : Shared} (x : S X m ψ ω s) (hc : c ∈ X.ft) (hr : ∃ h' tk, s' = { s with heap := h', toks := tk })
    (hs : ∀ b ob, b ≠ c → s.heap.get? b = some ob → s'.heap.get? b = some ob) (ht : ∃ o, s'.heap.get? c = some o) (hf : zCl X.env m' s'.heap) : S X m' ψ ω s' := by
  refine ⟨x.ext.but (W := fun b => b = c) (fun b hb => by rw [hb]; exact (x.off _ hc).2) hr hs, x.le, x.new, fun b ob e => hs b ob (fun z => ?_) (x.sub b ob e), hf, x.link, x.hnd, x.loc, fun d hd => ?_, x.off, x.fre, fun b ob e => ?_, fun p hp => ?_⟩
  · subst z; rw [(x.off _ hc).1] at e; cases e
  · by_cases q : d = c
    · subst q; exact ht
    · obtain ⟨o, ho⟩ := x.there d hd; exact ⟨o, hs d o q ho⟩
  · obtain ⟨k1, k2, k3, k4⟩ := x.own b ob e
    exact ⟨hs b ob (fun z => k4 (by rw [z]; exact hc)) k1, k2, k3, k4⟩
  · obtain ⟨k1, k2, k3, k4⟩ := x.tab p hp
    exact ⟨hs _ _ (fun z => k3 (by rw [z]; exact hc)) k1, k2, k3, k4⟩
def zK (X : Fix) (x : Str) : Prop := X.env.kindOf x = some .local ∨ (X.env.kindOf x = some .cell ∧ ∀ c, X.env.cells.lookup x = some c → c ∈ X.ft)
theorem S.store' {A : Around} {x : Str} {v : Value} {Q : Unit → Shared → Prop} {E : Value → Shared → Prop} (Y : S X m ψ ω s) (hk : zK X x) (h : ∀ s', S X (fun y => if y = x then some v else m y) ψ ω s' → (∀ b o, b ∉ X.ft → s.heap.get? b = some o → s'.heap.get? b = some o) → Q () s') : wpAny (model prog w) A (storeName X.env x v) Q E s := by
  have F := Y.fram
  rcases hk with hk | ⟨hk, hft⟩
  · obtain ⟨ml, n, hm⟩ := F.loc
    refine wpAny_storeName_local hk n (fun h' hn hs => h _ (Y.touch Y.loc ⟨h', _, rfl⟩ (fun b ob hb e => (hs.2 b hb).trans e) (let ⟨o, _, _, ho, _⟩ := hn; ⟨o, ho⟩) ?_) fun b o hb e => (hs.2 b fun q => hb (q ▸ Y.loc)).trans e) (by rw [F.fn]; rfl)
    refine ⟨F.fn, F.gl, F.bi, ⟨_, hn, fun y hy => ?_⟩, fun y hy => ?_, F.inj, F.nl⟩
    · by_cases q : y = x
      · simp [q]
      · simp only [if_neg q]; exact hm y hy
    · obtain ⟨c, hc, hi⟩ := F.cel y hy
      refine ⟨c, hc, ?_⟩
      have : y ≠ x := fun q => by subst q; rw [hk] at hy; rcases hy with hy | hy <;> cases hy
      simp only [if_neg this]
      exact hi.sameBut hs (F.nl y c hc)
  · obtain ⟨c, hc, hi⟩ := F.cel x (.inl hk)
    refine wpAny_storeName_cell F.fn hk hc hi fun h' hi' hs => h _ (Y.touch (hft c hc) ⟨h', s.toks, rfl⟩ (fun b ob hb e => (hs.2 b hb).trans e) (let ⟨o, ho, _⟩ := hi'; ⟨o, ho⟩) ?_) fun b o hb e => (hs.2 b fun q => hb (q ▸ hft c hc)).trans e
    refine ⟨F.fn, F.gl, F.bi, ?_, fun y hy => ?_, F.inj, F.nl⟩
    · obtain ⟨ml, n, hm⟩ := F.loc
      refine ⟨ml, n.sameBut hs (fun q => F.nl x c hc q.symm), fun y hy => ?_⟩
      have : y ≠ x := fun q => by subst q; rw [hk] at hy; cases hy
      simp only [if_neg this]; exact hm y hy
    · obtain ⟨c', hc', hi2⟩ := F.cel y hy
      by_cases q : y = x
      · subst q
        rw [hc] at hc'; cases hc'
        exact ⟨c, hc, by simpa using hi'⟩
      · refine ⟨c', hc', ?_⟩
        simp only [if_neg q]
        exact hi2.sameBut hs fun z => q (F.inj y x c (z ▸ hc') hc)
theorem S.store {A : Around} {x : Str} {v : Value} {Q : Unit → Shared → Prop} {E : Value → Shared → Prop} (Y : S X m ψ ω s) (hk : zK X x) (h : ∀ s', S X (fun y => if y = x then some v else m y) ψ ω s' → Q () s') : wpAny (model prog w) A (storeName X.env x v) Q E s := Y.store' hk fun s' x _ => h s' x
structure FnK (φ : PM) (a : Addr) (fd : FuncData) : Prop where
  obj : ∃ o, φ a = some o ∧ o.data = .func fd
  gl : fd.globals = mainGlobals
  bi : fd.builtins = builtinsNs
  kind : fd.scope.kind = .function
  co : fd.scope.isCoroutine = false
  gen : fd.scope.isGenerator = false
  code : ∃ c oc vs tq, fd.code = .ref c ∧ φ c = some oc ∧ oc.data = .fields vs ∧ vs[1]? = some (.str fd.qualname tq)
  lim : zD φ cStatics "sys.recursionlimit" none
theorem FnK.le {φ ψ : PM} {a : Addr} {fd : FuncData} (k : FnK φ a fd) (l : Le φ ψ) : FnK ψ a fd :=
  ⟨by obtain ⟨o, h, d⟩ := k.obj; exact ⟨o, l _ _ h, d⟩, k.gl, k.bi, k.kind, k.co, k.gen, by obtain ⟨c, oc, vs, tq, a, b, d⟩ := k.code; exact ⟨c, oc, vs, tq, a, l _ _ b, d⟩, k.lim.le l⟩
theorem FnK.noLimit {φ : PM} {a : Addr} {fd : FuncData} (k : FnK φ a fd) {h : Heap} (hs : Sub φ h) : h.NoLimit := k.lim.ns hs
theorem FnK.codeRec {φ : PM} {a : Addr} {fd : FuncData} (k : FnK φ a fd) {h : Heap} (hs : Sub φ h) : h.CodeRec fd.code fd.qualname :=
  by obtain ⟨c, oc, vs, tq, a, b, d⟩ := k.code; exact ⟨c, oc, vs, tq, a, hs _ _ b, d⟩
theorem FnK.keepOk {φ : PM} {a : Addr} {fd : FuncData} (k : FnK φ a fd) : zw φ (.ref a) := let ⟨o, h, d⟩ := k.obj; zEM h d
theorem zED (kindOf : Str → Option NameKind) : ∀ (binds : List (Str × Value)) (m : Str → Option Value) (x : Str), kindOf x = some .local → bindL kindOf binds m x = (binds.reverse.lookup x).or (m x)
  | [], m, x, _ => by simp [bindL]
  | (n, v) :: r, m, x, h => by
    unfold bindL
    rw [zED kindOf r _ x h, List.reverse_cons, List.lookup_append]
    by_cases q : x = n
    · subst q
      simp [h, List.lookup]
    · have qb : (x == n) = false := by simpa using q
      by_cases k : kindOf n = some .local
      · simp [k, q, List.lookup, qb]
      · simp [k, List.lookup, qb]
theorem zD0 (kindOf : Str → Option NameKind) : ∀ (binds : List (Str × Value)) (m : Str → Option Value) (x : Str), kindOf x = some .cell → bindC kindOf binds m x = (binds.reverse.lookup x).or (m x)
  | [], m, x, _ => by simp [bindC]
  | (n, v) :: r, m, x, h => by
    unfold bindC
    rw [zD0 kindOf r _ x h, List.reverse_cons, List.lookup_append]
    by_cases q : x = n
    · subst q
      have : ¬ kindOf x = some .local := by rw [h]; decide
      simp [this, List.lookup]
    · have qb : (x == n) = false := by simpa using q
      by_cases k : kindOf n = some .local
      · simp [k, List.lookup, qb]
      · simp [k, q, List.lookup, qb]
noncomputable def zC1 (fl : Flow) : Value := match fl with | .ret v => v | _ => .none
noncomputable def zCq (prog : Program) (w : World) (A : Around) (env : Env) (E : Value → Shared → Prop) : Value → Shared → Prop :=
  fun e s' => wpAny (model prog w) (A.deeper env) (leaving env e) (fun _ s'' => E e s'') (fun e' s'' => E e' s'') s'
theorem zDu {tb : List (Addr × Obj)} {k : Nat} {n : Bool} {A : Around} {a : Addr} {fd : FuncData} {body : List Stmt} {vs : List Value} {kw : List (Str × Value)} {binds : List (Str × Value)} {Q : Value → Shared → Prop} {E : Value → Shared → Prop} (htb : ∀ p ∈ tb, s.heap.get? p.1 = some p.2 ∧ ψ p.1 = none ∧ p.1 ∉ frs A) (c : Cx ⟨k + 1, n⟩ A ψ s) (K : FnK ψ a fd) (hb : fd.body = .stmts body) (hcl : fd.closure = []) (hbind : BindsTo s fd ⟨vs, kw⟩ binds) (hkind : (binds.all fun y => fd.scope.names.lookup y.1 == some .local || fd.scope.names.lookup y.1 == some .cell) = true) (hfree : (fd.scope.names.all fun x => x.2 != .free) = true) (hnd' : decide (((cellsFrom 0 fd.scope.names []).map (·.1)).Nodup) = true) (h : ∀ env s', env.scope = fd.scope → env.code = fd.code ∧ env.qual = fd.qualname ++ ".<locals>." → S ⟨A, A.deeper env, ψ, s, env.locals :: env.cells.map (·.2), env, none, tb⟩ (fun x => binds.reverse.lookup x) ψ (fun _ => none) s' →
      wpAny (model prog w) (A.deeper env) (execs body env) (fun fl s2 => Q (zC1 fl) s2) (zCq prog w A env E) s') : codeAny (model prog w) A (.call (.ref a) ⟨vs, kw⟩) (fun r s' => match r with | .ok (.ret v) => Q v s' | .ok _ => False | .error e => E e s') s := by
  obtain ⟨o, ho, hd⟩ := K.obj
  have hnodup : ((cellsFrom 0 fd.scope.names []).map (·.1)).Nodup := of_decide_eq_true hnd'
  have hdepth : A.depth < recursionLimit := by have := c.depth; simp at this; show _ < 1000; omega
  refine codeAny_call_function hdepth (c.sub _ _ ho) hd K.co K.gen hb (K.codeRec c.sub) (hbind _ _ _ _ ?_)
  rw [hcl]
  refine wpAny_newFunctionEnv_cells K.kind (kindsX hkind _) fun env' he s' x => ?_
  subst he
  refine ⟨(K.noLimit c.sub).keeps x.toInCall.keep, codeAny_func ?_⟩
  have hLn : s.heap.get? s.heap.objs.size = none := zF _
  have hnofree : ∀ x, fd.scope.names.lookup x ≠ some .free := fun y hy => by
    have := List.all_eq_true.mp hfree _ (mem_of_lookup hy)
    simp at this
  have cellNone : ∀ y c, (cellsFrom (s.heap.objs.size + 1) fd.scope.names []).lookup y = some c → s.heap.get? c = none := fun y cc hy => by
    have := x.above y cc (mem_of_lookup hy)
    cases q : s.heap.get? cc with
    | none => rfl
    | some o => exact absurd (Nat.lt_trans (Heap.lt_size q) this) (Nat.lt_irrefl _)
  refine zIv (h _ s' rfl ⟨rfl, rfl⟩ ?_) (fun fl s2 q => ?_) fun _ _ q => q
  · refine ⟨?_, Le.refl _, fun _ _ e => .inl e, fun b ob e => x.toInCall.keep b ob (c.sub b ob e), ?_, .deep rfl, (fun e he => by cases he), List.mem_cons_self .., ?_, ?_, ?_, (fun a o e => by cases e), ?_⟩
    · obtain ⟨h', tk, e, kk⟩ := x.done
      subst e
      exact Ext.of_keeps kk
    · refine ⟨K.kind, K.gl, K.bi, ⟨_, x.toInCall.ns, fun y hy => ?_⟩, fun y hy => ?_, fun y z cc hy hz => ?_, fun y cc hy => ?_⟩
      · rw [zED _ _ _ _ hy]; simp
      · rcases hy with hy | hy
        · have hsome := cellsFrom_some fd.scope.names (s.heap.objs.size + 1) [] (.inl hy)
          obtain ⟨cc, hcc⟩ := Option.isSome_iff_exists.mp hsome
          refine ⟨cc, hcc, ?_⟩
          have := x.cell y cc hcc
          rw [zD0 _ _ _ _ hy] at this
          simpa using this
        · exact absurd hy (hnofree y)
      · exact name_of_addr x.apart (mem_of_lookup hy) (mem_of_lookup hz)
      · exact Nat.ne_of_gt (x.above y cc (mem_of_lookup hy))
    · intro cc hcc
      rcases List.mem_cons.mp hcc with rfl | hcc
      · obtain ⟨o, _, _, ho, _⟩ := x.toInCall.ns; exact ⟨o, ho⟩
      · obtain ⟨⟨y, c'⟩, hy, rfl⟩ := List.mem_map.mp hcc
        have hnd := cellsFrom_names fd.scope.names 0 (s.heap.objs.size + 1) [] [] rfl
        obtain ⟨o, ho, _⟩ := x.cell y c' (lookup_of_mem_nodup (hnd ▸ hnodup) hy)
        exact ⟨o, ho⟩
    · intro cc hcc
      rcases List.mem_cons.mp hcc with rfl | hcc
      · exact ⟨zE c.sub hLn, hLn⟩
      · obtain ⟨⟨y, c'⟩, hy, rfl⟩ := List.mem_map.mp hcc
        have hnd := cellsFrom_names fd.scope.names 0 (s.heap.objs.size + 1) [] [] rfl
        have hy' := lookup_of_mem_nodup (hnd ▸ hnodup) hy
        exact ⟨zE c.sub (cellNone y c' hy'), cellNone y c' hy'⟩
    · intro y cc hy hnin
      exact absurd (List.mem_cons_of_mem _ (List.mem_map.mpr ⟨(y, cc), mem_of_lookup hy, rfl⟩)) hnin
    · intro p hp
      obtain ⟨t1, t2, t3⟩ := htb p hp
      refine ⟨x.toInCall.keep _ _ t1, t2, fun hcc => ?_, rfl, t3, ⟨_, t1⟩, t2⟩
      rcases List.mem_cons.mp hcc with q | hcc
      · have q' : p.1 = s.heap.objs.size := q
        rw [q', hLn] at t1; cases t1
      · obtain ⟨⟨y, c'⟩, hy, q⟩ := List.mem_map.mp hcc
        have hnd := cellsFrom_names fd.scope.names 0 (s.heap.objs.size + 1) [] [] rfl
        have hy' := lookup_of_mem_nodup (hnd ▸ hnodup) hy
        have := cellNone y c' hy'
        have q' : c' = p.1 := q
        rw [← q', this] at t1; cases t1
  · cases fl <;> exact q
theorem zo {tb : List (Addr × Obj)} {k : Nat} {n : Bool} {A : Around} {a : Addr} {fd : FuncData} {body : List Stmt} {vs : List Value} {kw : List (Str × Value)} {binds : List (Str × Value)} {Q : Value → Shared → Prop} {E : Value → Shared → Prop} (htb : ∀ p ∈ tb, s.heap.get? p.1 = some p.2 ∧ ψ p.1 = none ∧ p.1 ∉ frs A) (c : Cx ⟨k + 1, n⟩ A ψ s) (K : FnK ψ a fd) (hb : fd.body = .stmts body) (hcl : fd.closure = []) (hbind : BindsTo s fd ⟨vs, kw⟩ binds) (hkind : (binds.all fun y => fd.scope.names.lookup y.1 == some .local || fd.scope.names.lookup y.1 == some .cell) = true) (hfree : (fd.scope.names.all fun x => x.2 != .free) = true) (hnd' : decide (((cellsFrom 0 fd.scope.names []).map (·.1)).Nodup) = true) (h : ∀ env s', env.scope = fd.scope → env.code = fd.code ∧ env.qual = fd.qualname ++ ".<locals>." → S ⟨A, A.deeper env, ψ, s, env.locals :: env.cells.map (·.2), env, none, tb⟩ (fun x => binds.reverse.lookup x) ψ (fun _ => none) s' →
      wpAny (model prog w) (A.deeper env) (execs body env) (fun fl s2 => Q (zC1 fl) s2) (zCq prog w A env E) s') : wpAny (model prog w) A (call (.ref a) vs kw) Q E s := wpAny_call (zDu htb c K hb hcl hbind hkind hfree hnd' h)
theorem zEB {tb : List (Addr × Obj)} {k : Nat} {n : Bool} {A : Around} {a : Addr} {fd : FuncData} {body : List Stmt} {vs : List Value} {kw : List (Str × Value)} {binds : List (Str × Value)} {mc : Str → Option Value} {Q : Value → Shared → Prop} {E : Value → Shared → Prop} (htb : ∀ p ∈ tb, s.heap.get? p.1 = some p.2 ∧ ψ p.1 = none ∧ p.1 ∉ frs A) (c : Cx ⟨k + 1, n⟩ A ψ s) (K : FnK ψ a fd) (hb : fd.body = .stmts body) (hbind : BindsTo s fd ⟨vs, kw⟩ binds) (hloc : (binds.all fun y => fd.scope.names.lookup y.1 == some .local) = true) (hcell : (fd.scope.names.all fun x => x.2 != .cell) = true) (hcl : ∀ x, fd.scope.names.lookup x = some .free → ∃ cc oc, fd.closure.lookup x = some cc ∧ ψ cc = some oc ∧ oc.data = .cell (mc x)) (hinj : ∀ x y cc, fd.closure.lookup x = some cc → fd.closure.lookup y = some cc → x = y) (hin : ∀ x cc, fd.closure.lookup x = some cc → ∃ oc, ψ cc = some oc) (h : ∀ env s', env.scope = fd.scope → env.code = fd.code ∧ env.qual = fd.qualname ++ ".<locals>." → S ⟨A, A.deeper env, ψ, s, [env.locals], env, none, tb⟩ (fun x => if fd.scope.names.lookup x = some .local then binds.reverse.lookup x else mc x) ψ (fun _ => none) s' →
      wpAny (model prog w) (A.deeper env) (execs body env) (fun fl s2 => Q (zC1 fl) s2) (zCq prog w A env E) s') : wpAny (model prog w) A (call (.ref a) vs kw) Q E s := by
  obtain ⟨o, ho, hd⟩ := K.obj
  have hdepth : A.depth < recursionLimit := by have := c.depth; simp at this; show _ < 1000; omega
  have hcell' : ∀ x ∈ fd.scope.names, x.2 ≠ .cell := fun x hx => by have := List.all_eq_true.mp hcell x hx; simpa using this
  have hloc' : ∀ x ∈ binds, fd.scope.names.lookup x.1 = some .local := fun x hx => by have := List.all_eq_true.mp hloc x hx; simpa using this
  have hnocell : ∀ x, fd.scope.names.lookup x ≠ some .cell := fun y hy => hcell' _ (mem_of_lookup hy) rfl
  refine wpAny_call (codeAny_call_def hdepth (c.sub _ _ ho) hd (K.noLimit c.sub) (K.codeRec c.sub) hb hbind hcell' hloc' (fun h₀ hns hk => ?_) K.co K.gen K.kind)
  have hLn : s.heap.get? s.heap.objs.size = none := zF _
  refine zIv (h _ _ rfl ⟨rfl, rfl⟩ ?_) (fun fl s2 q => by cases fl <;> exact q) fun _ _ q => q
  have hfreeC : ∀ x, (callEnv fd s.heap.objs.size a).kindOf x = fd.scope.names.lookup x := fun _ => rfl
  refine ⟨Ext.of_keeps hk, Le.refl _, fun _ _ e => .inl e, fun b ob e => hk b ob (c.sub b ob e), ?_, .deep rfl, (fun e he => by cases he), List.mem_cons_self .., ?_, ?_, ?_, (fun a o e => by cases e), ?_⟩
  · refine ⟨K.kind, K.gl, K.bi, ⟨_, hns, fun y hy => ?_⟩, fun y hy => ?_, hinj, fun y cc hy => ?_⟩
    · have hy' : fd.scope.names.lookup y = some .local := hy
      simp [hy']
    · rcases hy with hy | hy
      · exact absurd hy (hnocell y)
      · have hy' : fd.scope.names.lookup y = some .free := hy
        obtain ⟨cc, oc, h1, h2, h3⟩ := hcl y hy'
        refine ⟨cc, h1, oc, hk _ _ (c.sub _ _ h2), ?_⟩
        simp [hy', h3]
    · obtain ⟨oc, h2⟩ := hin y cc hy
      intro q
      have q' : cc = s.heap.objs.size := q
      have := c.sub _ _ h2
      rw [q', hLn] at this; cases this
  · intro cc hcc
    rw [List.mem_singleton.mp hcc]
    obtain ⟨o, _, _, ho, _⟩ := hns; exact ⟨o, ho⟩
  · intro cc hcc
    rw [List.mem_singleton.mp hcc]
    exact ⟨zE c.sub hLn, hLn⟩
  · intro y cc hy _
    obtain ⟨oc, h2⟩ := hin y cc hy
    exact ⟨oc, c.sub _ _ h2⟩
  · intro p hp
    obtain ⟨t1, t2, t3⟩ := htb p hp
    refine ⟨hk _ _ t1, t2, fun hcc => ?_, rfl, t3, ⟨_, t1⟩, t2⟩
    have q : p.1 = s.heap.objs.size := List.mem_singleton.mp hcc
    rw [q, hLn] at t1; cases t1
end
def zHZ (P : VP) : Prop := ∀ φ ψ v, P.p φ v → P.p ψ v
theorem zCY (i : Int) : zHZ (vInt i) := fun _ _ _ h => h
theorem zIZ (b : Bool) : zHZ (zN b) := fun _ _ _ h => h
theorem zAN (v : Value) : zHZ (zT v) := fun _ _ _ h => h
theorem Typ.view {Γ : List (Str × VP)} {ψ : PM} {m : Str → Option Value} {x : Str} {v : Value} {P : VP} (t : Typ Γ ψ m) (h : Γ.lookup x = some (zT v)) (r : P.p ψ v) : Typ ((x, P) :: Γ) ψ m := by
  intro y P' hy
  rw [List.lookup_cons] at hy
  by_cases q : y = x
  · subst q
    simp only [beq_self_eq_true] at hy
    cases hy
    obtain ⟨v', a, b⟩ := t y _ h
    cases b
    exact ⟨v, a, r⟩
  · have : (y == x) = false := by simpa using q
    rw [this] at hy
    exact t y P' hy
theorem Typ.sub {Γ Γ' : List (Str × VP)} {ψ : PM} {m : Str → Option Value} (t : Typ Γ ψ m) (h : ∀ x P, Γ'.lookup x = some P → Γ.lookup x = some P) : Typ Γ' ψ m := fun x P e => t x P (h x P e)
section
variable {prog : Program} {w : World}
inductive B (X : Fix) (Γ : List (Str × VP)) (ψ ω : PM) (s : Shared) : Prop
  | mk (m : _) (h1 : S X m ψ ω s) (h2 : Typ Γ ψ m) : B X Γ ψ ω s
variable {X : Fix} {Γ : List (Str × VP)} {ψ ω φ : PM} {s : Shared} {k : Nat} {n : Bool}
theorem B.toGrow (b : B X Γ ψ ω s) : zQ X.F X.ψ₀ X.s₀ ψ s := let ⟨m, x, _⟩ := b; ⟨x.ext, x.le, x.sub, x.new⟩
theorem B.cx (b : B X Γ ψ ω s) (c : CX ⟨k, n⟩ X) : Cx ⟨k, n⟩ X.A ψ s := let ⟨m, x, _⟩ := b; x.cx c
theorem B.retype {Γ' : List (Str × VP)} (b : B X Γ ψ ω s) (h : ∀ m, Typ Γ ψ m → Typ Γ' ψ m) : B X Γ' ψ ω s := let ⟨m, x, t⟩ := b; ⟨m, x, h m t⟩
theorem B.forget {ω' : PM} (b : B X Γ ψ ω s) (h : Le ω' ω) : B X Γ ψ ω' s := let ⟨m, x, t⟩ := b; ⟨m, x.forget h, t⟩
theorem B.freeze {a : Addr} {o : Obj} (b : B X Γ ψ ω s) (h : ω a = some o) : B X Γ (put ψ a o) (fun c => if c = a then none else ω c) s :=
  let ⟨m, x, t⟩ := b; ⟨m, x.freeze h, t.le (zL (x.own a o h).2.1)⟩
theorem B.ownNone {a : Addr} {o : Obj} (b : B X Γ ψ ω s) (h : ω a = some o) : ψ a = none := let ⟨m, x, t⟩ := b; (x.own a o h).2.1
theorem B.view {x : Str} {v : Value} {P : VP} (b : B X Γ ψ ω s) (h : Γ.lookup x = some (zT v)) (r : P.p ψ v) : B X ((x, P) :: Γ) ψ ω s := b.retype fun m t => t.view h r
theorem B.eval {e : Expr} {P : VP} {Q : Value → Shared → Prop} {E : Value → Shared → Prop} (b : B X Γ ψ ω s) (c : CX ⟨k, n⟩ X) (h : Ev prog w ⟨k, n⟩ X.env.scope Γ ψ e P) (q : ∀ v ψ' s', Le ψ ψ' → P.p ψ' v → B X Γ ψ' ω s' → Q v s') : wpAny (model prog w) X.A (eval e X.env) Q E s := by
  obtain ⟨m, x, t⟩ := b
  exact (h _ X.env m ψ s rfl (x.cx c) (Le.refl _) x.fram t).use fun v ψ' s' g p => q v ψ' s' g.le p ⟨m, x.grow c g, t.le g.le⟩
theorem B.evalO {e : Expr} {P : VP} {Γ' : List (Str × VP)} {Q : Value → Shared → Prop} {E : Value → Shared → Prop} (b : B X Γ ψ ω s) (c : CX ⟨k, n⟩ X) (hΓ : ∀ m, Typ Γ (zAa ψ ω) m → Typ Γ' (zAa ψ ω) m) (h : Ev prog w ⟨k, n⟩ X.env.scope Γ' (zAa ψ ω) e P) (hP : zHZ P) (q : ∀ v s', P.p ψ v → B X Γ ψ ω s' → Q v s') : wpAny (model prog w) X.A (PySem.eval e X.env) Q E s := by
  obtain ⟨m, x, t⟩ := b
  have y := x.all
  have tb : Typ Γ (zAa ψ ω) m := t.le (zA6 fun a o e => (x.own a o e).2.1)
  exact (h _ X.env m _ s rfl (y.cx c) (Le.refl _) y.fram (hΓ m tb)).use fun v ψ' s' g p => q v s' (hP _ _ _ p) ⟨m, x.back c g.ext, t⟩
theorem B.test {e : Expr} {r : Bool} {Q : Bool → Shared → Prop} {E : Value → Shared → Prop} (b : B X Γ ψ ω s) (c : CX ⟨k, n⟩ X) (h : EvB prog w ⟨k, n⟩ X.env.scope Γ ψ e r) (q : ∀ ψ' s', Le ψ ψ' → B X Γ ψ' ω s' → Q r s') : wpAny (model prog w) X.A (isTrue e X.env (PySem.eval e X.env)) Q E s := by
  obtain ⟨m, x, t⟩ := b
  exact h.use rfl (x.cx c) (Le.refl _) x.fram t fun ψ' s' g => q ψ' s' g.le ⟨m, x.grow c g, t.le g.le⟩
theorem B.testO {e : Expr} {r : Bool} {Γ' : List (Str × VP)} {Q : Bool → Shared → Prop} {E : Value → Shared → Prop} (b : B X Γ ψ ω s) (c : CX ⟨k, n⟩ X) (hΓ : ∀ m, Typ Γ (zAa ψ ω) m → Typ Γ' (zAa ψ ω) m) (h : EvB prog w ⟨k, n⟩ X.env.scope Γ' (zAa ψ ω) e r) (q : ∀ s', B X Γ ψ ω s' → Q r s') : wpAny (model prog w) X.A (isTrue e X.env (PySem.eval e X.env)) Q E s := by
  obtain ⟨m, x, t⟩ := b
  have y := x.all
  have tb : Typ Γ (zAa ψ ω) m := t.le (zA6 fun a o e => (x.own a o e).2.1)
  exact h.use rfl (y.cx c) (Le.refl _) y.fram (hΓ m tb) fun ψ' s' g => q s' ⟨m, x.back c g.ext, t⟩
theorem zCR {sc : Scope} {x : Str} (he : X.env.scope = sc) (h : sc.names.lookup x = some .local) : zK X x := .inl (by show X.env.scope.names.lookup x = _; rw [he]; exact h)
theorem zC9 {sc : Scope} {x : Str} (he : X.env.scope = sc) (h : sc.names.lookup x = some .cell) (hf : ∀ c ∈ X.env.cells.map (·.2), c ∈ X.ft) : zK X x :=
  .inr ⟨by show X.env.scope.names.lookup x = _; rw [he]; exact h, fun c hc => hf c (List.mem_map.mpr ⟨_, mem_of_lookup hc, rfl⟩)⟩
theorem B.store {A : Around} {x : Str} {v : Value} {P : VP} {Q : Unit → Shared → Prop} {E : Value → Shared → Prop} (b : B X Γ ψ ω s) (hk : zK X x) (p : P.p ψ v) (h : ∀ s', B X ((x, P) :: Γ) ψ ω s' → Q () s') : wpAny (model prog w) A (storeName X.env x v) Q E s :=
  let ⟨m, y, t⟩ := b; y.store hk fun s' y' => h s' ⟨_, y', t.cons p⟩
variable {rest : List Stmt} {Q : Flow → Shared → Prop} {E : Value → Shared → Prop}
noncomputable def seqQ (prog : Program) (w : World) (A : Around) (env : Env) (rest : List Stmt) (Q : Flow → Shared → Prop) (E : Value → Shared → Prop) : Flow → Shared → Prop
  | .next, s => wpAny (model prog w) A (execs rest env) Q E s
  | .brk, s => Q .brk s
  | .cont, s => Q .cont s
  | .ret v, s => Q (.ret v) s
theorem z9 {A : Around} {env : Env} {st : Stmt} (h : wpAny (model prog w) A (exec st env) (seqQ prog w A env rest Q E) E s) : wpAny (model prog w) A (execs (st :: rest) env) Q E s :=
  wpAny_execs_cons (zIv h (fun f s' q => by cases f <;> exact q) fun _ _ e => e)
noncomputable def lst (vs : List Value) (n : Nat) : Obj := { cls := .type "list", data := .seq vs.toArray n }
theorem B.newList {A : Around} {vs : List Value} {Q : Value → Shared → Prop} {E : Value → Shared → Prop} (b : B X Γ ψ ω s) (hsz : vs.length ≤ sizeLine) (h : ∀ a s', (∀ o, ω a ≠ some o) → ψ a = none → B X Γ ψ (put ω a (lst vs 0)) s' → Q (.ref a) s') : wpAny (model prog w) A (newList vs) Q E s := by
  obtain ⟨m, x, t⟩ := b
  refine wpAny_newObj_type (h _ _ (fun o e => ?_) ?_ ⟨m, x.lay (lst vs 0) rfl s.toks, t⟩) (by show vs.toArray.size ≤ sizeLine; rw [List.size_toArray]; exact hsz)
  · have := (x.own _ _ e).1
    rw [zF] at this; cases this
  · exact zE x.sub (zF _)
theorem B.append {A : Around} {a : Addr} {vs : List Value} {j : Nat} {v : Value} {Q : Value → Shared → Prop} {E : Value → Shared → Prop} (b : B X Γ ψ ω s) (ha : ω a = some (lst vs j)) (hsz : vs.length ≤ sizeLine) (h : ∀ s' j', B X Γ ψ (put ω a (lst (vs ++ [v]) j')) s' → Q .none s') : wpAny (model prog w) A (call (.builtin "list.append") [.ref a, v]) Q E s := by
  obtain ⟨m, x, t⟩ := b
  refine wpAny_list_append_plain (items := vs.toArray) ⟨j, (x.own _ _ ha).1⟩ (fun h' hp hs => ?_) (by rw [List.size_toArray]; exact hsz)
  obtain ⟨j', hj⟩ := hp
  refine h _ j' ⟨m, x.sameBut ha ⟨h', s.toks, rfl⟩ (fun b ob hb e => (hs.2 b hb).trans e) ?_, t⟩
  rw [hj]
  simp [lst]
end
section
variable {prog : Program} {w : World} {μ : Md} {φ : PM}
theorem zAR {a b : Int} : Op2 prog w μ φ (binaryOp .Add) (vInt a) (vInt b) (vInt (a + b)) := by
  rintro A ψ s _ _ c l ⟨t, rfl⟩ ⟨u, rfl⟩
  exact PyProof.Rows.add_int ⟨ψ, zb c.sub, _, rfl⟩
theorem z8 {a b : Int} : Op2 prog w μ φ (binaryOp .Sub) (vInt a) (vInt b) (vInt (a - b)) := by
  rintro A ψ s _ _ c l ⟨t, rfl⟩ ⟨u, rfl⟩
  exact PyProof.Rows.sub_int ⟨ψ, zb c.sub, _, rfl⟩
theorem zCr {a b : Bool} : Op2 prog w μ φ (binaryOp .Sub) (zN a) (zN b) (vInt (b2i a - b2i b)) := by
  rintro A ψ s _ _ c l rfl rfl
  exact PyProof.Rows.sub_bool ⟨ψ, zb c.sub, _, rfl⟩
theorem zAP {a b : Int} (hb : b ≠ 0) : Op2 prog w μ φ (binaryOp .Mod) (vInt a) (vInt b) (vInt (a.fmod b)) := by
  rintro A ψ s _ _ c l ⟨t, rfl⟩ ⟨u, rfl⟩
  exact PyProof.Rows.mod_int hb ⟨ψ, zb c.sub, _, rfl⟩
theorem zDh {a b : Int} (hb : b ≠ 0) (hs : Builtin.divisionGoesByPylong a b = false) : Op2 prog w μ φ (binaryOp .FloorDiv) (vInt a) (vInt b) (vInt (a.fdiv b)) := by
  rintro A ψ s _ _ c l ⟨t, rfl⟩ ⟨u, rfl⟩
  exact PyProof.Rows.floordiv_int hb ⟨ψ, zb c.sub, _, rfl⟩ (.inl hs)
theorem zAO {a : Int} : Op1 prog w μ φ (unaryOp .USub) (vInt a) (vInt (-a)) := by
  rintro A ψ s _ c l ⟨t, rfl⟩
  exact PyProof.Rows.neg_int ⟨ψ, zb c.sub, _, rfl⟩
theorem op_not {P : VP} {b : Bool} (h : Tru prog w μ φ P b) : Op1 prog w μ φ (unaryOp .Not) P (zN (!b)) := by
  intro A ψ s v c l p
  exact PyProof.Rows.not_of (zIv (h A ψ s v c l p) (fun r s' ⟨e, ψ', g⟩ => ⟨ψ', g, by rw [e]; rfl⟩) fun _ _ e => e)
theorem zAk {a b : Int} : Op2 prog w μ φ (compareOp .Lt) (vInt a) (vInt b) (zN (decide (a < b))) := by
  rintro A ψ s _ _ c l ⟨t, rfl⟩ ⟨u, rfl⟩
  exact PyProof.Rows.lt_int ⟨ψ, zQ.refl c.sub, rfl⟩
theorem zAW {a b : Int} : Op2 prog w μ φ (compareOp .Gt) (vInt a) (vInt b) (zN (decide (b < a))) := by
  rintro A ψ s _ _ c l ⟨t, rfl⟩ ⟨u, rfl⟩
  exact PyProof.Rows.gt_int ⟨ψ, zQ.refl c.sub, rfl⟩
theorem zCu {a b : Int} : Op2 prog w μ φ (compareOp .LtE) (vInt a) (vInt b) (zN (decide (a ≤ b))) := by
  rintro A ψ s _ _ c l ⟨t, rfl⟩ ⟨u, rfl⟩
  exact PyProof.Rows.le_int ⟨ψ, zQ.refl c.sub, rfl⟩
theorem zAn {a b : Int} : Op2 prog w μ φ (compareOp .Eq) (vInt a) (vInt b) (zN (a == b)) := by
  rintro A ψ s _ _ c l ⟨t, rfl⟩ ⟨u, rfl⟩
  exact PyProof.Rows.eq_int ⟨ψ, zQ.refl c.sub, rfl⟩
theorem zAJ {a b : Int} : Op2 prog w μ φ (compareOp .NotEq) (vInt a) (vInt b) (zN (a != b)) := by
  rintro A ψ s _ _ c l ⟨t, rfl⟩ ⟨u, rfl⟩
  exact PyProof.Rows.ne_int ⟨ψ, zQ.refl c.sub, rfl⟩
end
theorem zDX {α : Type} : ∀ {l : List (Str × α)}, (l.map (·.1)).Nodup → ∀ x, l.reverse.lookup x = l.lookup x
  | [], _, _ => rfl
  | (n, v) :: r, h, x => by
    rw [List.map_cons, List.nodup_cons] at h
    rw [List.reverse_cons, List.lookup_append, zDX h.2]
    by_cases q : x = n
    · subst q
      have : r.lookup x = none := by
        cases e : r.lookup x with
        | none => rfl
        | some v' => exact absurd (List.mem_map.mpr ⟨(x, v'), mem_of_lookup e, rfl⟩) h.1
      rw [this]
      simp [List.lookup]
    · have qb : (x == n) = false := by simpa using q
      simp [List.lookup, qb]
theorem zAZ {Γ : List (Str × VP)} {binds : List (Str × Value)} {ψ : PM} (h : zO (fun (g : Str × VP) (b : Str × Value) => g.1 = b.1 ∧ g.2.p ψ b.2) Γ binds) (nd : decide ((Γ.map (·.1)).Nodup) = true) : Typ Γ ψ (fun x => binds.reverse.lookup x) := by
  have hnames : ∀ {Γ : List (Str × VP)} {binds : List (Str × Value)}, zO (fun (g : Str × VP) (b : Str × Value) => g.1 = b.1 ∧ g.2.p ψ b.2) Γ binds → Γ.map (·.1) = binds.map (·.1) := by
    intro Γ binds h
    induction h with
    | nil => rfl
    | cons h _ ih => simp [h.1, ih]
  have nd' : (binds.map (·.1)).Nodup := by rw [← hnames h]; exact of_decide_eq_true nd
  intro x P hx
  show ∃ v, binds.reverse.lookup x = some v ∧ P.p ψ v
  rw [zDX nd']
  clear nd nd'
  induction h with
  | nil => cases hx
  | @cons g b Γ binds h0 _ ih =>
    obtain ⟨gn, gp⟩ := g
    obtain ⟨bn, bv⟩ := b
    obtain ⟨h1, h2⟩ := h0
    simp only at h1 h2
    subst h1
    rw [List.lookup_cons] at hx ⊢
    cases q : x == gn with
    | true => rw [q] at hx; cases hx; exact ⟨bv, rfl, h2⟩
    | false => rw [q] at hx; exact ih hx
section
variable {prog : Program} {w : World} {X : Fix} {Γ : List (Str × VP)} {ψ ω φ : PM} {s : Shared} {k : Nat} {n : Bool} {m : Str → Option Value}
structure Walk (prog : Program) (w : World) (A : Around) (I : Addr) (wr fz : List Addr) (nn : Nat) (P : Nat → Value → Prop) (St : Nat → Heap → Prop) : Prop where
  wk : ∃ fp, Walks prog w A I fp wr nn P St ∧ ∀ b ∈ fp, b ∈ wr ∨ b ∈ fz
  live : ∀ i h, St i h → ∀ b ∈ wr, ∃ o, h.get? b = some o
noncomputable def zAS (ω : PM) (wr : List Addr) (h : Heap) : PM := fun b => if b ∈ wr then h.get? b else ω b
theorem S.wmove {s' : Shared} {wr : List Addr} (x : S X m ψ ω s) (hw : ∀ b ∈ wr, ∃ o, ω b = some o) (hr : ∃ h' tk, s' = { s with heap := h', toks := tk }) (hs : ∀ b o, b ∉ wr → s.heap.get? b = some o → s'.heap.get? b = some o) :
    S X m ψ (zAS ω wr s'.heap) s' :=
  x.turn (W := fun b => b ∈ wr) hw hr hs fun b o e => by
    unfold zAS at e
    by_cases q : b ∈ wr
    · rw [if_pos q] at e; exact .inl ⟨q, e⟩
    · rw [if_neg q] at e; exact .inr ⟨q, e⟩
def Itr (prog : Program) (w : World) (μ : Md) (φ : PM) (P : VP) (items : List VP) : Prop :=
  ∀ A ψ s v, Cx μ A ψ s → Le φ ψ → P.p ψ v → wpAny (model prog w) A (pyIter v) (fun it s' => ∃ I wr fz Pv St, it = .ref I ∧ Walk prog w A I wr fz items.length Pv St ∧ St 0 s'.heap ∧ (∀ b ∈ wr, s.heap.get? b = none) ∧
    (∀ b ∈ fz, ∃ o, ψ b = some o) ∧ (∀ i v, i < items.length → Pv i v → ∃ Q, items[i]? = some Q ∧ Q.p ψ v) ∧ Ext (frs A) s s') (fun _ _ => False) s
theorem zCf {F : List Addr} (s : Shared) (o : Obj) : Ext F s { s with heap := s.heap.push o } := Ext.of_keeps (tk := s.toks) fun _ _ e => Heap.get?_push_of_some _ e
theorem zW {μ : Md} {ps : List VP} (hn : μ.n = true) : Itr prog w μ φ (zB ps) ps := by
  rintro A ψ s _ c l ⟨a, vs, j, rfl, ho, hall⟩
  have hl : s.heap.IsList a vs.toArray := ⟨_, c.sub _ _ ho, rfl, j, rfl⟩
  have hne : a ≠ s.heap.objs.size := Nat.ne_of_lt (Heap.lt_size (c.sub _ _ ho))
  have W := Walks.list (prog := prog) (w := w) (c.none hn) s.heap.objs.size a hne vs.toArray
  have e : vs.toArray.size = ps.length := by simp [hall.length]
  rw [e] at W
  have V : Walk prog w A s.heap.objs.size [s.heap.objs.size] [a] ps.length _ _ := ⟨⟨_, W, fun b hb => by simp at hb; rcases hb with rfl | rfl <;> simp⟩, fun i h hst b hb => by rw [List.mem_singleton.mp hb]; obtain ⟨o, ho, _⟩ := hst.1; exact ⟨o, ho⟩⟩
  refine wpAny_pyIter_list hl ⟨_, _, _, _, _, rfl, V, ?_, fun b hb => ?_, fun b hb => ?_, fun i v hi hv => ?_, zCf s _⟩
  · exact ⟨⟨_, Heap.get?_push_size _ rfl, rfl, rfl⟩, hl.at fun o e => Heap.get?_push_of_some _ e⟩
  · rw [List.mem_singleton.mp hb]; exact zF _
  · rw [List.mem_singleton.mp hb]; exact ⟨_, ho⟩
  · exact hall.get' (by simpa using hv)
theorem zHn {μ : Md} {ps : List VP} (hn : μ.n = true) : Itr prog w μ φ (zCQ ps) ps := by
  rintro A ψ s _ c l ⟨a, vs, j, rfl, ho, hall⟩
  have hl : s.heap.IsTuple a vs.toArray := ⟨_, c.sub _ _ ho, rfl, j, rfl⟩
  have hne : a ≠ s.heap.objs.size := Nat.ne_of_lt (Heap.lt_size (c.sub _ _ ho))
  have W := Walks.tuple (prog := prog) (w := w) (c.none hn) s.heap.objs.size a hne vs.toArray
  have e : vs.toArray.size = ps.length := by simp [hall.length]
  rw [e] at W
  have V : Walk prog w A s.heap.objs.size [s.heap.objs.size] [a] ps.length _ _ := ⟨⟨_, W, fun b hb => by simp at hb; rcases hb with rfl | rfl <;> simp⟩, fun i h hst b hb => by rw [List.mem_singleton.mp hb]; obtain ⟨o, ho, _⟩ := hst.1; exact ⟨o, ho⟩⟩
  refine wpAny_pyIter_tuple hl ⟨_, _, _, _, _, rfl, V, ?_, fun b hb => ?_, fun b hb => ?_, fun i v hi hv => ?_, zCf s _⟩
  · exact ⟨⟨_, Heap.get?_push_size _ rfl, rfl, rfl⟩, hl.at fun o e => Heap.get?_push_of_some _ e⟩
  · rw [List.mem_singleton.mp hb]; exact zF _
  · rw [List.mem_singleton.mp hb]; exact ⟨_, ho⟩
  · exact hall.get' (by simpa using hv)
noncomputable def zC5 (a b : Int) : VP := ⟨fun φ v => ∃ r t u x, v = .ref r ∧ φ r = some { cls := .type "range", data := .fields #[.int a t, .int b u, .int 1 x] }, fun le h => by obtain ⟨r, t, u, x, e, h⟩ := h; exact ⟨r, t, u, x, e, le _ _ h⟩⟩
noncomputable def zFX (a : Int) (k : Nat) : List Int := (List.range k).map fun i => a + (i : Nat)
theorem zC2 (a : Int) (k : Nat) : (zFX a k).length = k := by simp [zFX]
theorem zIe {μ : Md} {a b : Int} (hn : μ.n = true) (hs : Builtin.Range.small a b 1 = true) : Itr prog w μ φ (zC5 a b) ((zFX a (b - a).toNat).map vInt) := by
  rintro A ψ s _ c l ⟨r, t, u, x, rfl, ho⟩
  have hr : IsRange s.heap r a b 1 t u x := c.sub _ _ ho
  have hsz : Builtin.Range.rangeSize a b 1 = ((b - a).toNat : Int) := by rw [rangeSize_one]; split <;> omega
  have W := Walks.range (prog := prog) (w := w) (c.none hn) s.heap.objs.size a 1 (b - a).toNat
  have e : ((zFX a (b - a).toNat).map vInt).length = (b - a).toNat := by simp [zFX]
  have V : Walk prog w A s.heap.objs.size [s.heap.objs.size] [] (b - a).toNat _ _ := ⟨⟨_, W, fun b hb => by simp at hb; subst hb; simp⟩, fun i h hst b hb => by rw [List.mem_singleton.mp hb]; exact ⟨_, hst⟩⟩
  rw [← e] at V
  refine wpAny_pyIter_range hr hs ⟨_, _, _, _, _, rfl, V, ?_, fun b hb => ?_, fun b hb => (nomatch hb), fun i v hi hv => ?_, zCf s _⟩
  · show IsRangeIter _ _ _ _ _
    rw [hsz, e]
    have : IsRangeIter (s.heap.push { cls := .type "range_iterator", data := .fields #[rawInt a, rawInt ((b - a).toNat : Int), rawInt 1] }) s.heap.objs.size a ((b - a).toNat : Int) 1 := Heap.get?_push_size _ rfl
    simpa using this
  · rw [List.mem_singleton.mp hb]; exact zF _
  · obtain ⟨t', rfl⟩ := hv
    refine ⟨vInt (a + (i : Nat)), ?_, t', by simp⟩
    have hi' : i < (b - a).toNat := by simpa [zFX] using hi
    simp [zFX, List.getElem?_map, List.getElem?_range hi']
theorem zi {μ : Md} {b : Int} : zj prog w μ φ (.type "range") [vInt b] (zC5 0 b) := by
  rintro A ψ s vs c l h
  obtain ⟨v, rfl, t, rfl⟩ : ∃ v, vs = [v] ∧ (vInt b).p ψ v := by cases h with | cons h1 h => cases h; exact ⟨_, rfl, h1⟩
  exact call_range_1 ⟨_, zQ.push c.sub _ rfl _, _, _, _, _, rfl, zA _ _ _⟩
theorem zFL {μ : Md} {a b : Int} : zj prog w μ φ (.type "range") [vInt a, vInt b] (zC5 a b) := by
  rintro A ψ s vs c l h
  obtain ⟨v, v', rfl, ⟨t, rfl⟩, ⟨t', rfl⟩⟩ : ∃ v v', vs = [v, v'] ∧ (vInt a).p ψ v ∧ (vInt b).p ψ v' := by cases h with | cons h1 h => cases h with | cons h2 h => cases h; exact ⟨_, _, rfl, h1, h2⟩
  exact call_range_2 ⟨_, zQ.push c.sub _ rfl _, _, _, _, _, rfl, zA _ _ _⟩
end
section
variable {prog : Program} {w : World} {X : Fix} {Γ : List (Str × VP)} {ψ ω φ : PM} {s s' : Shared} {k : Nat} {n : Bool} {m : Str → Option Value} {μ : Md}
theorem S.wnew {wr : List Addr} (x : S X m ψ ω s) (cx : CX μ X) (e : Ext (frs X.A) s s') (hw : ∀ b ∈ wr, s.heap.get? b = none) : S X m ψ (zAS ω wr s'.heap) s' := by
  have y := x.back cx e
  refine ⟨y.ext, y.le, y.new, y.sub, y.fram, y.link, y.hnd, y.loc, y.there, y.off, y.fre, fun a o q => ?_, fun p hp => ?_⟩
  · unfold zAS at q
    by_cases z : a ∈ wr
    · rw [if_pos z] at q
      refine ⟨q, zE x.sub (hw a z), x.ext.none (hw a z), fun hft => ?_⟩
      obtain ⟨ob, hob⟩ := x.there a hft
      rw [hw a z] at hob; cases hob
    · rw [if_neg z] at q
      exact y.own a o q
  · obtain ⟨k1, k2, k3, k4, k5⟩ := y.tab p hp
    obtain ⟨j1, _⟩ := x.tab p hp
    exact ⟨k1, k2, k3, by unfold zAS; rw [if_neg (fun z => by rw [hw _ z] at j1; cases j1)]; exact k4, k5⟩
theorem zk {wr : List Addr} {h : Heap} {a : Addr} (h' : a ∉ wr) : zAS ω wr h a = ω a := by unfold zAS; rw [if_neg h']
theorem zBD {wr : List Addr} {h : Heap} {a : Addr} (h' : a ∈ wr) : zAS ω wr h a = h.get? a := by unfold zAS; rw [if_pos h']
noncomputable def forQ (prog : Program) (w : World) (X : Fix) (J : Nat → List (Str × VP) → PM → PM → Prop) (i : Nat) (ω ψi ωi : PM) (rest : List Stmt) (Q : Flow → Shared → Prop) (E : Value → Shared → Prop) : Flow → Shared → Prop
  | .ret v, s => Q (.ret v) s
  | .brk, s => wpAny (model prog w) X.A (execs rest X.env) Q E s
  | _, s => ∃ Γ' ψ' ω', J (i + 1) Γ' ψ' ω' ∧ Le ψi ψ' ∧ B X Γ' ψ' ω' s ∧ ∀ a o, ωi a = some o → ω a = none → ω' a = some o
noncomputable def forE (prog : Program) (w : World) (X : Fix) (E : Value → Shared → Prop) : Value → Shared → Prop := notedBy (model prog w) X.A X.env fun e s' => cameBackBy (model prog w) X.A X.env E e s'
end
structure zCU (prog : Program) (w : World) (A : Around) (ψ : PM) (tgt : Expr) (it : Value) (wr fz : List Addr) (n : Nat) (Tg : Nat → List (Str × VP)) (St : Nat → Heap → Prop) : Prop where
  frame : ∀ i h h', St i h → (∀ b, b ∈ wr ∨ b ∈ fz → ∀ o, h.get? b = some o → h'.get? b = some o) → St i h'
  live : ∀ i h, St i h → ∀ b ∈ wr, ∃ o, h.get? b = some o
  self : ∀ i (s : Shared) (Q : Value → Shared → Prop) (E : Value → Shared → Prop), St i s.heap → Q it s → wpAny (model prog w) A (pyIter it) Q E s
  step : ∀ i X m ψ' ω (s : Shared) (Q : Unit → Shared → Prop) (E : Value → Shared → Prop), i < n → S X m ψ' ω s → Le ψ ψ' → St i s.heap → (∀ b ∈ wr, ∃ o, ω b = some o) → (∀ p ∈ Tg i, zK X p.1) →
    (∀ m' s', S X m' ψ' (zAS ω wr s'.heap) s' → (∀ Γ, Typ Γ ψ' m → Typ (Tg i ++ Γ) ψ' m') → St (i + 1) s'.heap → Q () s') →
    wpAny (model prog w) A (pyNext it) (fun r s1 => ∃ v, r = some v ∧ wpAny (model prog w) A (letOwnedTupleGo tgt it v) (fun _ s2 => wpAny (model prog w) A (assign tgt X.env v) Q E s2) E s1) E s
  done : ∀ X m ψ' ω (s : Shared) (Q : Option Value → Shared → Prop) (E : Value → Shared → Prop), S X m ψ' ω s → Le ψ ψ' → St n s.heap → (∀ b ∈ wr, ∃ o, ω b = some o) →
    (∀ s', S X m ψ' (zAS ω wr s'.heap) s' → Q none s') → wpAny (model prog w) A (pyNext it) Q E s
def Src (prog : Program) (w : World) (μ : Md) (φ : PM) (tgt : Expr) (P : VP) (n : Nat) (Tg : Nat → List (Str × VP)) : Prop :=
  ∀ A ψ s v, Cx μ A ψ s → Le φ ψ → P.p ψ v → wpAny (model prog w) A (pyIter v) (fun it s' => ∃ wr fz St, zCU prog w A ψ tgt it wr fz n Tg St ∧ St 0 s'.heap ∧ (∀ b ∈ wr, s.heap.get? b = none) ∧
    (∀ b ∈ fz, ∃ o, ψ b = some o) ∧ Ext (frs A) s s') (fun _ _ => False) s
section
variable {prog : Program} {w : World} {X : Fix} {Γ : List (Str × VP)} {ψ ω φ : PM} {s s' : Shared} {k : Nat} {n : Bool} {m : Str → Option Value} {μ : Md}
noncomputable def zA8 (x : Str) (items : List VP) (i : Nat) : List (Str × VP) := [(x, (items[i]?).getD zCT)]
def zHW (prog : Program) (w : World) (μ : Md) (sc : Scope) (Γ : List (Str × VP)) (φ : PM) (iter tgt : Expr) (n : Nat) (Tg : Nat → List (Str × VP)) : Prop :=
  ∀ A env m ψ s, env.scope = sc → Cx μ A ψ s → Le φ ψ → zCl env m s.heap → Typ Γ ψ m → wpAny (model prog w) A (eval iter env) (fun v s2 => wpAny (model prog w) A (pyIter v) (fun it s' => ∃ ψ1 s1 wr fz St,
    zQ (frs A) ψ s ψ1 s1 ∧ zCU prog w A ψ1 tgt it wr fz n Tg St ∧ St 0 s'.heap ∧ (∀ b ∈ wr, s1.heap.get? b = none) ∧ (∀ b ∈ fz, ∃ o, ψ1 b = some o) ∧ Ext (frs A) s1 s') (fun _ _ => False) s2) (fun _ _ => False) s
theorem zHW.of {iter tgt : Expr} {P : VP} {nn : Nat} {Tg : Nat → List (Str × VP)} {Γ : List (Str × VP)} {sc : Scope} (hi : Ev prog w μ sc Γ φ iter P) (hI : Src prog w μ φ tgt P nn Tg) : zHW prog w μ sc Γ φ iter tgt nn Tg := by
  intro A env m ψ s he c l f t
  refine (hi A env m ψ s he c l f t).use fun v ψ1 s1 g1 p1 => ?_
  refine zIv (hI A ψ1 s1 v (c.grow g1) (l.trans g1.le) p1) (fun it s' h => ?_) fun _ _ e => e
  obtain ⟨wr, fz, St, V, hst, hnew, hfz, hext⟩ := h
  exact ⟨ψ1, s1, wr, fz, St, g1, V, hst, hnew, hfz, hext⟩
theorem zEV {x : Str} {px : Pos} {P : VP} {items : List VP} (h : Itr prog w μ φ P items) : Src prog w μ φ (.Name x px) P items.length (zA8 x items) := by
  intro A ψ s v c l p
  refine zIv (h A ψ s v c l p) (fun it s' h2 => ?_) fun _ _ e => e
  obtain ⟨I, wr, fz, Pv, St, rfl, V, hst, hnew, hfz, hitem, hext⟩ := h2
  obtain ⟨⟨fp, W, hfp⟩, hlive⟩ := V
  refine ⟨wr, fz, St, ⟨fun i h h' hs hk => W.frame i h h' hs fun b hb o e => hk b (hfp b hb) o e, hlive, W.self, ?_, ?_⟩, hst, hnew, hfz, hext⟩
  · intro i X m ψ' ω s Q E hi x3 le' hst3 hw hk q
    refine W.item i s _ _ hi hst3 fun v h' tk hPv hst' hkeep => ⟨v, rfl, zIu ?_⟩
    obtain ⟨Q', hQ', hq'⟩ := hitem i v hi hPv
    have x4 := x3.wmove (s' := { s with heap := h', toks := tk }) hw ⟨h', tk, rfl⟩ hkeep
    have hk' := hk _ (List.mem_singleton.mpr rfl)
    refine wpAny_assign_Name (x4.store hk' fun s5 x5 => ?_)
    have key : ∀ b ∈ wr, s5.heap.get? b = h'.get? b := fun b hb => by
      obtain ⟨o, ho⟩ := hlive _ _ hst' b hb
      rw [ho]
      exact (x5.own b o (by rw [zBD hb]; exact ho)).1
    have e : zAS ω wr h' = zAS ω wr s5.heap := by
      funext b
      unfold zAS
      by_cases q : b ∈ wr
      · simp [q, key b q]
      · simp [q]
    rw [e] at x5
    refine q _ s5 x5 (fun Γ t => ?_) (W.frame _ _ _ hst' fun b hb o ho => ?_)
    · have : zA8 x items i = [(x, Q')] := by unfold zA8; rw [hQ']; rfl
      rw [this]
      exact t.cons (Q'.mono le' hq')
    · rcases hfp b hb with z | z
      · rw [key b z]; exact ho
      · obtain ⟨o', ho'⟩ := hfz b z
        have h1 : h'.get? b = some o' := x4.sub b o' (le' _ _ ho')
        rw [ho] at h1; cases h1
        exact x5.sub b o (le' _ _ ho')
  · intro X m ψ' ω s Q E x le' hst3 hw q
    exact W.done s _ _ hst3 fun h' tk hkeep => q _ (x.wmove (s' := { s with heap := h', toks := tk }) hw ⟨h', tk, rfl⟩ hkeep)
noncomputable def zBM (scope sc : Scope) : Scope := { scope with names := scope.names.map fun (n, k) => if (k == .free && sc.names.lookup n == some .cell) then (n, .cell) else (n, k) }
theorem zDv {env : Env} {sc scope : Scope} (he : env.scope = sc) (hf : env.scope.kind = .function) : relabel scope env = zBM scope sc := by
  unfold relabel zBM
  have : ∀ n, env.kindOf n = sc.names.lookup n := fun n => by rw [← he]; rfl
  simp only [this, hf]
  congr 1
  congr 1
  funext ⟨n, k⟩
  have : (ScopeKind.function == ScopeKind.function) = true := rfl
  simp [this]
noncomputable def own (scope : Scope) (x : Str) : Bool := scope.names.lookup x == some .local || scope.names.lookup x == some .cell
noncomputable def isCF : Option NameKind → Bool
  | some .cell | some .free => true
  | _ => false
noncomputable def zf (sc scope : Scope) : Bool := scope.kind == .function && scope.names.all fun p => match p.2 with
  | .cell => scope.names.lookup p.1 == some .cell
  | .local => scope.names.lookup p.1 == some .local
  | .free => scope.names.lookup p.1 == some .free && isCF (sc.names.lookup p.1)
  | _ => true
noncomputable def zBQ (scope : Scope) (Γ : List (Str × VP)) : List (Str × VP) := Γ.filter fun p => !own scope p.1
theorem zDY {f : Str × NameKind → Str × NameKind} (hf : ∀ p, (f p).1 = p.1) : ∀ (names : List (Str × NameKind)) (x : Str) {k : NameKind}, names.lookup x = some k → (names.map f).lookup x = some (f (x, k)).2
  | [], x, k, h => by cases h
  | (n, k') :: r, x, k, h => by
    rw [List.map_cons]
    have e := hf (n, k')
    rw [List.lookup_cons] at h
    cases q : x == n with
    | true =>
      rw [q] at h
      cases h
      have hn : x = n := by simpa using q
      subst hn
      generalize hg : f (x, k') = g at e
      obtain ⟨g1, g2⟩ := g
      simp only at e
      subst e
      simp [List.lookup_cons]
    | false =>
      rw [q] at h
      generalize hg : f (n, k') = g at e
      obtain ⟨g1, g2⟩ := g
      simp only at e
      subst e
      rw [List.lookup_cons, q]
      exact zDY hf r x h
theorem zBB {f : Str × NameKind → Str × NameKind} (hf : ∀ p, (f p).1 = p.1) : ∀ (names : List (Str × NameKind)) (x : Str), names.lookup x = none → (names.map f).lookup x = none
  | [], x, h => rfl
  | (n, k') :: r, x, h => by
    rw [List.map_cons]
    have e := hf (n, k')
    rw [List.lookup_cons] at h
    cases q : x == n with
    | true => rw [q] at h; cases h
    | false =>
      rw [q] at h
      generalize hg : f (n, k') = g at e
      obtain ⟨g1, g2⟩ := g
      simp only at e
      subst e
      rw [List.lookup_cons, q]
      exact zBB hf r x h
theorem zAu {scope sc : Scope} {x : Str} {k : NameKind} (h : scope.names.lookup x = some k) : (zBM scope sc).names.lookup x = some (if (k == .free && sc.names.lookup x == some .cell) then .cell else k) := by
  have := zDY (f := fun (n, k) => if (k == .free && sc.names.lookup n == some .cell) then (n, .cell) else (n, k)) (fun p => by obtain ⟨a, b⟩ := p; dsimp only; split <;> rfl) scope.names x h
  rw [show (zBM scope sc).names = scope.names.map fun (n, k) => if (k == .free && sc.names.lookup n == some .cell) then (n, .cell) else (n, k) from rfl, this]
  dsimp only
  split <;> rfl
theorem zEx {scope sc : Scope} {x : Str} (h : scope.names.lookup x = none) : (zBM scope sc).names.lookup x = none :=
  zBB (f := fun (n, k) => if (k == .free && sc.names.lookup n == some .cell) then (n, .cell) else (n, k)) (fun p => by obtain ⟨a, b⟩ := p; dsimp only; split <;> rfl) scope.names x h
noncomputable def zE6 (env : Env) : List (Str × NameKind) → List (Str × Addr) → List (Str × Addr)
  | [], acc => acc
  | (n, k) :: r, acc => if k == .free then zE6 env r ((n, (env.cells.lookup n).getD 0) :: acc) else zE6 env r acc
theorem zBo {env : Env} {n : Str} {k : NameKind} {r : List (Str × NameKind)} {acc : List (Str × Addr)} : zE6 env ((n, k) :: r) acc = if k == .free then zE6 env r ((n, (env.cells.lookup n).getD 0) :: acc) else zE6 env r acc := rfl
theorem zFd {env : Env} : ∀ (names : List (Str × NameKind)) (acc : List (Str × Addr)), (∀ p ∈ names, p.2 = .free → ∃ c, env.cells.lookup p.1 = some c) → (forIn names acc fun (x : Str × NameKind) (r : List (Str × Addr)) => (match x with | (name, kind) => if (kind == NameKind.free) = true then do let a ← cellOf env name; pure (ForInStep.yield ((name, a) :: r)) else pure (ForInStep.yield r) : Sem (ForInStep (List (Str × Addr))))) = pure (zE6 env names acc)
  | [], acc, _ => by rw [List.forIn_nil]; rfl
  | (n, k) :: r, acc, h => by
    rw [List.forIn_cons]
    rw [zBo]
    by_cases q : (k == .free) = true
    · obtain ⟨c, hc⟩ := h _ (List.mem_cons_self ..) (by simpa using q)
      simp only [q, if_true]
      have hcell : cellOf env n = pure c := by unfold cellOf; rw [hc]
      rw [hcell]
      have e : (env.cells.lookup n).getD 0 = c := by simp only at hc; rw [hc]; rfl
      rw [e]
      show (pure _ >>= _) = _
      simp only [pure_bind]
      exact zFd r _ fun p hp => h p (List.mem_cons_of_mem _ hp)
    · simp only [q]
      simp only [Bool.false_eq_true, if_false, pure_bind]
      exact zFd r _ fun p hp => h p (List.mem_cons_of_mem _ hp)
theorem zD6 {env : Env} {scope : Scope} (h : ∀ p ∈ scope.names, p.2 = .free → ∃ c, env.cells.lookup p.1 = some c) : closureFor scope env = pure (zE6 env scope.names []) := by
  unfold closureFor
  have := zFd scope.names [] h
  simp only [bind_pure]
  exact this
theorem zEQ {env : Env} : ∀ (names : List (Str × NameKind)) (acc : List (Str × Addr)) {n : Str} {c : Addr}, (n, c) ∈ zE6 env names acc → (n, c) ∈ acc ∨ ((n, NameKind.free) ∈ names ∧ c = (env.cells.lookup n).getD 0)
  | [], acc, n, c, h => .inl h
  | (x, k) :: r, acc, n, c, h => by
    rw [zBo] at h
    by_cases q : (k == .free) = true
    · rw [if_pos q] at h
      have qk : k = .free := by simpa using q
      rcases zEQ r _ h with h | ⟨h, e⟩
      · rcases List.mem_cons.mp h with h | h
        · cases h; exact .inr ⟨by rw [qk]; exact List.mem_cons_self .., rfl⟩
        · exact .inl h
      · exact .inr ⟨List.mem_cons_of_mem _ h, e⟩
    · rw [if_neg q] at h
      rcases zEQ r _ h with h | ⟨h, e⟩
      · exact .inl h
      · exact .inr ⟨List.mem_cons_of_mem _ h, e⟩
theorem zEL {env : Env} : ∀ (names : List (Str × NameKind)) (acc : List (Str × Addr)) {p : Str × Addr}, p ∈ acc → p ∈ zE6 env names acc
  | [], acc, p, h => h
  | (x, k) :: r, acc, p, h => by
    rw [zBo]
    split
    · exact zEL r _ (List.mem_cons_of_mem _ h)
    · exact zEL r _ h
theorem zFb {env : Env} : ∀ (names : List (Str × NameKind)) (acc : List (Str × Addr)) {n : Str}, (n, NameKind.free) ∈ names → ∃ c, (n, c) ∈ zE6 env names acc
  | (x, k) :: r, acc, n, h => by
    rw [zBo]
    rcases List.mem_cons.mp h with h | h
    · cases h
      rw [if_pos (by rfl)]
      exact ⟨_, zEL r _ (List.mem_cons_self ..)⟩
    · split
      · exact zFb r _ h
      · exact zFb r _ h
theorem zBp {α : Type} : ∀ {l : List (Str × α)} {n : Str} {c : α}, (n, c) ∈ l → ∃ d, l.lookup n = some d
  | (x, d) :: r, n, c, h => by
    rw [List.lookup_cons]
    cases q : n == x with
    | true => exact ⟨d, rfl⟩
    | false =>
      rcases List.mem_cons.mp h with h | h
      · cases h; simp at q
      · exact zBp h
theorem ze : ∀ (N : Nat) (names : List (Str × NameKind)) (acc : List (Str × Addr)), cellsFrom N names acc = cellsFrom N names [] ++ acc
  | N, [], acc => rfl
  | N, (x, k) :: r, acc => by
    unfold cellsFrom
    split
    · rw [ze (N + 1) r ((x, N) :: acc), ze (N + 1) r [(x, N)]]
      simp
    · exact ze N r acc
theorem zAg : ∀ (N : Nat) (names : List (Str × NameKind)) {x : Str} {c : Addr}, (x, c) ∈ cellsFrom N names [] → (x, NameKind.cell) ∈ names
  | N, [], x, c, h => by cases h
  | N, (y, k) :: r, x, c, h => by
    unfold cellsFrom at h
    by_cases q : (k == .cell) = true
    · rw [if_pos q, ze] at h
      have qk : k = .cell := by simpa using q
      rcases List.mem_append.mp h with h | h
      · exact List.mem_cons_of_mem _ (zAg _ r h)
      · have := List.mem_singleton.mp h; cases this; rw [qk]; exact List.mem_cons_self ..
    · rw [if_neg q] at h
      exact List.mem_cons_of_mem _ (zAg _ r h)
end
section
variable {prog : Program} {w : World} {X : Fix} {Γ : List (Str × VP)} {ψ ω φ : PM} {s s' : Shared} {k : Nat} {n : Bool} {m : Str → Option Value} {μ : Md} {A : Around} {env : Env} {sc scope : Scope}
noncomputable def m0 (scope : Scope) (m : Str → Option Value) : Str → Option Value := fun x => if own scope x = true then none else m x
noncomputable def zBE (scope : Scope) (env : Env) (C : Addr) : Env := { newEnv scope C env.globals (cellsFrom (C + 1) scope.names (zE6 env scope.names [])) env.qual none .none (some env) builtinsNs with scope := relabel scope env }
theorem typ_seen (t : Typ Γ ψ m) : Typ (zBQ scope Γ) ψ (m0 scope m) := by
  intro x P h
  have key : ∀ (l : List (Str × VP)), (l.filter fun p => !own scope p.1).lookup x = some P → own scope x = false ∧ l.lookup x = some P := by
    intro l
    induction l with
    | nil => intro h; cases h
    | cons p r ih =>
      obtain ⟨y, Q⟩ := p
      intro h
      rw [List.filter_cons] at h
      by_cases q : (!own scope y) = true
      · simp only [q, if_true] at h
        rw [List.lookup_cons] at h ⊢
        cases z : x == y with
        | true =>
          rw [z] at h
          have : x = y := by simpa using z
          subst this
          exact ⟨by simpa using q, h⟩
        | false => rw [z] at h; exact ih h
      · simp only [q, if_false] at h
        obtain ⟨h1, h2⟩ := ih h
        refine ⟨h1, ?_⟩
        rw [List.lookup_cons]
        cases z : x == y with
        | true =>
          have : x = y := by simpa using z
          subst this
          rw [h1] at q; simp at q
        | false => exact h2
  obtain ⟨h1, h2⟩ := key Γ h
  obtain ⟨v, a, b⟩ := t x P h2
  exact ⟨v, by unfold m0; rw [h1]; simpa using a, b⟩
theorem zCD (hok : zf sc scope = true) {p : Str × NameKind} (hp : p ∈ scope.names) : (match p.2 with
  | .cell => scope.names.lookup p.1 == some .cell
  | .local => scope.names.lookup p.1 == some .local
  | .free => scope.names.lookup p.1 == some .free && isCF (sc.names.lookup p.1)
  | _ => true) = true := by
  unfold zf at hok
  rw [Bool.and_eq_true] at hok
  exact List.all_eq_true.mp hok.2 p hp
theorem zCv (hok : zf sc scope = true) : scope.kind = .function := by
  unfold zf at hok
  rw [Bool.and_eq_true] at hok
  simpa using hok.1
theorem zBg (hok : zf sc scope = true) {x : Str} (h : (x, NameKind.free) ∈ scope.names) : scope.names.lookup x = some .free ∧ (sc.names.lookup x = some .cell ∨ sc.names.lookup x = some .free) := by
  have := zCD hok h
  simp only [Bool.and_eq_true, beq_iff_eq] at this
  refine ⟨this.1, ?_⟩
  have h2 := this.2
  cases q : sc.names.lookup x with
  | none => rw [q] at h2; cases h2
  | some k => rw [q] at h2; cases k <;> first | exact .inl rfl | exact .inr rfl | cases h2
theorem zFu (hok : zf sc scope = true) {x : Str} (h : (x, NameKind.cell) ∈ scope.names) : scope.names.lookup x = some .cell := by
  have := zCD hok h
  simpa using this
theorem zFK (hok : zf sc scope = true) {x : Str} (h : (x, NameKind.local) ∈ scope.names) : scope.names.lookup x = some .local := by
  have := zCD hok h
  simpa using this
theorem zFB (f : zCl env m s.heap) (he : env.scope = sc) (hok : zf sc scope = true) {x : Str} (h : (x, NameKind.free) ∈ scope.names) : ∃ c, env.cells.lookup x = some c ∧ s.heap.IsCell c (m x) := by
  have h2 := (zBg hok h).2
  have e : env.kindOf x = sc.names.lookup x := by rw [← he]; rfl
  exact f.cel x (by rw [e]; exact h2)
theorem zAs (f : zCl env m s.heap) (he : env.scope = sc) (hok : zf sc scope = true) {x : Str} {c : Addr} (h : (x, c) ∈ zE6 env scope.names []) : (x, NameKind.free) ∈ scope.names ∧ env.cells.lookup x = some c ∧ s.heap.IsCell c (m x) := by
  rcases zEQ _ _ h with h | ⟨h, e⟩
  · cases h
  · obtain ⟨d, hd, hi⟩ := zFB f he hok h
    rw [hd] at e
    have e' : c = d := e
    subst e'
    exact ⟨h, hd, hi⟩
theorem comp_env {cl : List (Str × Addr)} {Q : Env → Shared → Prop} {E : Value → Shared → Prop} (h : Q (newEnv scope s.heap.objs.size env.globals (cellsFrom (s.heap.objs.size + 1) scope.names cl) env.qual none .none (some env) builtinsNs)
      { s with heap := pushCells (s.heap.push { cls := .type "dict", data := .dict #[] }) scope.names }) :
    wpAny (model prog w) A (newFunctionEnv scope env.globals cl [] env.qual none .none (some env)) Q E s := by
  simp only [newFunctionEnv, Option.isSome_some, if_true]
  refine zIt (wpAny_alloc ?_)
  refine zIt (wpAny_layCells _ (fun name kind cells => by cases hkc : kind == NameKind.cell <;> simp [hkc]) _ _ _ _ ?_)
  rw [show ({ s with heap := s.heap.push { cls := .type "dict", data := .dict #[] } } : Shared).heap.objs.size = s.heap.objs.size + 1 from Heap.size_push ..]
  simp only [List.forIn_nil]
  exact zIt (zIu (zIu h))
theorem S_comp {ω₀ : PM} {s1 s3 : Shared} (f : zCl env m s1.heap) (he : env.scope = sc) (hok : zf sc scope = true) (hsub : Sub ψ s1.heap) (ext : Ext (frs A) s1 s3) (hoff : ∀ b ∈ frs A, ψ b = none) (ho : ∀ a o, ω₀ a = some o → s3.heap.get? a = some o ∧ s1.heap.get? a = none) : S ⟨A, A, ψ, s1, s3.heap.objs.size :: (cellsFrom (s3.heap.objs.size + 1) scope.names []).map (·.2), zBE scope env s3.heap.objs.size, none, []⟩ (m0 scope m) ψ ω₀
      { s3 with heap := pushCells (s3.heap.push { cls := .type "dict", data := .dict #[] }) scope.names } := by
  have f3 := f.ext ext
  have keep : ∀ b o, s3.heap.get? b = some o → (pushCells (s3.heap.push { cls := .type "dict", data := .dict #[] }) scope.names).get? b = some o := fun b o e => pushCells_keeps _ _ b o (Heap.get?_push_of_some _ e)
  have ok := cellsFrom_ok scope.names (s3.heap.push { cls := .type "dict", data := .dict #[] }) (s3.heap.objs.size + 1) [] ⟨fun _ _ hm => (nomatch hm), List.Pairwise.nil⟩ (by rw [Heap.size_push]; exact Nat.le_refl _)
  rw [Heap.size_push] at ok
  have newNone : ∀ c, s3.heap.objs.size ≤ c → s3.heap.get? c = none := fun c hc => Heap.get?_none_of_le hc
  have newNone1 : ∀ c, s3.heap.objs.size ≤ c → s1.heap.get? c = none := fun c hc => ext.none (newNone c hc)
  have e2 : Ext (frs A) s3 { s3 with heap := pushCells (s3.heap.push { cls := .type "dict", data := .dict #[] }) scope.names } := Ext.of_keeps (tk := s3.toks) keep
  have ext' := ext.trans e2
  have hlook : ∀ x c, (cellsFrom (s3.heap.objs.size + 1) scope.names (zE6 env scope.names [])).lookup x = some c → ((x, c) ∈ cellsFrom (s3.heap.objs.size + 1) scope.names []) ∨ ((x, c) ∈ zE6 env scope.names []) := fun x c h => by
    have := mem_of_lookup h
    rw [ze] at this
    exact List.mem_append.mp this
  have hk : (zBE scope env s3.heap.objs.size).scope = zBM scope sc := zDv he f.fn
  have hkind : ∀ x, (zBE scope env s3.heap.objs.size).kindOf x = (zBM scope sc).names.lookup x := fun x => by show (zBE scope env s3.heap.objs.size).scope.names.lookup x = _; rw [hk]
  refine ⟨ext', Le.refl _, fun _ _ e => .inl e, ext'.sub hsub hoff, ?_, .same, (fun e he => by cases he), List.mem_cons_self .., ?_, ?_, ?_, (fun a o e => ?_), (fun p hp => by cases hp)⟩
  · refine ⟨(zCv hok : scope.kind = .function), f.gl, f.bi, ⟨fun _ => none, ?_, fun x hx => ?_⟩, fun x hx => ?_, fun x y c hx hy => ?_, fun x c hx => ?_⟩
    · exact (Heap.Ns.new s3.heap (.type "dict")).keeps (pushCells_keeps _ _)
    · rw [hkind] at hx
      cases q : scope.names.lookup x with
      | none => rw [zEx q] at hx; cases hx
      | some kk =>
        rw [zAu q] at hx
        have : own scope x = true := by
          unfold own
          rw [q]
          cases kk <;> simp at hx ⊢
          split at hx <;> cases hx
        unfold m0; rw [this]; rfl
    · rw [hkind] at hx
      cases q : scope.names.lookup x with
      | none => rw [zEx q] at hx; rcases hx with hx | hx <;> cases hx
      | some kk =>
        rw [zAu q] at hx
        by_cases qc : kk = .cell
        · subst qc
          have hsome := cellsFrom_some scope.names (s3.heap.objs.size + 1) (zE6 env scope.names []) (.inl q)
          obtain ⟨c, hc⟩ := Option.isSome_iff_exists.mp hsome
          refine ⟨c, hc, ?_⟩
          have hown : own scope x = true := by unfold own; rw [q]; rfl
          have hm : m0 scope m x = none := by unfold m0; rw [hown]; rfl
          rw [hm]
          rcases hlook x c hc with h | h
          · exact (ok.empty x c h).1
          · have := (zAs f he hok h).1
            rw [(zBg hok this).1] at q; cases q
        · have qf : kk = .free := by
            cases kk <;> first | rfl | exact absurd rfl qc | (simp at hx)
          subst qf
          have hmem := mem_of_lookup q
          obtain ⟨c0, hc0⟩ := zFb scope.names [] (env := env) hmem
          have hsome := cellsFrom_some (x := x) scope.names (s3.heap.objs.size + 1) (zE6 env scope.names []) (.inr (by obtain ⟨d, hd⟩ := zBp hc0; rw [hd]; rfl))
          obtain ⟨c, hc⟩ := Option.isSome_iff_exists.mp hsome
          refine ⟨c, hc, ?_⟩
          have hown : own scope x = false := by unfold own; rw [q]; rfl
          have hm : m0 scope m x = m x := by unfold m0; rw [hown]; rfl
          rw [hm]
          rcases hlook x c hc with h | h
          · have := zFu hok (zAg _ _ h)
            rw [q] at this; cases this
          · exact e2.cell (zAs f3 he hok h).2.2
    · rcases hlook x c hx with h | h <;> rcases hlook y c hy with h' | h'
      · exact name_of_addr ok.apart h h'
      · obtain ⟨o, ho', _⟩ := (zAs f3 he hok h').2.2
        rw [newNone c (Nat.le_of_succ_le (ok.empty x c h).2)] at ho'; cases ho'
      · obtain ⟨o, ho', _⟩ := (zAs f3 he hok h).2.2
        rw [newNone c (Nat.le_of_succ_le (ok.empty y c h').2)] at ho'; cases ho'
      · exact f.inj x y c (zAs f he hok h).2.1 (zAs f he hok h').2.1
    · rcases hlook x c hx with h | h
      · exact fun q => by
          have := (ok.empty x c h).2
          have q' : c = s3.heap.objs.size := q
          rw [q'] at this; exact Nat.lt_irrefl _ this
      · obtain ⟨o, ho', _⟩ := (zAs f3 he hok h).2.2
        exact Nat.ne_of_lt (Heap.lt_size ho')
  · intro c hc
    rcases List.mem_cons.mp hc with rfl | hc
    · obtain ⟨o, _, _, h, _⟩ := (Heap.Ns.new s3.heap (.type "dict")).keeps (pushCells_keeps scope.names _)
      exact ⟨o, h⟩
    · obtain ⟨⟨y, c'⟩, hy, rfl⟩ := List.mem_map.mp hc
      obtain ⟨o, h, _⟩ := (ok.empty y c' hy).1
      exact ⟨o, h⟩
  · intro c hc
    have : s3.heap.objs.size ≤ c := by
      rcases List.mem_cons.mp hc with rfl | hc
      · exact Nat.le_refl _
      · obtain ⟨⟨y, c'⟩, hy, rfl⟩ := List.mem_map.mp hc
        exact Nat.le_of_succ_le (ok.empty y c' hy).2
    exact ⟨zE hsub (newNone1 c this), newNone1 c this⟩
  · intro x c hx hnin
    rcases hlook x c hx with h | h
    · exact absurd (List.mem_cons_of_mem _ (List.mem_map.mpr ⟨_, h, rfl⟩)) hnin
    · obtain ⟨o, ho', _⟩ := (zAs f he hok h).2.2
      exact ⟨o, ho'⟩
  · obtain ⟨h1, h2⟩ := ho a o e
    refine ⟨keep a o h1, zE hsub h2, h2, fun hc => ?_⟩
    have : s3.heap.objs.size ≤ a := by
      rcases List.mem_cons.mp hc with rfl | hc
      · exact Nat.le_refl _
      · obtain ⟨⟨y, c'⟩, hy, rfl⟩ := List.mem_map.mp hc
        exact Nat.le_of_succ_le (ok.empty y c' hy).2
    rw [newNone a this] at h1; cases h1
def compR (X : Fix) (acc : Addr) (L : List VP) (r : Result) (s' : Shared) : Prop := r = .ok .next ∧ ∃ m' ψ' ω' vs j, S X m' ψ' ω' s' ∧ ω' acc = some (lst vs j) ∧ zO (fun (P : VP) v => P.p ψ' v) L vs
structure CompIn (prog : Program) (w : World) (φ : PM) (Γ : List (Str × VP)) (sc scope : Scope) (k : Nat) (b : Bool) (tgt : Expr) (nn : Nat) (Tg : Nat → List (Str × VP)) (X : Fix) (it : Value) (acc : Addr) (wr fz : List Addr) (St : Nat → Heap → Prop) (m : Str → Option Value) (ω : PM) (s : Shared) : Prop where
  cx : CX ⟨k, b⟩ X
  le : Le φ X.ψ₀
  sc : X.env.scope = zBM scope sc
  steps : zCU prog w X.A X.ψ₀ tgt it wr fz nn Tg St
  st : St 0 s.heap
  fzO : ∀ b ∈ fz, ∃ o, X.ψ₀ b = some o
  st0 : S X m X.ψ₀ ω s
  typ : Typ (zBQ scope Γ) X.ψ₀ m
  sto : ∀ x, own scope x = true → zK X x
  wrO : ∀ b ∈ wr, ∃ o, ω b = some o
  accO : ω acc = some (lst [] 0)
  ne : acc ∉ wr
theorem zDl {e : Expr} {g : Comprehension} {gs : List Comprehension} {nn : Nat} {Tg : Nat → List (Str × VP)} {b : Bool} {pos : Pos} {use : Option (Value → Sem Unit)} {Q : Value → Shared → Prop} {E : Value → Shared → Prop} {L : List VP} (hcl : clausesOf e = g :: gs) (hs : ∀ x, foldedSetIterable g.iter env x = pure x) (he : env.scope = sc) (c : Cx ⟨k + 1, b⟩ A ψ s) (le : Le φ ψ) (f : zCl env m s.heap) (t : Typ Γ ψ m) (hI : zHW prog w ⟨k + 1, b⟩ sc Γ φ g.iter g.target nn Tg) (hok : zf sc scope = true) (loop : ∀ X it acc wr fz St m ω s, X.A₀ = A → X.A = A → CompIn prog w φ Γ sc scope k b g.target nn Tg X it acc wr fz St m ω s → codeAny (model prog w) A (.compStart e 0 it (.ref acc) X.env) (compR X acc L) s) (fin : ∀ acc C ψ' s' m', zQ (frs A) ψ s ψ' s' → (zB L).p ψ' acc → s.heap.get? C = none → ψ' C = none → s'.heap.Ns C m' → compPost (model prog w) A E use Q acc C (.ok .next) s') : wpAny (model prog w) A (comprehension e scope env pos (newList []) false (eval g.iter env) use) Q E s := by
  have hfree : ∀ p ∈ scope.names, p.2 = .free → ∃ c, env.cells.lookup p.1 = some c := fun p hp q => by
    obtain ⟨x, kk⟩ := p
    simp only at q
    subst q
    obtain ⟨c, hc, _⟩ := zFB f he hok hp
    exact ⟨c, hc⟩
  refine wpAny_comprehension_free hcl hs (zD6 hfree) (zCv hok) (fun x hx q => by obtain ⟨y, kk⟩ := x; simp only at q; subst q; exact zFK hok hx) ?_
  refine zIv (hI A env m ψ s he c le f t) (fun v s0 h0 => zIv h0 (fun it s2 h2 => ?_) fun _ _ e => e.elim) fun _ _ e => e.elim
  obtain ⟨ψ1, s1, wr, fz, St, g1, V, hst, hnew, hfz, hext⟩ := h2
  have c1 := c.grow g1
  refine wpAny_newObj_type ?_ (by show ([] : List Value).toArray.size ≤ sizeLine; exact Nat.zero_le _)
  refine comp_env ?_
  generalize hs3 : ({ s2 with heap := s2.heap.push { cls := .type "list", dict := none, data := .seq ([] : List Value).toArray } } : Shared) = s3
  have k23 : ∀ b o, s2.heap.get? b = some o → s3.heap.get? b = some o := fun b o e => by rw [← hs3]; exact Heap.get?_push_of_some _ e
  have ext3 : Ext (frs A) s1 s3 := hext.trans (by rw [← hs3]; exact Ext.of_keeps (tk := s2.toks) fun b o e => Heap.get?_push_of_some _ e)
  have hacc3 : s3.heap.get? s2.heap.objs.size = some (lst [] 0) := by rw [← hs3]; exact Heap.get?_push_size _ rfl
  have hlive := V.live 0 _ hst
  have haccwr : s2.heap.objs.size ∉ wr := fun hm => by obtain ⟨o, ho⟩ := hlive _ hm; exact Nat.lt_irrefl _ (Heap.lt_size ho)
  let ω₀ : PM := fun a => if a = s2.heap.objs.size then some (lst [] 0) else if a ∈ wr then s2.heap.get? a else none
  have ho : ∀ a o, ω₀ a = some o → s3.heap.get? a = some o ∧ s1.heap.get? a = none := fun a o e => by
    by_cases q : a = s2.heap.objs.size
    · subst q
      simp [ω₀] at e
      rw [← e]
      exact ⟨hacc3, hext.none (zF _)⟩
    · by_cases z : a ∈ wr
      · simp [ω₀, q, z] at e
        exact ⟨k23 a o e, hnew a z⟩
      · simp [ω₀, q, z] at e
  have Y := S_comp (A := A) (ω₀ := ω₀) (f.ext g1.ext) he hok g1.sub ext3 c1.off ho
  generalize hs4 : ({ s3 with heap := pushCells (s3.heap.push { cls := .type "dict", data := .dict #[] }) scope.names } : Shared) = s4 at Y ⊢
  have k34 : ∀ b o, s3.heap.get? b = some o → s4.heap.get? b = some o := fun b o e => by rw [← hs4]; exact pushCells_keeps _ _ b o (Heap.get?_push_of_some _ e)
  have hst4 : St 0 s4.heap := V.frame _ _ _ hst fun b _ o e => k34 _ _ (k23 b o e)
  have hk : (zBE scope env s3.heap.objs.size).scope = zBM scope sc := zDv he f.fn
  have hstores : ∀ x, own scope x = true → zK ⟨A, A, ψ1, s1, s3.heap.objs.size :: (cellsFrom (s3.heap.objs.size + 1) scope.names []).map (·.2), zBE scope env s3.heap.objs.size, none, []⟩ x := fun x hx => by
    have e : (zBE scope env s3.heap.objs.size).kindOf x = (zBM scope sc).names.lookup x := by show (zBE scope env s3.heap.objs.size).scope.names.lookup x = _; rw [hk]
    unfold own at hx
    simp only [Bool.or_eq_true, beq_iff_eq] at hx
    rcases hx with hx | hx
    · refine .inl ?_
      show (zBE scope env s3.heap.objs.size).kindOf x = _
      rw [e, zAu hx]; rfl
    · refine .inr ⟨?_, fun cc hcc => ?_⟩
      · show (zBE scope env s3.heap.objs.size).kindOf x = _
        rw [e, zAu hx]; rfl
      · have hcc' : (cellsFrom (s3.heap.objs.size + 1) scope.names (zE6 env scope.names [])).lookup x = some cc := hcc
        have := mem_of_lookup hcc'
        rw [ze] at this
        rcases List.mem_append.mp this with h | h
        · exact List.mem_cons_of_mem _ (List.mem_map.mpr ⟨_, h, rfl⟩)
        · have := (zAs f he hok h).1
          rw [(zBg hok this).1] at hx; cases hx
  have I : CompIn prog w φ Γ sc scope k b g.target nn Tg ⟨A, A, ψ1, s1, s3.heap.objs.size :: (cellsFrom (s3.heap.objs.size + 1) scope.names []).map (·.2), zBE scope env s3.heap.objs.size, none, []⟩ it s2.heap.objs.size wr fz St (m0 scope m) ω₀ s4 :=
    ⟨CX.of c1 rfl, le.trans g1.le, hk, V, hst4, hfz, Y, typ_seen (t.le g1.le), hstores, fun b hb => by
      obtain ⟨o, ho⟩ := hlive b hb
      refine ⟨o, ?_⟩
      have : b ≠ s2.heap.objs.size := fun q => haccwr (q ▸ hb)
      simp [ω₀, this, hb, ho], by simp [ω₀], haccwr⟩
  have L1 := loop _ it _ wr fz St _ ω₀ s4 rfl rfl I
  refine codeAny_mono L1 fun r s5 hr => ?_
  obtain ⟨rfl, m5, ψ5, ω5, vs, j, Y5, hacc5, hall⟩ := hr
  have hC : s3.heap.objs.size ∈ s3.heap.objs.size :: (cellsFrom (s3.heap.objs.size + 1) scope.names []).map (·.2) := List.mem_cons_self ..
  obtain ⟨h1, h2, h3, h4⟩ := Y5.own _ _ hacc5
  have hne : s2.heap.objs.size ≠ s3.heap.objs.size := fun q => h4 (by rw [q]; exact hC)
  obtain ⟨ml, hns, _⟩ := Y5.fram.loc
  refine fin (.ref s2.heap.objs.size) s3.heap.objs.size (put ψ5 s2.heap.objs.size (lst vs j)) s5 ml ?_ ?_ ?_ ?_ hns
  · refine g1.trans ⟨Y5.ext, Y5.le.trans (zL h2), Sub.put Y5.sub h1, fun b o e => ?_⟩
    by_cases q : b = s2.heap.objs.size
    · subst q; exact .inr h3
    · rw [zC q] at e; exact Y5.new b o e
  · exact ⟨_, vs, j, rfl, zA _ _ _, hall.imp fun P v x => P.mono (zL h2) x⟩
  · exact g1.ext.none (Y5.off _ hC).2
  · rw [zC (Ne.symm hne)]; exact (Y5.off _ hC).1
end
section
variable {prog : Program} {w : World} {X : Fix} {Γ : List (Str × VP)} {ψ ω φ : PM} {s s' : Shared} {k : Nat} {b : Bool} {m : Str → Option Value} {μ : Md} {A : Around} {env : Env} {sc scope : Scope}
def EvT (prog : Program) (w : World) (μ : Md) (sc : Scope) (Γ : List (Str × VP)) (φ : PM) (ifs : List Expr) (r : Bool) : Prop :=
  ∀ A env m ψ s, env.scope = sc → Cx μ A ψ s → Le φ ψ → zCl env m s.heap → Typ Γ ψ m →
    wpAny (model prog w) A (forIn ifs true fun c r => if r = true then do let ok ← isTrue c env (eval c env); pure (ForInStep.yield ok) else pure (ForInStep.yield r)) (fun r' s' => r' = r ∧ ∃ ψ', zQ (frs A) ψ s ψ' s') (fun _ _ => False) s
theorem evt_nil : EvT prog w μ sc Γ φ [] true := fun A env m ψ s he c l f t => wpAny_tests_nil ⟨rfl, ψ, zQ.refl c.sub⟩
theorem evt_one {c : Expr} {r : Bool} (h : EvB prog w μ sc Γ φ c r) : EvT prog w μ sc Γ φ [c] r := fun A env m ψ s he cx l f t => wpAny_tests_one (h A env m ψ s he cx l f t)
theorem zFC {Tg : List (Str × VP)} (hT : ∀ p ∈ Tg, own scope p.1 = true) {ψ : PM} {m : Str → Option Value} (t : Typ (Tg ++ zBQ scope Γ) ψ m) : Typ (zBQ scope Γ) ψ m := by
  refine t.sub fun x P h => ?_
  have hx : own scope x = false := by
    have := mem_of_lookup h
    have := (List.mem_filter.mp this).2
    simpa using this
  rw [List.lookup_append]
  have : Tg.lookup x = none := by
    cases q : Tg.lookup x with
    | none => rfl
    | some Q => have := hT _ (mem_of_lookup q); simp only at this; rw [hx] at this; cases this
  rw [this]
  simpa using h
theorem S.appendOwn {a : Addr} {vs : List Value} {j : Nat} {v : Value} {Q : Value → Shared → Prop} {E : Value → Shared → Prop} (x : S X m ψ ω s) (ha : ω a = some (lst vs j)) (hsz : vs.length ≤ sizeLine) (h : ∀ s' j', S X m ψ (put ω a (lst (vs ++ [v]) j')) s' → (∀ b o, b ≠ a → s.heap.get? b = some o → s'.heap.get? b = some o) → Q .none s') : wpAny (model prog w) A (call (.builtin "list.append") [.ref a, v]) Q E s := by
  refine wpAny_list_append_plain (items := vs.toArray) ⟨j, (x.own _ _ ha).1⟩ (fun h' hp hs => ?_) (by rw [List.size_toArray]; exact hsz)
  obtain ⟨j', hj⟩ := hp
  refine h _ j' (x.sameBut ha ⟨h', s.toks, rfl⟩ (fun b ob hb e => (hs.2 b hb).trans e) ?_) fun b o hb e => (hs.2 b hb).trans e
  rw [hj]
  simp [lst]
def Tn (X : Fix) (acc : Addr) (wr ks : List Addr) (St : Nat → Heap → Prop) (Γ : List (Str × VP)) (ψ ω : PM) (vs : List Value) (i : Nat) (L : List VP) (s' : Shared) : Prop :=
  ∃ m' ψ' ω' vs' j', S X m' ψ' ω' s' ∧ Le ψ ψ' ∧ Typ Γ ψ' m' ∧ ω' acc = some (lst (vs ++ vs') j') ∧ (∀ b ∈ wr, ∃ o, ω' b = some o) ∧ (∀ b ∈ ks, ω' b = ω b) ∧ St (i + 1) s'.heap ∧ zO (fun (P : VP) v => P.p ψ' v) L vs'
theorem zCU.keepS {tgt : Expr} {it : Value} {wr fz : List Addr} {St : Nat → Heap → Prop} {nn : Nat} {Tg : Nat → List (Str × VP)} {ψ₁ ψa ψb ωa ωb : PM} {ma mb : Str → Option Value} {sa sb : Shared} {i : Nat} (V : zCU prog w A ψ₁ tgt it wr fz nn Tg St) (hfz : ∀ b ∈ fz, ∃ o, ψ₁ b = some o) (h : St i sa.heap) (Ya : S X ma ψa ωa sa) (Yb : S X mb ψb ωb sb) (la : Le ψ₁ ψa) (lb : Le ψ₁ ψb) (hw : ∀ b ∈ wr, ∃ o, ωa b = some o ∧ ωb b = some o) : St i sb.heap := by
  refine V.frame _ _ _ h fun b hb o ho => ?_
  rcases hb with hb | hb
  · obtain ⟨o', h1, h2⟩ := hw b hb
    have := (Ya.own b o' h1).1
    rw [ho] at this; cases this
    exact (Yb.own b o h2).1
  · obtain ⟨o', h1⟩ := hfz b hb
    have := Ya.sub b o' (la _ _ h1)
    rw [ho] at this; cases this
    exact Yb.sub b o (lb _ _ h1)
theorem zDa {c : Code} {R : Result → Shared → Prop} {acc : Addr} {wr ks : List Addr} {St : Nat → Heap → Prop} {nn : Nat} {Γc : List (Str × VP)} {L : Nat → List VP} {vs0 : List Value} {j0 : Nat} {ψ₁ : PM} (hq : c.quiet = true) (hst : St 0 s.heap) (Y : S X m ψ₁ ω s) (t : Typ Γc ψ₁ m) (hwr : ∀ b ∈ wr, ∃ o, ω b = some o) (hacc : ω acc = some (lst vs0 j0)) (turn : ∀ i m ψ ω s vs j, i < nn → S X m ψ ω s → Le ψ₁ ψ → Typ Γc ψ m → ω acc = some (lst vs j) → (∀ b ∈ wr, ∃ o, ω b = some o) → St i s.heap → vs.length ≤ vs0.length + ((List.range i).flatMap L).length →
      wpAny (model prog w) (X.A.under c) ((model prog w).den c) (fun fin s' => fin = .again c ∧ Tn X acc wr ks St Γc ψ ω vs i (L i) s') (fun _ _ => False) s)
    (last : ∀ m ψ ω s vs j, S X m ψ ω s → Le ψ₁ ψ → Typ Γc ψ m → ω acc = some (lst vs j) → (∀ b ∈ wr, ∃ o, ω b = some o) → St nn s.heap →
      wpAny (model prog w) (X.A.under c) ((model prog w).den c) (fun fin s' => fin = .done .next ∧ ∃ ω', S X m ψ ω' s' ∧ ω' acc = some (lst vs j) ∧ (∀ b ∈ ks, ω' b = ω b)) (fun _ _ => False) s)
    (fin : ∀ m' ψ' ω' s' vs j, S X m' ψ' ω' s' → Le ψ₁ ψ' → Typ Γc ψ' m' → ω' acc = some (lst (vs0 ++ vs) j) → (∀ b ∈ ks, ω' b = ω b) → zO (fun (P : VP) v => P.p ψ' v) ((List.range nn).flatMap L) vs → R (.ok .next) s') :
    codeAny (model prog w) X.A c R s := by
  refine codeAny_loop hq (fun nk s3 => ∃ i mi ψi ωi vs j, nk = nn - i ∧ i ≤ nn ∧ S X mi ψi ωi s3 ∧ Le ψ₁ ψi ∧ Typ Γc ψi mi ∧ ωi acc = some (lst (vs0 ++ vs) j) ∧ (∀ b ∈ wr, ∃ o, ωi b = some o) ∧ (∀ b ∈ ks, ωi b = ω b) ∧ St i s3.heap ∧
    zO (fun (P : VP) v => P.p ψi v) ((List.range i).flatMap L) vs) ?_ nn ⟨0, m, ψ₁, ω, [], j0, rfl, Nat.zero_le _, Y, Le.refl _, t, by simpa using hacc, hwr, fun _ _ => rfl, hst, .nil⟩
  rintro nk s3 ⟨i, mi, ψi, ωi, vs, j, rfl, hle, Yi, li, ti, hai, hwi, hki, hsi, hall⟩
  by_cases hlt : i < nn
  · refine zIv (turn i mi ψi ωi s3 (vs0 ++ vs) j hlt Yi li ti hai hwi hsi (by rw [List.length_append, ← hall.length]; exact Nat.le_refl _)) ?_ fun _ _ e => e.elim
    rintro _ s' ⟨rfl, m5, ψ5, ω5, vs5, j5, Y5, l5, t5, ha5, hw5, hk5, hst5, hall5⟩
    refine ⟨rfl, nn - (i + 1), by omega, i + 1, m5, ψ5, ω5, vs ++ vs5, j5, rfl, hlt, Y5, li.trans l5, t5, by rw [ha5, List.append_assoc], hw5, fun b hb => (hk5 b hb).trans (hki b hb), hst5, ?_⟩
    rw [List.range_succ, List.flatMap_append]
    simp only [List.flatMap_cons, List.flatMap_nil, List.append_nil]
    exact (hall.imp fun P _ x => P.mono l5 x).append hall5
  · have e : i = nn := by omega
    subst e
    refine zIv (last mi ψi ωi s3 (vs0 ++ vs) j Yi li ti hai hwi hsi) ?_ fun _ _ e => e.elim
    rintro _ s' ⟨rfl, ω5, Y5, ha5, hk5⟩
    exact fin mi ψi ω5 s' vs j Y5 li ti ha5 (fun b hb => (hk5 b hb).trans (hki b hb)) hall
noncomputable def pick (keep : Nat → Bool) (R : Nat → VP) (i : Nat) : List VP := if keep i then [R i] else []
theorem zC4 (keep : Nat → Bool) (R : Nat → VP) (n : Nat) : ((List.range n).flatMap (pick keep R)).length ≤ n := by
  induction n with
  | zero => exact Nat.le_refl _
  | succ n ih =>
    rw [List.range_succ, List.flatMap_append, List.length_append]
    have : ([n].flatMap (pick keep R)).length ≤ 1 := by
      simp only [List.flatMap_cons, List.flatMap_nil, List.append_nil]
      unfold pick; split <;> simp
    omega
theorem zDk {elt tgt iter : Expr} {ifs : List Expr} {gens : List Comprehension} {d : Nat} {pos : Pos} {it : Value} {acc : Addr} {wr fz ks : List Addr} {St : Nat → Heap → Prop} {nn : Nat} {Tg : Nat → List (Str × VP)} {Γc : List (Str × VP)} {vs0 : List Value} {j0 : Nat} {ψ₁ : PM} {R : Result → Shared → Prop} {keep : Nat → Bool} {E : Nat → VP} {sc' : Scope} (hturn : ∀ it acc env, compTurn (.ListComp elt gens scope pos) d it acc env = (do
      standAt iter.pos
      match ← pyNext it with
      | none => pure (.done .next)
      | some v =>
        letOwnedTupleGo tgt it v
        assign tgt env v
        let mut ok := true
        for c in ifs do
          if ok then ok ← isTrue c env (eval c env)
        if ok then
          (do let _ ← call (.builtin "list.append") [acc, ← eval elt env])
        again (.compLoop (.ListComp elt gens scope pos) d it acc env)))
    (cx : CX ⟨k, b⟩ X) (hsc : X.env.scope = sc') (V : zCU prog w X.A ψ₁ tgt it wr fz nn Tg St) (hst : St 0 s.heap) (hfz : ∀ b ∈ fz, ∃ o, ψ₁ b = some o) (Y : S X m ψ₁ ω s) (t : Typ Γc ψ₁ m) (hwr : ∀ b ∈ wr, ∃ o, ω b = some o) (hacc : ω acc = some (lst vs0 j0)) (hne : acc ∉ wr)
    (hks : ∀ b ∈ ks, b ∉ wr ∧ b ≠ acc) (hsto : ∀ i < nn, ∀ p ∈ Tg i, zK X p.1) (hdrop : ∀ i < nn, ∀ ψ m, Typ (Tg i ++ Γc) ψ m → Typ Γc ψ m)
    (ht : ∀ i < nn, EvT prog w ⟨k, b⟩ sc' (Tg i ++ Γc) ψ₁ ifs (keep i)) (he : ∀ i < nn, keep i = true → Ev prog w ⟨k, b⟩ sc' (Tg i ++ Γc) ψ₁ elt (E i)) (hsz : vs0.length + nn ≤ sizeLine)
    (fin : ∀ m' ψ' ω' s' vs j, S X m' ψ' ω' s' → Le ψ₁ ψ' → Typ Γc ψ' m' → ω' acc = some (lst (vs0 ++ vs) j) → (∀ b ∈ ks, ω' b = ω b) → zO (fun (P : VP) v => P.p ψ' v) ((List.range nn).flatMap (pick keep E)) vs → R (.ok .next) s') :
    codeAny (model prog w) X.A (.compLoop (.ListComp elt gens scope pos) d it (.ref acc) X.env) R s := by
  refine zDa (ks := ks) (wr := wr) (St := St) (Γc := Γc) (vs0 := vs0) rfl hst Y t hwr hacc (fun i m ψ ω s vs j hlt Y l t ha hw hs hlen => ?_) (fun m ψ ω s vs j Y l t ha hw hs => ?_) fin
  all_goals
    show wpAny _ X.A ((compTurn (.ListComp elt gens scope pos) d it (.ref acc) X.env).onRaise (fun x => do noteFrame x X.env; theTreesLotGoes x)) _ _ s
    refine wpAny_noted ?_
    rw [hturn]
    refine zIt (wpAny_standAt (zIt ?_))
  · refine zIv (V.step i X m ψ ω s (fun _ s' => ∃ m', S X m' ψ (zAS ω wr s'.heap) s' ∧ Typ (Tg i ++ Γc) ψ m' ∧ St (i + 1) s'.heap) (fun _ _ => False) hlt Y l hs hw (hsto i hlt) fun m' s' Y' T' hs' => ⟨m', Y', T' Γc t, hs'⟩) (fun r s1 hr => ?_) fun _ _ e => e.elim
    obtain ⟨v, rfl, h1⟩ := hr
    refine zIt (zIv h1 (fun _ s2 h2 => ?_) fun _ _ e => e.elim)
    refine zIt (zIv h2 (fun _ s' h3 => ?_) fun _ _ e => e.elim)
    obtain ⟨m', Y', t1, hs'⟩ := h3
    · have hw1 : ∀ b ∈ wr, ∃ o, zAS ω wr s'.heap b = some o := fun b hb => by rw [zBD hb]; exact V.live _ _ hs' b hb
      have c1 := Y'.cx cx
      refine zIt (zIv (ht i hlt X.A X.env m' ψ s' hsc c1 l Y'.fram t1) (fun ok s2 ⟨hok, ψ2, g2⟩ => ?_) fun _ _ e => e.elim)
      subst hok
      have Y2 := Y'.grow cx g2
      have hs2 : St (i + 1) s2.heap := V.keepS hfz hs' Y' Y2 l (l.trans g2.le) fun b hb => by obtain ⟨o, ho⟩ := hw1 b hb; exact ⟨o, ho, ho⟩
      have ha2 : zAS ω wr s'.heap acc = some (lst vs j) := by rw [zk hne]; exact ha
      have hk2 : ∀ b ∈ ks, zAS ω wr s'.heap b = ω b := fun b hb => zk (hks b hb).1
      cases hkp : keep i with
      | false =>
        simp only [Bool.false_eq_true, if_false]
        refine zIu ⟨rfl, m', ψ2, _, [], j, Y2, g2.le, hdrop i hlt _ _ (t1.le g2.le), by simpa using ha2, hw1, hk2, hs2, ?_⟩
        unfold pick; rw [hkp]; exact .nil
      | true =>
        simp only [if_true]
        refine zIt (zIt ((he i hlt hkp X.A X.env m' ψ2 s2 hsc (Y2.cx cx) (l.trans g2.le) Y2.fram (t1.le g2.le)).use fun v ψ3 s3 g3 p3 => ?_))
        have Y3 := Y2.grow cx g3
        refine zIt (Y3.appendOwn ha2 (by have := zC4 keep E i; omega) fun s4 j4 Y4 hk4 => zIu (zIu ⟨rfl, m', ψ3, _, [v], j4, Y4, g2.le.trans g3.le, hdrop i hlt _ _ (t1.le (g2.le.trans g3.le)), zA _ _ _, fun b hb => ?_, fun b hb => ?_, ?_, ?_⟩))
        · rw [zC (show b ≠ acc from fun q => hne (by rw [← q]; exact hb))]; exact hw1 b hb
        · rw [zC (hks b hb).2]; exact hk2 b hb
        · exact V.keepS hfz hs2 Y2 Y4 (l.trans g2.le) (l.trans (g2.le.trans g3.le)) fun b hb => by
            obtain ⟨o, ho⟩ := hw1 b hb
            exact ⟨o, ho, by rw [zC (show b ≠ acc from fun q => hne (by rw [← q]; exact hb))]; exact ho⟩
        · unfold pick; rw [hkp]; exact .cons p3 .nil
  · refine V.done X m ψ ω s _ _ Y l hs hw fun s' Y' => ?_
    exact zIu ⟨rfl, _, Y', by rw [zk hne]; exact ha, fun b hb => zk (hks b hb).1⟩
theorem zCI (keep : Nat → Bool) (R : Nat → VP) (n : Nat) : (List.range n).flatMap (pick keep R) = ((List.range n).filter keep).map R := by
  induction n with
  | zero => rfl
  | succ n ih =>
    rw [List.range_succ, List.flatMap_append, List.filter_append, List.map_append, ih]
    congr 1
    simp only [List.flatMap_cons, List.flatMap_nil, List.append_nil]
    unfold pick
    cases q : keep n <;> simp [q]
theorem zGd {elt tgt iter : Expr} {ifs : List Expr} {pos pos' : Pos} {nn : Nat} {Tg : Nat → List (Str × VP)} {keep : Nat → Bool} {R : Nat → VP} {use : Option (Value → Sem Unit)} {Q : Value → Shared → Prop} {E : Value → Shared → Prop} (hs : ∀ x, foldedSetIterable iter env x = pure x) (he : env.scope = sc) (c : Cx ⟨k + 1, b⟩ A ψ s) (le : Le φ ψ) (f : zCl env m s.heap) (t : Typ Γ ψ m) (hI : zHW prog w ⟨k + 1, b⟩ sc Γ φ iter tgt nn Tg) (hok : zf sc scope = true) (hT : ∀ i < nn, ∀ p ∈ Tg i, own scope p.1 = true) (ht : ∀ i < nn, EvT prog w ⟨k, b⟩ (zBM scope sc) (Tg i ++ zBQ scope Γ) φ ifs (keep i)) (hel : ∀ i < nn, keep i = true → Ev prog w ⟨k, b⟩ (zBM scope sc) (Tg i ++ zBQ scope Γ) φ elt (R i)) (hsz : nn ≤ sizeLine) (fin : ∀ acc C ψ' s' m', zQ (frs A) ψ s ψ' s' → (zB (((List.range nn).filter keep).map R)).p ψ' acc → s.heap.get? C = none → ψ' C = none → s'.heap.Ns C m' → compPost (model prog w) A E use Q acc C (.ok .next) s') : wpAny (model prog w) A (comprehension (.ListComp elt [⟨tgt, iter, ifs, 0⟩] scope pos) scope env pos' (newList []) false (eval iter env) use) Q E s := by
  refine zDl (g := ⟨tgt, iter, ifs, 0⟩) rfl hs he c le f t hI hok (fun X it acc wr fz St m ω s hA₀ hA I => ?_) fin
  subst hA
  have L : ∀ s1, s1 = s → codeAny (model prog w) X.A (.compLoop (.ListComp elt [⟨tgt, iter, ifs, 0⟩] scope pos) 0 it (.ref acc) X.env) (compR X acc (((List.range nn).filter keep).map R)) s1 := by
    rintro s1 rfl
    refine zDk (ks := []) (iter := iter) (tgt := tgt) (ifs := ifs) (vs0 := []) (fun _ _ _ => compTurn_list ..) I.cx I.sc I.steps I.st I.fzO I.st0 I.typ I.wrO I.accO I.ne (fun b hb => by cases hb) (fun i hi p hp => I.sto _ (hT i hi p hp)) (fun i hi ψ m t => zFC (hT i hi) t)
      (fun i hi A env m ψ s h1 h2 h3 h4 h5 => ht i hi A env m ψ s h1 h2 (I.le.trans h3) h4 h5) (fun i hi hk => (hel i hi hk).le I.le) (by simpa using hsz) ?_
    intro m' ψ' ω' s' vs j Y' l' _ ha _ hall
    rw [zCI] at hall
    exact ⟨rfl, m', ψ', ω', vs, j, Y', by simpa using ha, hall⟩
  exact codeAny_compStart_list (L _ rfl) (I.steps.self 0 _ _ _ I.st (L _ rfl))
theorem zGJ {elt tgt iter : Expr} {ifs : List Expr} {pos : Pos} {nn : Nat} {Tg : Nat → List (Str × VP)} {keep : Nat → Bool} {R : Nat → VP} (hI : zHW prog w ⟨k + 1, b⟩ sc Γ φ iter tgt nn Tg) (hok : zf sc scope = true) (hT : ∀ i < nn, ∀ p ∈ Tg i, own scope p.1 = true) (ht : ∀ i < nn, EvT prog w ⟨k, b⟩ (zBM scope sc) (Tg i ++ zBQ scope Γ) φ ifs (keep i)) (hel : ∀ i < nn, keep i = true → Ev prog w ⟨k, b⟩ (zBM scope sc) (Tg i ++ zBQ scope Γ) φ elt (R i)) (hsz : nn ≤ sizeLine) (hs : autoParam (∀ env x, foldedSetIterable iter env x = pure x) au1) : Ev prog w ⟨k + 1, b⟩ sc Γ φ (.ListComp elt [⟨tgt, iter, ifs, 0⟩] scope pos) (zB (((List.range nn).filter keep).map R)) := by
  intro A env m ψ s he c le f t
  rw [eval_ListComp]
  refine zGd (hs env) he c le f t hI hok hT ht hel hsz fun acc C ψ' s' m' g p hC hCψ hns => ?_
  refine ⟨m', hns, fun h' hs' => ⟨ψ', ⟨?_, g.le, fun b o e => (hs'.2 b (fun q => by rw [q, hCψ] at e; cases e)).trans (g.sub b o e), g.new⟩, p⟩⟩
  exact g.ext.but (W := fun b => b = C) (fun b hb => by rw [hb]; exact hC) ⟨h', s'.toks, rfl⟩ fun b ob hb e => (hs'.2 b hb).trans e
theorem ev_comp {elt tgt iter : Expr} {ifs : List Expr} {pos : Pos} {P : VP} {nn : Nat} {Tg : Nat → List (Str × VP)} {keep : Nat → Bool} {R : Nat → VP} (hi : Ev prog w ⟨k + 1, b⟩ sc Γ φ iter P) (hI : Src prog w ⟨k + 1, b⟩ φ tgt P nn Tg) (hok : zf sc scope = true) (hT : ∀ i < nn, ∀ p ∈ Tg i, own scope p.1 = true) (ht : ∀ i < nn, EvT prog w ⟨k, b⟩ (zBM scope sc) (Tg i ++ zBQ scope Γ) φ ifs (keep i)) (hel : ∀ i < nn, keep i = true → Ev prog w ⟨k, b⟩ (zBM scope sc) (Tg i ++ zBQ scope Γ) φ elt (R i)) (hsz : nn ≤ sizeLine) (hs : autoParam (∀ env x, foldedSetIterable iter env x = pure x) au1) : Ev prog w ⟨k + 1, b⟩ sc Γ φ (.ListComp elt [⟨tgt, iter, ifs, 0⟩] scope pos) (zB (((List.range nn).filter keep).map R)) :=
  zGJ (zHW.of hi hI) hok hT ht hel hsz hs
end
section
variable {rest : List Stmt} {Q : Flow → Shared → Prop} {E : Value → Shared → Prop}
def zBi (prog : Program) (w : World) (X : Fix) (Γ : List (Str × VP)) (ψ ω : PM) (e : Expr) (P : VP) : Prop :=
  ∀ (s : Shared) (Q : Value → Shared → Prop) (E : Value → Shared → Prop), B X Γ ψ ω s → (∀ v ψ' s', Le ψ ψ' → P.p ψ' v → B X Γ ψ' ω s' → Q v s') → wpAny (model prog w) X.A (eval e X.env) Q E s
def zFi (prog : Program) (w : World) (X : Fix) (Γ : List (Str × VP)) (ψ ω : PM) (e : Expr) (r : Bool) : Prop :=
  ∀ (s : Shared) (Q : Bool → Shared → Prop) (E : Value → Shared → Prop), B X Γ ψ ω s → (∀ ψ' s', Le ψ ψ' → B X Γ ψ' ω s' → Q r s') → wpAny (model prog w) X.A (isTrue e X.env (eval e X.env)) Q E s
theorem zBi.pure {e : Expr} {P : VP} (c : CX ⟨k, n⟩ X) (h : Ev prog w ⟨k, n⟩ X.env.scope Γ ψ e P) : zBi prog w X Γ ψ ω e P := fun s Q E b q => b.eval c h q
theorem zBi.own {e : Expr} {P : VP} {Γ' : List (Str × VP)} (c : CX ⟨k, n⟩ X) (hΓ : ∀ m, Typ Γ (zAa ψ ω) m → Typ Γ' (zAa ψ ω) m) (h : Ev prog w ⟨k, n⟩ X.env.scope Γ' (zAa ψ ω) e P) (hP : zHZ P) : zBi prog w X Γ ψ ω e P :=
  fun s Q E b q => b.evalO c hΓ h hP fun v s' p b' => q v ψ s' (Le.refl _) p b'
theorem zFi.pure {e : Expr} {r : Bool} (c : CX ⟨k, n⟩ X) (h : EvB prog w ⟨k, n⟩ X.env.scope Γ ψ e r) : zFi prog w X Γ ψ ω e r := fun s Q E b q => b.test c h q
theorem zFi.own {e : Expr} {r : Bool} {Γ' : List (Str × VP)} (c : CX ⟨k, n⟩ X) (hΓ : ∀ m, Typ Γ (zAa ψ ω) m → Typ Γ' (zAa ψ ω) m) (h : EvB prog w ⟨k, n⟩ X.env.scope Γ' (zAa ψ ω) e r) : zFi prog w X Γ ψ ω e r :=
  fun s Q E b q => b.testO c hΓ h fun s' b' => q ψ s' (Le.refl _) b'
theorem zIP {x : Str} {a : Addr} {o : Obj} {P : VP} (hx : Γ.lookup x = some (zT (.ref a))) (r : P.p (zAa ψ ω) (.ref a)) : ∀ m, Typ Γ (zAa ψ ω) m → Typ ((x, P) :: Γ) (zAa ψ ω) m := fun m t => t.view hx r
theorem zAz {a : Addr} {vs : List Value} {j : Nat} {ps : List VP} (ha : ω a = some (lst vs j)) (hno : ∀ a o, ω a = some o → ψ a = none) (h : zO (fun (P : VP) v => P.p ψ v) ps vs) : (zB ps).p (zAa ψ ω) (.ref a) :=
  ⟨a, vs, j, rfl, zD4 ha, h.imp fun P v x => P.mono (zA6 hno) x⟩
theorem B.noOwn (b : B X Γ ψ ω s) : ∀ a o, ω a = some o → ψ a = none := fun a o e => b.ownNone e
theorem zIH {x : Str} {px pos : Pos} {e : Expr} {P : VP} (b : B X Γ ψ ω s) (h : zBi prog w X Γ ψ ω e P) (hk : zK X x) (hs : swapsWith e (some (.Name x px)) pos.line X.env = pure false) (q : ∀ v ψ' s', Le ψ ψ' → P.p ψ' v → B X ((x, P) :: Γ) ψ' ω s' → wpAny (model prog w) X.A (execs rest X.env) Q E s') : wpAny (model prog w) X.A (execs (.Assign [.Name x px] e pos :: rest) X.env) Q E s :=
  wpAny_execs_cons (wpAny_Assign_Name (h s _ _ b fun v ψ' s' l p b' => b'.store hk p fun s'' b'' => q v ψ' s'' l p b'') hs)
theorem zBC {pos : Pos} {e : Expr} {P : VP} (b : B X Γ ψ ω s) (h : zBi prog w X Γ ψ ω e P) (q : ∀ v ψ' s', Le ψ ψ' → P.p ψ' v → B X Γ ψ' ω s' → Q (.ret v) s') : wpAny (model prog w) X.A (execs (.Return (some e) pos :: rest) X.env) Q E s :=
  wpAny_execs_cons (wpAny_Return_some (h s _ _ b q))
theorem st_if {pos : Pos} {t : Expr} {body orelse : List Stmt} {r : Bool} (b : B X Γ ψ ω s) (h : zFi prog w X Γ ψ ω t r) (q : ∀ ψ' s', Le ψ ψ' → B X Γ ψ' ω s' → wpAny (model prog w) X.A (execs (if r then body else orelse) X.env) (seqQ prog w X.A X.env rest Q E) E s') : wpAny (model prog w) X.A (execs (.If t body orelse pos :: rest) X.env) Q E s := by
  refine z9 (wpAny_If (h s _ _ b fun ψ' s' l b' => ?_))
  have := q ψ' s' l b'
  cases r <;> simpa using this
theorem zHF {x : Str} {px pos lp : Pos} (b : B X Γ ψ ω s) (hk : zK X x) (q : ∀ a s', ω a = none → ψ a = none → B X ((x, zT (.ref a)) :: Γ) ψ (put ω a (lst [] 0)) s' → wpAny (model prog w) X.A (execs rest X.env) Q E s') : wpAny (model prog w) X.A (execs (.Assign [.Name x px] (.List [] lp) pos :: rest) X.env) Q E s := by
  refine wpAny_execs_cons (wpAny_Assign_Name ?_ (by rfl))
  rw [arm_eval_List]
  refine zIt (wpAny_standAt (zIt (zIu ?_)))
  refine b.newList (vs := []) (Nat.zero_le _) fun a s' h1 h2 b' => b'.store hk rfl fun s'' b'' => q a s'' ?_ h2 b''
  cases z : ω a with
  | none => rfl
  | some o => exact absurd z (h1 o)
theorem st_listD {x : Str} {px pos lp : Pos} {es : List Expr} {Ps : List VP} (b : B X Γ ψ ω s) (c : CX ⟨k, n⟩ X) (h : EvA prog w ⟨k, n⟩ X.env.scope Γ ψ es Ps) (hsz : Ps.length ≤ sizeLine) (hk : zK X x) (q : ∀ a vs ψ' s', ω a = none → ψ' a = none → Le ψ ψ' → zO (fun (P : VP) v => P.p ψ' v) Ps vs → B X ((x, zT (.ref a)) :: Γ) ψ' (put ω a (lst vs 0)) s' → wpAny (model prog w) X.A (execs rest X.env) Q E s') : wpAny (model prog w) X.A (execs (.Assign [.Name x px] (.List es lp) pos :: rest) X.env) Q E s := by
  refine wpAny_execs_cons (wpAny_Assign_Name ?_ (by rfl))
  rw [arm_eval_List]
  obtain ⟨m, Y, t⟩ := b
  refine zIt (wpAny_standAt (zIt (zAE rfl h (Y.cx c) (Le.refl _) Y.fram t fun vs ψ1 s1 g1 p1 => ?_)))
  have b1 : B X Γ ψ1 ω s1 := ⟨m, Y.grow c g1, t.le g1.le⟩
  refine b1.newList (vs := vs) (by rw [← p1.length]; exact hsz) fun a s' h1 h2 b' => b'.store hk rfl fun s'' b'' => q a vs ψ1 s'' ?_ h2 g1.le p1 b''
  cases z : ω a with
  | none => rfl
  | some o => exact absurd z (h1 o)
theorem zCJ {pos : Pos} {e : Expr} {id : String} {first : List Value} {Q : Value → Shared → Prop} {E : Value → Shared → Prop} (hn : zM e = true) (h : wpAny (model prog w) A (eval e env) (fun v s' => wpAny (model prog w) A (call (.builtin id) (first ++ [v])) Q E s') E s) : wpAny (model prog w) A (callWith pos (.builtin id) first (backTo pos (starEach [e] env)) []) Q E s := by
  rw [zI hn]
  refine callWith_of (P := fun h => ∃ k, (k = Keeper.frame ∨ k = Keeper.machine ∨ k = Keeper.boundFrame) ∧ Looks (model prog w) h (keeperOf (.builtin id)) k) (by rfl) (fun _ x => x) ?_
  refine evalArgs_plain ?_
  show wpAny _ _ (spliced ((false, if (false = true) then _ else eval e env) :: [])) _ _ _
  unfold spliced
  simp only [Bool.false_eq_true, if_false]
  refine zIt (zIv h (fun v s' h' => ?_) fun _ _ e => e)
  refine zIt (zIu (zIt (zIw (zIu (zIu ⟨⟨.machine, .inr (.inl rfl), Looks.of_pure rfl⟩, h'⟩)))))
theorem zy {x : Str} {px : Pos} {name : Str} {env : Env} {t : Sem Value} : attributeBase (.Name x px) name env t = t := rfl
theorem zC0 {x name : Str} {px ap pos : Pos} {e : Expr} {id : String} {P : VP} {a : Addr} {vs : List Value} {j : Nat} {Q : Value → Shared → Prop} {E : Value → Shared → Prop} (b : B X Γ ψ ω s) (hx : Γ.lookup x = some (zT (.ref a))) (hv : zu (X.env.scope.names.lookup x) = true) (hd : (x == ("__debug__" : Str) || x == ("__classdict__" : Str)) = false) (slot : Slot "list" name id) (hty : typeOf (.builtin id) = pure (.type "method_descriptor")) (ha : ω a = some (lst vs j)) (h : zBi prog w X Γ ψ ω e P) (hn : zM e = true) (hl : (ap.endLine == pos.line) = true) (q : ∀ v ψ' s', Le ψ ψ' → P.p ψ' v → B X Γ ψ' ω s' → wpAny (model prog w) X.A (call (.builtin id) [.ref a, v]) Q E s') : wpAny (model prog w) X.A (eval (.Call (.Attribute (.Name x px) name ap) [e] [] pos) X.env) Q E s := by
  rw [arm_eval_Call, zy]
  have b0 := b
  obtain ⟨m, Y, t⟩ := b0
  obtain ⟨v, hm, hp⟩ := t x _ hx
  cases hp
  simp only [Bool.or_eq_false_iff] at hd
  refine zIt (wpAny_Name (zBN Y.fram hv hm (zIt (wpAny_standAt ?_)) hd.2) hd.1)
  unfold methodCall
  have hform : methodCallForm ([e].length + ([] : List Keyword).length) (backTo pos (starEach [e] X.env)) (backToKw pos (keywordEach [] X.env)) = true := by
    rw [zI hn]; rfl
  rw [hform]
  refine zIt (zIw ?_)
  show wpAny _ _ (getMethod (.ref a) name _) _ _ _
  have hob := (Y.own _ _ ha).1
  refine getMethod_builtin (T := "list") ⟨_, hob, rfl⟩ PySem.F.plainAttrs_list slot hty (fun b e => by cases e; exact ⟨_, hob, rfl⟩) ?_
  have hpos : methodCallPos true (.Name x px) X.env ap pos = Pure.pure pos := by unfold methodCallPos; rw [hl]; rfl
  show wpAny _ _ (methodCallPos true (.Name x px) X.env ap pos >>= fun callPos => callWith callPos (.builtin id) [.ref a] (backTo pos (starEach [e] X.env)) []) _ _ _
  rw [hpos]
  exact zIt (zIu (zCJ hn (h s _ _ b q)))
theorem zIq {x : Str} {px ap cpos pos : Pos} {e : Expr} {P : VP} {a : Addr} {vs : List Value} {j : Nat} (b : B X Γ ψ ω s) (hx : Γ.lookup x = some (zT (.ref a))) (ha : ω a = some (lst vs j)) (h : zBi prog w X Γ ψ ω e P) (hsz : vs.length ≤ sizeLine) (q : ∀ v ψ' s' j', Le ψ ψ' → P.p ψ' v → B X Γ ψ' (put ω a (lst (vs ++ [v]) j')) s' → wpAny (model prog w) X.A (execs rest X.env) Q E s') (hv : zu (X.env.scope.names.lookup x) = true) (hd : (x == ("__debug__" : Str) || x == ("__classdict__" : Str)) = false) (hn : zM e = true) (hl : (ap.endLine == cpos.line) = true) (hi : interactive X.env = false) : wpAny (model prog w) X.A (execs (.Expr (.Call (.Attribute (.Name x px) "append" ap) [e] [] cpos) pos :: rest) X.env) Q E s :=
  z9 (wpAny_Expr_any (zC0 b hx hv hd slot_list_append (by rfl) ha h hn hl fun v ψ' s' l p b' => b'.append ha hsz fun s'' j' b'' => q v ψ' s'' j' l p b'') hi (by rfl))
theorem st_aug {x : Str} {px pos : Pos} {op : Operator} {e : Expr} {P P₁ R : VP} (b : B X Γ ψ ω s) (c : CX ⟨k, n⟩ X) (hx : Γ.lookup x = some P₁) (h : zBi prog w X Γ ψ ω e P) (ho : Op2 prog w ⟨k, n⟩ ψ (inplaceOp op) P₁ P R) (hk : zK X x) (q : ∀ v ψ' s', Le ψ ψ' → R.p ψ' v → B X ((x, R) :: Γ) ψ' ω s' → wpAny (model prog w) X.A (execs rest X.env) Q E s') (hv : zu (X.env.scope.names.lookup x) = true) (hd : (x == ("__classdict__" : Str)) = false) : wpAny (model prog w) X.A (execs (.AugAssign (.Name x px) op e pos :: rest) X.env) Q E s := by
  refine wpAny_execs_cons (wpAny_AugAssign_Name ?_)
  have b0 := b
  obtain ⟨m, Y, t⟩ := b0
  obtain ⟨v, hm, hp⟩ := t x _ hx
  refine zBN Y.fram hv hm (h s _ _ b fun v2 ψ' s' l p b' => ?_) hd
  have b1 := b'
  obtain ⟨m', Y', t'⟩ := b1
  refine (ho X.A ψ' s' v v2 (Y'.cx c) l (P₁.mono l hp) p).use fun r ψ2 s2 g2 p2 => ?_
  have b2 : B X Γ ψ2 ω s2 := ⟨m', Y'.grow c g2, t'.le g2.le⟩
  exact b2.store hk p2 fun s3 b3 => q r ψ2 s3 (l.trans g2.le) p2 b3
theorem zHP {x y : Str} {px py pos : Pos} {e : Expr} {P : VP} (b : B X Γ ψ ω s) (h : zBi prog w X Γ ψ ω e P) (hkx : zK X x) (hky : zK X y) (hw : swappedStores [.Name x px, .Name y py] e X.env = pure none) (q : ∀ v ψ' s', Le ψ ψ' → P.p ψ' v → B X ((y, P) :: (x, P) :: Γ) ψ' ω s' → wpAny (model prog w) X.A (execs rest X.env) Q E s') : wpAny (model prog w) X.A (execs (.Assign [.Name x px, .Name y py] e pos :: rest) X.env) Q E s :=
  wpAny_execs_cons (wpAny_Assign_two (h s _ _ b fun v ψ' s' l p b' => wpAny_assign_Name (b'.store hkx p fun s2 b2 => wpAny_assign_Name (b2.store hky p fun s3 b3 => q v ψ' s3 l p b3))) (by rfl) hw)
theorem S.junk {C : Addr} (x : S X m ψ ω s) (h0 : X.s₀.heap.get? C = none) (hψ : ψ C = none) (hω : ω C = none) (hf : C ∉ X.ft) (hr : ∃ h' tk, s' = { s with heap := h', toks := tk }) (hs : ∀ b ob, b ≠ C → s.heap.get? b = some ob → s'.heap.get? b = some ob) : S X m ψ ω s' := by
  refine ⟨x.ext.but (W := fun b => b = C) (fun b hb => by rw [hb]; exact h0) hr hs, x.le, x.new, fun b ob e => hs b ob (fun z => by rw [z, hψ] at e; cases e) (x.sub b ob e), ?_, x.link, x.hnd, x.loc, fun c hc => ?_, x.off, x.fre, fun b ob e => ?_, fun p hp => ?_⟩
  · obtain ⟨fn, gl, bi, ⟨ml, ⟨oL, es, ep, hL, hd⟩, hm⟩, cel, inj, nl⟩ := x.fram
    refine ⟨fn, gl, bi, ⟨ml, ⟨oL, es, ep, hs _ _ (fun z => hf (z ▸ x.loc)) hL, hd⟩, hm⟩, fun y hy => ?_, inj, nl⟩
    obtain ⟨c, hc, oc, hoc, hdc⟩ := cel y hy
    refine ⟨c, hc, oc, hs _ _ (fun z => ?_) hoc, hdc⟩
    obtain ⟨ob, hob⟩ := x.fre y c hc (by rw [z]; exact hf)
    rw [z, h0] at hob; cases hob
  · obtain ⟨o, ho⟩ := x.there c hc
    exact ⟨o, hs c o (fun z => hf (by rw [← z]; exact hc)) ho⟩
  · obtain ⟨k1, k2, k3, k4⟩ := x.own b ob e
    exact ⟨hs b ob (fun z => by rw [z, hω] at e; cases e) k1, k2, k3, k4⟩
  · obtain ⟨k1, k2, k3, k4, k5, k6, k7⟩ := x.tab p hp
    exact ⟨hs _ _ (fun z => by obtain ⟨o, ho⟩ := k6; rw [z, h0] at ho; cases ho) k1, k2, k3, k4, k5, k6, k7⟩
theorem zDN {x : Str} {px pos lp : Pos} {elt tgt iter : Expr} {ifs : List Expr} {nn : Nat} {Tg : Nat → List (Str × VP)} {keep : Nat → Bool} {R : Nat → VP} (bb : B X Γ ψ ω s) (c : CX ⟨k + 1, n⟩ X) (hsw : swapsWith (.ListComp elt [⟨tgt, iter, ifs, 0⟩] scope lp) (some (.Name x px)) pos.line X.env = pure true) (hk : zK X x) (hI : zHW prog w ⟨k + 1, n⟩ X.env.scope Γ ψ iter tgt nn Tg) (hok : zf X.env.scope scope = true) (hT : ∀ i < nn, ∀ p ∈ Tg i, own scope p.1 = true) (ht : ∀ i < nn, EvT prog w ⟨k, n⟩ (zBM scope X.env.scope) (Tg i ++ zBQ scope Γ) ψ ifs (keep i)) (hel : ∀ i < nn, keep i = true → Ev prog w ⟨k, n⟩ (zBM scope X.env.scope) (Tg i ++ zBQ scope Γ) ψ elt (R i)) (hsz : nn ≤ sizeLine) (q : ∀ v ψ' s', Le ψ ψ' → (zB (((List.range nn).filter keep).map R)).p ψ' v → B X ((x, zB (((List.range nn).filter keep).map R)) :: Γ) ψ' ω s' → wpAny (model prog w) X.A (execs rest X.env) Q E s') (hs : autoParam (∀ env x, foldedSetIterable iter env x = pure x) au1) : wpAny (model prog w) X.A (execs (.Assign [.Name x px] (.ListComp elt [⟨tgt, iter, ifs, 0⟩] scope lp) pos :: rest) X.env) Q E s := by
  refine wpAny_execs_cons ?_
  rw [exec_Assign_Name_used _ _ _ _ hsw]
  refine zIt (wpAny_standAt (zIt ?_))
  obtain ⟨m, Y, t⟩ := bb
  show wpAny _ X.A (do let _ ← comprehension (.ListComp elt [⟨tgt, iter, ifs, 0⟩] scope lp) scope X.env _ (newList []) false (eval iter X.env) (some (assign (.Name x px) X.env))) _ _ s
  refine zIt (zIv (zGd (use := some (assign (.Name x px) X.env)) (Q := fun _ s' => wpAny (model prog w) X.A (execs rest X.env) Q E s') (hs X.env) rfl (Y.cx c) (Le.refl _) Y.fram t hI hok hT ht hel hsz fun acc C ψ' s1 m' g p hC hCψ hns => ?_)
    (fun _ s' hq => zIu (zIu hq)) fun _ _ e => e)
  have Y1 := Y.grow c g
  have b1 : B X Γ ψ' ω s1 := ⟨m, Y1, t.le g.le⟩
  have hCne : ∀ a o, s.heap.get? a = some o → a ≠ C := fun a o e q => by rw [q, hC] at e; cases e
  have hCω : ω C = none := by
    cases z : ω C with
    | none => rfl
    | some o => exact absurd rfl (hCne C o (Y.own C o z).1)
  have hCf : C ∉ X.ft := fun hm => by obtain ⟨o, ho⟩ := Y.there C hm; exact hCne C o ho rfl
  have hC0 := Y.ext.none hC
  show wpAny _ X.A (assign (.Name x px) X.env acc) _ _ _
  refine wpAny_assign_Name ?_
  obtain ⟨m2, Y2, t2⟩ := b1
  obtain ⟨oC, es, ep, hoC, hdC⟩ := hns
  refine Y2.store' hk fun s2 Y4 hk4 => ?_
  refine ⟨m', ⟨oC, es, ep, hk4 C oC hCf hoC, hdC⟩, fun h' hs' => q acc ψ' _ g.le p ⟨_, Y4.junk hC0 hCψ hCω hCf ⟨h', s2.toks, rfl⟩ fun b ob hb e => (hs'.2 b hb).trans e, t2.cons p⟩⟩
theorem zET {x : Str} {px pos lp : Pos} {elt tgt iter : Expr} {ifs : List Expr} {P : VP} {nn : Nat} {Tg : Nat → List (Str × VP)} {keep : Nat → Bool} {R : Nat → VP} (bb : B X Γ ψ ω s) (c : CX ⟨k + 1, n⟩ X) (hsw : swapsWith (.ListComp elt [⟨tgt, iter, ifs, 0⟩] scope lp) (some (.Name x px)) pos.line X.env = pure true) (hk : zK X x) (hi : Ev prog w ⟨k + 1, n⟩ X.env.scope Γ ψ iter P) (hI : Src prog w ⟨k + 1, n⟩ ψ tgt P nn Tg) (hok : zf X.env.scope scope = true) (hT : ∀ i < nn, ∀ p ∈ Tg i, own scope p.1 = true) (ht : ∀ i < nn, EvT prog w ⟨k, n⟩ (zBM scope X.env.scope) (Tg i ++ zBQ scope Γ) ψ ifs (keep i)) (hel : ∀ i < nn, keep i = true → Ev prog w ⟨k, n⟩ (zBM scope X.env.scope) (Tg i ++ zBQ scope Γ) ψ elt (R i)) (hsz : nn ≤ sizeLine) (q : ∀ v ψ' s', Le ψ ψ' → (zB (((List.range nn).filter keep).map R)).p ψ' v → B X ((x, zB (((List.range nn).filter keep).map R)) :: Γ) ψ' ω s' → wpAny (model prog w) X.A (execs rest X.env) Q E s') (hs : autoParam (∀ env x, foldedSetIterable iter env x = pure x) au1) : wpAny (model prog w) X.A (execs (.Assign [.Name x px] (.ListComp elt [⟨tgt, iter, ifs, 0⟩] scope lp) pos :: rest) X.env) Q E s :=
  zDN bb c hsw hk (zHW.of hi hI) hok hT ht hel hsz q hs
end
section
theorem zFP {R : Result → Shared → Prop} {target it body orelse env} (I : Nat → Shared → Prop) (turn : ∀ n s, I n s → wpAny (model prog w) A (pyNext it) (fun r s₁ => match r with
      | none => wpAny (model prog w) A (execs orelse env) (fun f s₃ => R (.ok f) s₃) (notedBy (model prog w) A env fun e s' => R (.error e) s') s₁
      | some v => wpAny (model prog w) A (letOwnedTupleGo target it v) (fun _ s₁' => wpAny (model prog w) A (assign target env v) (fun _ s₂ => wpAny (model prog w) A (execs body env) (fun f s₃ => match f with
          | .next | .cont => ∃ m, m < n ∧ I m s₃
          | .brk => R (.ok .next) s₃
          | .ret v => R (.ok (.ret v)) s₃) (notedBy (model prog w) A env fun e s' => R (.error e) s') s₂) (notedBy (model prog w) A env fun e s' => R (.error e) s') s₁') (notedBy (model prog w) A env fun e s' => R (.error e) s') s₁) (notedBy (model prog w) A env fun e s' => R (.error e) s') s)
    (n : Nat) (h : I n s) : codeAny (model prog w) A (.forLoop target it body orelse env) R s := by
  refine codeAny_loop' rfl I (fun n s hI => ?_) n h
  show wpAny _ _ ((forTurn target it body orelse env).onRaise (fun x => do noteFrame x env; theTreesLotGoes x)) _ _ s
  refine wpAny_noted ?_
  simp only [forTurn]
  refine zIt (wpAny_standAt (zIt (wpAny_onRaise (zIv (turn n s hI) (fun r s₁ h₁ => ?_) fun _ _ h' => wpAny_standAt h'))))
  cases r with
  | none => exact zIu (.inr ⟨rfl, codeAny_block h₁⟩)
  | some v =>
    refine zIt (zIv h₁ (fun _ s₁' h₁' => ?_) fun _ _ h' => h')
    refine zIt (zIv h₁' (fun _ s₂ h₂ => zIt (zIv h₂ (fun f s₃ h₃ => ?_) fun _ _ h' => h')) fun _ _ h' => h')
    cases f with
    | next => exact zIu (.inl ⟨rfl, h₃⟩)
    | cont => exact zIu (.inl ⟨rfl, h₃⟩)
    | brk => exact zIu h₃
    | ret v => exact zIu h₃
def SrcB (prog : Program) (w : World) (X : Fix) (Γ : List (Str × VP)) (ψ ω : PM) (s : Shared) (iter tgt : Expr) (n : Nat) (Tg : Nat → List (Str × VP)) : Prop :=
  wpAny (model prog w) X.A (eval iter X.env) (fun v s2 => wpAny (model prog w) X.A (pyIter v) (fun it s' => ∃ ψ1 m1 wr fz St,
    Le ψ ψ1 ∧ S X m1 ψ1 (zAS ω wr s'.heap) s' ∧ Typ Γ ψ1 m1 ∧ zCU prog w X.A ψ1 tgt it wr fz n Tg St ∧ St 0 s'.heap ∧ (∀ b ∈ wr, ω b = none) ∧ (∀ b ∈ fz, ∃ o, ψ1 b = some o)) (fun _ _ => False) s2) (fun _ _ => False) s
theorem SrcB.of {iter tgt : Expr} {nn : Nat} {Tg : Nat → List (Str × VP)} (c : CX ⟨k, n⟩ X) (hI : zHW prog w ⟨k, n⟩ X.env.scope Γ ψ iter tgt nn Tg) (b : B X Γ ψ ω s) : SrcB prog w X Γ ψ ω s iter tgt nn Tg := by
  obtain ⟨m, x, t⟩ := b
  refine zIv (hI X.A X.env m ψ s rfl (x.cx c) (Le.refl _) x.fram t) (fun v s0 h0 => zIv h0 (fun it s2 h2 => ?_) fun _ _ e => e.elim) fun _ _ e => e.elim
  obtain ⟨ψ1, s1, wr, fz, St, g1, V, hst, hnew, hfz, hext⟩ := h2
  have x1 := x.grow c g1
  refine ⟨ψ1, m, wr, fz, St, g1.le, x1.wnew c hext hnew, t.le g1.le, V, hst, fun b hb => ?_, hfz⟩
  cases q : ω b with
  | none => rfl
  | some o => have := (x1.own b o q).1; rw [hnew b hb] at this; cases this
theorem zIR {tgt : Expr} {pos : Pos} {iter : Expr} {body rest : List Stmt} {nn : Nat} {Tg : Nat → List (Str × VP)} {Q : Flow → Shared → Prop} {E : Value → Shared → Prop} (J : Nat → List (Str × VP) → PM → PM → Prop) (b : B X Γ ψ ω s) (c : CX ⟨k, n⟩ X) (hI : SrcB prog w X Γ ψ ω s iter tgt nn Tg) (hk : ∀ i < nn, ∀ p ∈ Tg i, zK X p.1) (Jst : ∀ i Γ' ψ' ω₁ ω₂, J i Γ' ψ' ω₁ → (∀ a o, ω a = some o → ω₂ a = ω₁ a) → J i Γ' ψ' ω₂) (h0 : ∀ ψ', Le ψ ψ' → J 0 Γ ψ' ω) (turn : ∀ i Γi ψi ωi si, i < nn → J i Γi ψi ωi → Le ψ ψi → B X (Tg i ++ Γi) ψi ωi si →
      wpAny (model prog w) X.A (execs body X.env) (forQ prog w X J i ω ψi ωi rest Q E) (forE prog w X E) si)
    (done : ∀ Γ' ψ' ω' s', J nn Γ' ψ' ω' → Le ψ ψ' → B X Γ' ψ' ω' s' → wpAny (model prog w) X.A (execs rest X.env) Q E s')
    (hs : autoParam (∀ x, foldedSetIterable iter X.env x = pure x) au2) : wpAny (model prog w) X.A (execs (.For tgt iter body [] pos :: rest) X.env) Q E s := by
  refine z9 (wpAny_For (zIv hI (fun v s0 hz0 => zIv hz0 (fun it s2 h2 => ?_) fun _ _ e => e.elim) fun _ _ e => e.elim) hs)
  obtain ⟨ψ1, m1, wr, fz, St, l1, x2, t1, V, hst, hwrω, hfz⟩ := h2
  refine zFP (fun nk s3 => ∃ i Γi ψi ωi, nk = nn - i ∧ i ≤ nn ∧ J i Γi ψi ωi ∧ B X Γi ψi ωi s3 ∧ Le ψ1 ψi ∧ St i s3.heap ∧ ∀ b ∈ wr, ∃ o, ωi b = some o) ?_ nn ?_
  · rintro nk s3 ⟨i, Γi, ψi, ωi, rfl, hle, hJ, ⟨m3, x3, t3⟩, l3, hst3, hw3⟩
    by_cases hlt : i < nn
    · refine zIv (V.step i X m3 ψi ωi s3 (fun _ s' => ∃ m', S X m' ψi (zAS ωi wr s'.heap) s' ∧ Typ (Tg i ++ Γi) ψi m' ∧ St (i + 1) s'.heap) (fun _ _ => False) hlt x3 l3 hst3 hw3 (hk i hlt) fun m' s' Y' T' hs' => ⟨m', Y', T' Γi t3, hs'⟩) (fun r s4 hr => ?_) fun _ _ e => e.elim
      obtain ⟨v, rfl, h1⟩ := hr
      refine zIv h1 (fun _ s5 h5 => zIv h5 (fun _ s6 h6 => ?_) fun _ _ e => e.elim) fun _ _ e => e.elim
      obtain ⟨m6, x6, t6, hst6⟩ := h6
      have l4 : Le ψ ψi := l1.trans l3
      have hw6 : ∀ b ∈ wr, ∃ o, zAS ωi wr s6.heap b = some o := fun b hb => by rw [zBD hb]; exact V.live _ _ hst6 b hb
      have frame : ∀ {Γ5 ψ5 ω5 s5}, B X Γ5 ψ5 ω5 s5 → Le ψi ψ5 → (∀ a o, zAS ωi wr s6.heap a = some o → ω a = none → ω5 a = some o) → St (i + 1) s5.heap := by
        rintro Γ5 ψ5 ω5 s5 ⟨m5, x5, _⟩ l5 hω
        exact V.keepS hfz hst6 x6 x5 l3 (l3.trans l5) fun b hb => by obtain ⟨o, ho⟩ := hw6 b hb; exact ⟨o, ho, hω b o ho (hwrω b hb)⟩
      have hJ6 : J i Γi ψi (zAS ωi wr s6.heap) := Jst i Γi ψi ωi _ hJ fun a o e => zk fun hm => by rw [hwrω a hm] at e; cases e
      refine zIv (turn i Γi ψi _ s6 hlt hJ6 l4 ⟨m6, x6, t6⟩) (fun fl s7 q => ?_) fun _ _ e => e
      cases fl with
      | ret v => exact q
      | brk => exact q
      | next =>
        obtain ⟨Γ6, ψ6, ω6, hJ6, l6, b6, hω6⟩ := q
        refine ⟨nn - (i + 1), by omega, i + 1, Γ6, ψ6, ω6, rfl, hlt, hJ6, b6, l3.trans l6, frame b6 l6 hω6, fun b hb => ?_⟩
        obtain ⟨o, ho⟩ := hw6 b hb
        exact ⟨o, hω6 b o ho (hwrω b hb)⟩
      | cont =>
        obtain ⟨Γ6, ψ6, ω6, hJ6, l6, b6, hω6⟩ := q
        refine ⟨nn - (i + 1), by omega, i + 1, Γ6, ψ6, ω6, rfl, hlt, hJ6, b6, l3.trans l6, frame b6 l6 hω6, fun b hb => ?_⟩
        obtain ⟨o, ho⟩ := hw6 b hb
        exact ⟨o, hω6 b o ho (hwrω b hb)⟩
    · have hin : i = nn := by omega
      subst hin
      refine V.done X m3 ψi ωi s3 _ _ x3 l3 hst3 hw3 fun s4 x4 => ?_
      have hJ5 : J i Γi ψi (zAS ωi wr s4.heap) := Jst _ Γi ψi ωi _ hJ fun a o e => zk fun hm => by rw [hwrω a hm] at e; cases e
      exact wpAny_execs_nil (done Γi ψi _ _ hJ5 (l1.trans l3) ⟨m3, x4, t3⟩)
  · refine ⟨0, Γ, ψ1, zAS ω wr s2.heap, rfl, Nat.zero_le _, Jst 0 Γ ψ1 ω _ (h0 ψ1 l1) fun a o e => zk fun hm => ?_, ⟨m1, x2, t1⟩, Le.refl _, hst, fun b hb => ?_⟩
    · rw [hwrω a hm] at e; cases e
    · rw [zBD hb]; exact V.live _ _ hst b hb
theorem st_for {tgt : Expr} {pos : Pos} {iter : Expr} {body rest : List Stmt} {P : VP} {nn : Nat} {Tg : Nat → List (Str × VP)} {Q : Flow → Shared → Prop} {E : Value → Shared → Prop} (J : Nat → List (Str × VP) → PM → PM → Prop) (b : B X Γ ψ ω s) (c : CX ⟨k, n⟩ X) (hi : Ev prog w ⟨k, n⟩ X.env.scope Γ ψ iter P) (hI : Src prog w ⟨k, n⟩ ψ tgt P nn Tg) (hk : ∀ i < nn, ∀ p ∈ Tg i, zK X p.1) (Jst : ∀ i Γ' ψ' ω₁ ω₂, J i Γ' ψ' ω₁ → (∀ a o, ω a = some o → ω₂ a = ω₁ a) → J i Γ' ψ' ω₂) (h0 : ∀ ψ', Le ψ ψ' → J 0 Γ ψ' ω) (turn : ∀ i Γi ψi ωi si, i < nn → J i Γi ψi ωi → Le ψ ψi → B X (Tg i ++ Γi) ψi ωi si →
      wpAny (model prog w) X.A (execs body X.env) (forQ prog w X J i ω ψi ωi rest Q E) (forE prog w X E) si)
    (done : ∀ Γ' ψ' ω' s', J nn Γ' ψ' ω' → Le ψ ψ' → B X Γ' ψ' ω' s' → wpAny (model prog w) X.A (execs rest X.env) Q E s')
    (hs : autoParam (∀ x, foldedSetIterable iter X.env x = pure x) au2) : wpAny (model prog w) X.A (execs (.For tgt iter body [] pos :: rest) X.env) Q E s :=
  zIR J b c (SrcB.of c (zHW.of hi hI) b) hk Jst h0 turn done hs
theorem zDP (elt : Expr) (g1 g2 : Comprehension) (h1 : g1.is_async = 0) (h2 : g2.is_async = 0) (h3 : g1.ifs = []) (scope : Scope) (pos : Pos) (it acc : Value) (env : Env) : compTurn (.ListComp elt [g1, g2] scope pos) 0 it acc env = (do
      standAt g1.iter.pos
      match ← pyNext it with
      | none => pure (.done .next)
      | some v =>
        letOwnedTupleGo g1.target it v
        assign g1.target env v
        let x ← eval g2.iter env
        standAt g2.iter.pos
        let x ← foldedSetIterable g2.iter env x
        let _ ← runOwn (.compStart (.ListComp elt [g1, g2] scope pos) 1 (← holding [x] (pyIter x)) acc env) env
        again (.compLoop (.ListComp elt [g1, g2] scope pos) 0 it acc env)) := by
  obtain ⟨t1, i1, f1, a1⟩ := g1
  obtain ⟨t2, i2, f2, a2⟩ := g2
  simp only at h1 h2 h3
  subst h1 h2 h3
  rfl
theorem zDQ (elt tgt iter : Expr) (ifs : List Expr) (g1 : Comprehension) (scope : Scope) (pos : Pos) (it acc : Value) (env : Env) : compTurn (.ListComp elt [g1, ⟨tgt, iter, ifs, 0⟩] scope pos) 1 it acc env = (do
      standAt iter.pos
      match ← pyNext it with
      | none => pure (.done .next)
      | some v =>
        letOwnedTupleGo tgt it v
        assign tgt env v
        let mut ok := true
        for c in ifs do
          if ok then ok ← isTrue c env (eval c env)
        if ok then
          (do let _ ← call (.builtin "list.append") [acc, ← eval elt env])
        again (.compLoop (.ListComp elt [g1, ⟨tgt, iter, ifs, 0⟩] scope pos) 1 it acc env)) := by rfl
theorem zBr {elt tgt iter ifs g1 scope pos it acc env} {R : Result → Shared → Prop} (h0 : codeAny (model prog w) A (.compLoop (.ListComp elt [g1, ⟨tgt, iter, ifs, 0⟩] scope pos) 1 it acc env) R s) (h : wpAny (model prog w) A (pyIter it) (fun it' s' => codeAny (model prog w) A (.compLoop (.ListComp elt [g1, ⟨tgt, iter, ifs, 0⟩] scope pos) 1 it' acc env) R s')
      (notedBy (model prog w) A env fun x s' => R (.error x) s') s) :
    codeAny (model prog w) A (.compStart (.ListComp elt [g1, ⟨tgt, iter, ifs, 0⟩] scope pos) 1 it acc env) R s := by
  refine codeAny_of_tree ?_
  show wpAny _ _ ((compStart (.ListComp elt [g1, ⟨tgt, iter, ifs, 0⟩] scope pos) 1 it acc env).onRaise (fun x => do noteFrame x env; standAt theWindowsPlace)) _ _ s
  refine wpAny_notedAt ?_
  unfold compStart
  show wpAny _ _ (ask >>= _) _ _ s
  refine zIt (wpAny_askSetting (wpAny_ite ?_))
  split
  · first
      | exact zIt (zIu (zIu (And.intro rfl h0)))
      | exact zIu (And.intro rfl h0)
  · first
      | exact zIt (wpAny_rule (zIt (wpAny_standAt (zIt (zIv h (fun it' s' h' => zIu (And.intro rfl h')) fun _ _ x => x)))))
      | (refine zIt (wpAny_rule ?_); show wpAny _ _ (standAt iter.pos >>= _) _ _ s; exact zIt (wpAny_standAt (zIt (zIv h (fun it' s' h' => zIu (And.intro rfl h')) fun _ _ x => x))))
noncomputable def zHY (n2 : Nat → Nat) (keep : Nat → Nat → Bool) (R : Nat → Nat → VP) (i : Nat) : List VP := (List.range (n2 i)).flatMap (pick (keep i) (R i))
theorem ev_comp2 {elt tgt1 iter1 tgt2 iter2 : Expr} {ifs2 : List Expr} {pos : Pos} {P1 : VP} {n1 : Nat} {Tg1 : Nat → List (Str × VP)} {P2 : Nat → VP} {n2 : Nat → Nat} {Tg2 : Nat → Nat → List (Str × VP)} {keep : Nat → Nat → Bool} {R : Nat → Nat → VP} (hi : Ev prog w ⟨k + 1, b⟩ sc Γ φ iter1 P1) (hI : Src prog w ⟨k + 1, b⟩ φ tgt1 P1 n1 Tg1) (hok : zf sc scope = true) (hT : ∀ i < n1, ∀ p ∈ Tg1 i, own scope p.1 = true) (hi2 : ∀ i < n1, Ev prog w ⟨k, b⟩ (zBM scope sc) (Tg1 i ++ zBQ scope Γ) φ iter2 (P2 i)) (hI2 : ∀ i < n1, Src prog w ⟨k, b⟩ φ tgt2 (P2 i) (n2 i) (Tg2 i)) (hT2 : ∀ i < n1, ∀ j < n2 i, ∀ p ∈ Tg2 i j, own scope p.1 = true ∧ (Tg1 i).lookup p.1 = none) (ht : ∀ i < n1, ∀ j < n2 i, EvT prog w ⟨k, b⟩ (zBM scope sc) (Tg2 i j ++ (Tg1 i ++ zBQ scope Γ)) φ ifs2 (keep i j)) (hel : ∀ i < n1, ∀ j < n2 i, keep i j = true → Ev prog w ⟨k, b⟩ (zBM scope sc) (Tg2 i j ++ (Tg1 i ++ zBQ scope Γ)) φ elt (R i j)) (hsz : ∀ i < n1, ((List.range i).flatMap (zHY n2 keep R)).length + n2 i ≤ sizeLine) (hs : autoParam (∀ env x, foldedSetIterable iter1 env x = pure x) au1) (hs2 : autoParam (∀ env x, foldedSetIterable iter2 env x = pure x) au1) : Ev prog w ⟨k + 1, b⟩ sc Γ φ (.ListComp elt [⟨tgt1, iter1, [], 0⟩, ⟨tgt2, iter2, ifs2, 0⟩] scope pos) (zB ((List.range n1).flatMap (zHY n2 keep R))) := by
  intro A env m ψ s he c le f t
  rw [eval_ListComp]
  refine zDl (L := (List.range n1).flatMap (zHY n2 keep R)) (g := ⟨tgt1, iter1, [], 0⟩) rfl (hs env) he c le f t (zHW.of hi hI) hok (fun X it acc wr fz St m ω s hA₀ hA I => ?_) fun acc C ψ' s' m' g p hC hCψ hns => ?_
  rotate_left
  · refine ⟨m', hns, fun h' hs' => ⟨ψ', ⟨?_, g.le, fun b o e => (hs'.2 b (fun q => by rw [q, hCψ] at e; cases e)).trans (g.sub b o e), g.new⟩, p⟩⟩
    exact g.ext.but (W := fun b => b = C) (fun b hb => by rw [hb]; exact hC) ⟨h', s'.toks, rfl⟩ fun b ob hb e => (hs'.2 b hb).trans e
  subst hA
  have V := I.steps
  have cx := I.cx
  have L : ∀ s1, s1 = s → codeAny (model prog w) X.A (.compLoop (.ListComp elt [⟨tgt1, iter1, [], 0⟩, ⟨tgt2, iter2, ifs2, 0⟩] scope pos) 0 it (.ref acc) X.env) (compR X acc ((List.range n1).flatMap (zHY n2 keep R))) s1 := by
    rintro s1 rfl
    refine zDa (ks := []) (wr := wr) (St := St) (Γc := zBQ scope Γ) (vs0 := []) (L := zHY n2 keep R) (nn := n1) rfl I.st I.st0 I.typ I.wrO I.accO (fun i m ψ ω s vs j hlt Y l t ha hw hs hlen => ?_) (fun m ψ ω s vs j Y l t ha hw hs => ?_)
      (fun m' ψ' ω' s' vs j Y' l' _ ha _ hall => ⟨rfl, m', ψ', ω', vs, j, Y', by simpa using ha, hall⟩)
    all_goals
      show wpAny _ X.A ((compTurn (.ListComp elt [⟨tgt1, iter1, [], 0⟩, ⟨tgt2, iter2, ifs2, 0⟩] scope pos) 0 it (.ref acc) X.env).onRaise (fun x => do noteFrame x X.env; theTreesLotGoes x)) _ _ s
      refine wpAny_noted ?_
      rw [zDP _ _ _ rfl rfl rfl]
      refine zIt (wpAny_standAt (zIt ?_))
    · refine zIv (V.step i X m ψ ω s (fun _ s' => ∃ m', S X m' ψ (zAS ω wr s'.heap) s' ∧ Typ (Tg1 i ++ zBQ scope Γ) ψ m' ∧ St (i + 1) s'.heap) (fun _ _ => False) hlt Y l hs hw (fun p hp => I.sto _ (hT i hlt p hp)) fun m' s' Y' T' hs' => ⟨m', Y', T' _ t, hs'⟩) (fun r s1 hr => ?_) fun _ _ e => e.elim
      obtain ⟨v, rfl, h1⟩ := hr
      refine zIt (zIv h1 (fun _ s2 h2 => ?_) fun _ _ e => e.elim)
      refine zIt (zIv h2 (fun _ s' h3 => ?_) fun _ _ e => e.elim)
      obtain ⟨m', Y', t1, hs'⟩ := h3
      have hw1 : ∀ b ∈ wr, ∃ o, zAS ω wr s'.heap b = some o := fun b hb => by rw [zBD hb]; exact V.live _ _ hs' b hb
      have ha1 : zAS ω wr s'.heap acc = some (lst vs j) := by rw [zk I.ne]; exact ha
      refine zIt ((hi2 i hlt X.A X.env m' ψ s' I.sc (Y'.cx cx) (I.le.trans l) Y'.fram t1).use fun xv ψ2 s2 g2 p2 => ?_)
      have Y2 := Y'.grow cx g2
      refine zIt (wpAny_standAt (zIt (wpAny_of_eq (hs2 X.env xv) (zIt (zIw ?_)))))
      refine zIv (hI2 i hlt X.A ψ2 s2 xv (Y2.cx cx) (I.le.trans (l.trans g2.le)) p2) (fun it2 s3 h3 => ?_) fun _ _ e => e.elim
      obtain ⟨wr2, fz2, St2, V2, hst2, hnew2, hfz2, hext2⟩ := h3
      have Y3 := Y2.wnew cx hext2 hnew2
      have hwr2 : ∀ b ∈ wr2, zAS ω wr s'.heap b = none := fun b hb => by
        cases q : zAS ω wr s'.heap b with
        | none => rfl
        | some o => have := (Y2.own b o q).1; rw [hnew2 b hb] at this; cases this
      have hwr : ∀ b ∈ wr, b ∉ wr2 := fun b hb h2 => by obtain ⟨o, ho⟩ := hw1 b hb; rw [hwr2 b h2] at ho; cases ho
      have hacc2 : acc ∉ wr2 := fun h2 => by rw [hwr2 acc h2] at ha1; cases ha1
      have ha3 : zAS (zAS ω wr s'.heap) wr2 s3.heap acc = some (lst vs j) := by rw [zk hacc2]; exact ha1
      have hw3 : ∀ b ∈ wr2, ∃ o, zAS (zAS ω wr s'.heap) wr2 s3.heap b = some o := fun b hb => by rw [zBD hb]; exact V2.live _ _ hst2 b hb
      have L2 : codeAny (model prog w) X.A (.compLoop (.ListComp elt [⟨tgt1, iter1, [], 0⟩, ⟨tgt2, iter2, ifs2, 0⟩] scope pos) 1 it2 (.ref acc) X.env)
          (fun r s4 => r = .ok .next ∧ Tn X acc wr [] St (zBQ scope Γ) ψ ω vs i (zHY n2 keep R i) s4) s3 := by
        refine zDk (ks := wr) (iter := iter2) (tgt := tgt2) (ifs := ifs2) (vs0 := vs) (Γc := Tg1 i ++ zBQ scope Γ) (keep := keep i) (E := R i) (fun _ _ _ => zDQ ..) cx I.sc V2 hst2 hfz2 Y3 (t1.le g2.le) hw3 ha3 hacc2
          (fun b hb => ⟨hwr b hb, fun q => I.ne (q ▸ hb)⟩) (fun jj hj p hp => I.sto _ (hT2 i hlt jj hj p hp).1) (fun jj hj ψ m t => t.sub fun x P hx => ?_)
          (fun jj hj A env m ψ s h1 h2 h3 h4 h5 => ht i hlt jj hj A env m ψ s h1 h2 (I.le.trans (l.trans (g2.le.trans h3))) h4 h5) (fun jj hj hk => (hel i hlt jj hj hk).le (I.le.trans (l.trans g2.le))) (by have := hsz i hlt; rw [List.length_nil, Nat.zero_add] at hlen; omega) ?_
        · have : (Tg2 i jj).lookup x = none := by
            cases q : (Tg2 i jj).lookup x with
            | none => rfl
            | some P' =>
              obtain ⟨h1, h2⟩ := hT2 i hlt jj hj _ (mem_of_lookup q)
              simp only at h1 h2
              rw [List.lookup_append, h2] at hx
              have hm := mem_of_lookup (show (zBQ scope Γ).lookup x = some P by simpa using hx)
              have := (List.mem_filter.mp hm).2
              rw [h1] at this; simp at this
          rw [List.lookup_append, this]; simpa using hx
        · intro m4 ψ4 ω4 s4 vs4 j4 Y4 l4 t4 ha4 hk4 hall4
          refine ⟨rfl, m4, ψ4, ω4, vs4, j4, Y4, g2.le.trans l4, zFC (hT i hlt) t4, ha4, fun b hb => ?_, (fun b hb => by cases hb), ?_, hall4⟩
          · rw [hk4 b hb, zk (hwr b hb)]; exact hw1 b hb
          · exact V.keepS I.fzO hs' Y' Y4 l (l.trans (g2.le.trans l4)) fun b hb => by
              obtain ⟨o, ho⟩ := hw1 b hb
              exact ⟨o, ho, by rw [hk4 b hb, zk (hwr b hb)]; exact ho⟩
      refine zIt (wpAny_runOwn (h := none) ?_)
      show codeAny (model prog w) X.A _ _ _
      have L3 := zBr L2 (V2.self 0 _ _ _ hst2 L2)
      refine codeAny_mono L3 fun r s4 hr => ?_
      obtain ⟨rfl, hT⟩ := hr
      exact zIu ⟨rfl, hT⟩
    · refine V.done X m ψ ω s _ _ Y l hs hw fun s' Y' => ?_
      exact zIu ⟨rfl, _, Y', by rw [zk I.ne]; exact ha, fun b hb => by cases hb⟩
  exact codeAny_compStart_list (L _ rfl) (V.self 0 _ _ _ I.st (L _ rfl))
end
section
def OfT (P : VP) (T : String) : Prop := ∀ ψ v (s : Shared), Sub ψ s.heap → P.p ψ v → s.TypeIs v T
theorem zGB {c : String} {ps : List VP} : OfT (vSeq c ps) c := by
  rintro ψ v s hs ⟨a, vs, n, rfl, ho, _⟩
  exact ⟨_, hs _ _ ho, rfl⟩
theorem zAV : typeLookup (.type "list") "__getitem__" = pure (some (.builtin "list.__getitem__")) := slot_list_getitem.lookup
theorem zBS : typeLookup (.type "tuple") "__getitem__" = pure (some (.builtin "tuple.__getitem__")) := PySem.F.slot_tuple_getitem.lookup
theorem ev_sub {value slice : Expr} {pos : Pos} {P I R : VP} {T id : String} (hT : OfT P T) (hl : typeLookup (.type T) "__getitem__" = pure (some (.builtin id))) (hv : Ev prog w μ sc Γ φ value P) (hi : Ev prog w μ sc Γ φ slice I) (ho : Op2 prog w μ φ getItem P I R) (hsl : (∀ o i, subscripted slice false o i = operate [o, i] (getItem o i)) ∨ (∀ o i, subscripted slice false o i = operate [i, o] (getItem o i))) : Ev prog w μ sc Γ φ (.Subscript value slice pos) R := by
  intro A env m ψ s he c le f t
  rw [arm_eval_Subscript]
  refine zBJ.bind (hv A env m ψ s he c le f t) fun o ψ1 s1 g1 p1 => ?_
  have c1 := c.grow g1
  refine zIt (zIw ((hi A env m ψ1 s1 he c1 (le.trans g1.le) (f.ext g1.ext) (t.le g1.le)).use fun i ψ2 s2 g2 p2 => ?_))
  have p1' := P.mono g2.le p1
  have hT2 := hT ψ2 o s2 g2.sub p1'
  refine zIt (wpAny_standAt (zIt ?_))
  rw [getitemInPython_of_ne hT2.not_modules]
  refine zIt (wpAny_specialOf hT2 hl ?_)
  have fin : ∀ l, wpAny (model prog w) A (operate l (getItem o i)) (fun r s3 => wpAny (model prog w) A (letTemporaryGo value o r >>= fun _ => pure r) (fun v s' => ∃ ψ', zQ (frs A) ψ1 s1 ψ' s' ∧ R.p ψ' v) (fun _ _ => False) s3) (fun _ _ => False) s2 := fun l =>
    zAt ((ho A ψ2 s2 o i (c1.grow g2) (le.trans (g1.le.trans g2.le)) p1' p2).use fun v ψ3 s3 g3 p3 => zIt (wpAny_letTemporaryGo (zIu ⟨ψ3, g2.trans g3, p3⟩)))
  rcases hsl with h | h
  · refine zIu (zIt ?_)
    rw [h]; exact fin _
  · refine zIu (zIt ?_)
    rw [h]; exact fin _
theorem zY {ps : List VP} {i : Int} {P : VP} (h0 : 0 ≤ i) (hi : i < 2 ^ 63) (he : ps[i.toNat]? = some P) : Op2 prog w μ φ getItem (zB ps) (vInt i) P := by
  rintro A ψ s _ _ c l ⟨a, vs, j, rfl, ho, hall⟩ ⟨t, rfl⟩
  obtain ⟨v, hv, hp⟩ := hall.get he
  exact wpAny_getItem_list (items := vs.toArray) ⟨_, c.sub _ _ ho, rfl, j, rfl⟩ h0 hi (by simpa using hv) ⟨ψ, zQ.refl c.sub, hp⟩
theorem zCO {ps : List VP} {i : Int} {P : VP} (h0 : i < 0) (h1 : -(ps.length : Int) ≤ i) (hi : -(2 ^ 63) ≤ i) (he : ps[(i + ps.length).toNat]? = some P) : Op2 prog w μ φ getItem (zB ps) (vInt i) P := by
  rintro A ψ s _ _ c l ⟨a, vs, j, rfl, ho, hall⟩ ⟨t, rfl⟩
  obtain ⟨v, hv, hp⟩ := hall.get he
  have hlen := hall.length
  exact wpAny_getItem_list_neg (items := vs.toArray) ⟨_, c.sub _ _ ho, rfl, j, rfl⟩ h0 (by rw [List.size_toArray, ← hlen]; exact h1) hi (by rw [List.size_toArray, ← hlen]; simpa using hv) ⟨ψ, zQ.refl c.sub, hp⟩
theorem zBG {ps : List VP} {i : Nat} {P : VP} (hi : (i : Int) < 2 ^ 63) (he : ps[i]? = some P) : Op2 prog w μ φ getItem (zCQ ps) (vInt i) P := by
  rintro A ψ s _ _ c l ⟨a, vs, j, rfl, ho, hall⟩ ⟨t, rfl⟩
  obtain ⟨v, hv, hp⟩ := hall.get he
  have hlt : i < vs.length := by
    have := List.getElem?_eq_some_iff.mp hv
    exact this.1
  refine getItem_tuple (items := vs.toArray) (j := i) ⟨_, c.sub _ _ ho, rfl, j, rfl⟩ (by omega) hi ?_ (by simpa using hv) ⟨ψ, zQ.refl c.sub, hp⟩
  unfold seqIndex?
  have h1 : ¬ ((i : Int) < 0) := by omega
  have h2 : (0 ≤ (i : Int) && (i : Int) < ((vs.toArray.size : Nat) : Int)) = true := by simp; exact hlt
  simp only [h1, if_false]
  rw [if_pos h2]; simp
noncomputable def vPart : Option Int → VP
  | none => zCT
  | some i => vInt i
noncomputable def zCs (lo hi st : Option Int) : VP := ⟨fun φ v => ∃ a vl vu vs, v = .ref a ∧ φ a = some { cls := .type "slice", data := .fields #[vl, vu, vs] } ∧ IsPart vl lo ∧ IsPart vu hi ∧ IsPart vs st, fun le h => by obtain ⟨a, vl, vu, vs, e, h, r⟩ := h; exact ⟨a, vl, vu, vs, e, le _ _ h, r⟩⟩
theorem zEK {o : Option Int} {v : Value} (h : (vPart o).p ψ v) : IsPart v o := by
  cases o with
  | none => cases h; exact .none
  | some i => obtain ⟨t, rfl⟩ := h; exact .int i t
noncomputable def EvP (prog : Program) (w : World) (μ : Md) (sc : Scope) (Γ : List (Str × VP)) (φ : PM) : Option Expr → Option Int → Prop
  | none, o => o = none
  | some e, o => ∃ i, o = some i ∧ Ev prog w μ sc Γ φ e (vInt i)
theorem zCz {x : Option Expr} {o : Option Int} (h : EvP prog w μ sc Γ φ x o) {A : Around} {env : Env} {m : Str → Option Value} {s : Shared} (he : env.scope = sc) (c : Cx μ A ψ s) (le : Le φ ψ) (f : zCl env m s.heap) (t : Typ Γ ψ m) : zBJ prog w A ψ s (evalPart x env) (vPart o) := by
  cases x with
  | none => cases h; exact zBJ.pure c.sub rfl
  | some e => obtain ⟨i, rfl, h⟩ := h; exact h A env m ψ s he c le f t
theorem ev_slice {lower upper step : Option Expr} {p : Pos} {lo hi st : Option Int} (h1 : EvP prog w μ sc Γ φ lower lo) (h2 : EvP prog w μ sc Γ φ upper hi) (h3 : EvP prog w μ sc Γ φ step st) : Ev prog w μ sc Γ φ (.Slice lower upper step p) (zCs lo hi st) := by
  intro A env m ψ s he c le f t
  refine wpAny_Slice ((zCz h1 he c le f t).use fun v1 ψ1 s1 g1 p1 => ?_)
  have c1 := c.grow g1
  refine (zCz h2 he c1 (le.trans g1.le) (f.ext g1.ext) (t.le g1.le)).use fun v2 ψ2 s2 g2 p2 => ?_
  have g12 := g1.trans g2
  refine (zCz h3 he (c1.grow g2) (le.trans g12.le) (f.ext g12.ext) (t.le g12.le)).use fun v3 ψ3 s3 g3 p3 => ?_
  exact ⟨_, (g12.trans g3).trans (zQ.push g3.sub _ rfl s3.toks), _, _, _, _, rfl, zA _ _ _, zEK p1, zEK p2, zEK p3⟩
noncomputable def zBt {α : Type} (items : List α) (lo hi st : Option Int) : List α :=
  (sliceRange (sliceBounds lo hi st items.length).1 (sliceBounds lo hi st items.length).2.1 (sliceBounds lo hi st items.length).2.2).filterMap (items[·]?)
theorem zO.filterMap {α β : Type} {R : α → β → Prop} {as : List α} {bs : List β} (h : zO R as bs) : ∀ (l : List Nat), zO R (l.filterMap (as[·]?)) (l.filterMap (bs[·]?))
  | [] => .nil
  | i :: r => by
    have ih := zO.filterMap h r
    cases q : as[i]? with
    | none =>
      have : bs[i]? = none := by
        rw [List.getElem?_eq_none_iff] at q ⊢
        rw [← h.length]; exact q
      rw [List.filterMap_cons_none q, List.filterMap_cons_none this]; exact ih
    | some a =>
      obtain ⟨b, hb, r'⟩ := h.get q
      rw [List.filterMap_cons_some q, List.filterMap_cons_some hb]
      exact .cons r' ih
theorem zCj {ps : List VP} {lo hi st : Option Int} (h0 : st ≠ some 0) (hsz : ps.length ≤ sizeLine) : Op2 prog w μ φ getItem (zB ps) (zCs lo hi st) (zB (zBt ps lo hi st)) := by
  rintro A ψ s _ _ c l ⟨a, vs, j, rfl, ho, hall⟩ ⟨sa, vl, vu, vst, rfl, hs, p1, p2, p3⟩
  have hlen := hall.length
  refine wpAny_getItem_list_slice (items := vs.toArray) ⟨_, c.sub _ _ ho, rfl, j, rfl⟩ ⟨_, c.sub _ _ hs, rfl, rfl⟩ p1 p2 p3 h0 ?_ (by rw [List.size_toArray, ← hlen]; exact hsz)
  refine ⟨_, zQ.push c.sub _ rfl s.toks, _, zBt vs lo hi st, 0, rfl, ?_, ?_⟩
  · rw [zA]
    unfold slicePick zBt
    simp
  · unfold zBt
    rw [hlen]
    exact (hall.filterMap _).imp fun P v x => P.mono (zL (zE c.sub (zF _))) x
theorem zC8 {ps qs : List VP} (hsz : ps.length + qs.length ≤ sizeLine) : Op2 prog w μ φ (binaryOp .Add) (zB ps) (zB qs) (zB (ps ++ qs)) := by
  rintro A ψ s _ _ c l ⟨a, vs, j, rfl, ho, hall⟩ ⟨a', vs', j', rfl, ho', hall'⟩
  refine PySem.P.add_list (items := vs.toArray) (items2 := vs'.toArray) (c.sub _ _ ho) (c.sub _ _ ho') ?_ (by simp only [List.size_toArray]; rw [← hall.length, ← hall'.length]; exact hsz)
  refine ⟨_, zQ.push c.sub _ rfl s.toks, _, vs ++ vs', 0, rfl, ?_, ?_⟩
  · rw [zA]; simp
  · exact (hall.append hall').imp fun P v x => P.mono (zL (zE c.sub (zF _))) x
theorem za {P : VP} {vs : List Value} (h : zO (fun (P : VP) v => P.p ψ v) [P] vs) : ∃ v, vs = [v] ∧ P.p ψ v := by cases h with | cons h1 h => cases h; exact ⟨_, rfl, h1⟩
theorem zEA {P Q : VP} {vs : List Value} (h : zO (fun (P : VP) v => P.p ψ v) [P, Q] vs) : ∃ v u, vs = [v, u] ∧ P.p ψ v ∧ Q.p ψ u := by cases h with | cons h1 h => cases h with | cons h2 h => cases h; exact ⟨_, _, rfl, h1, h2⟩
theorem zBH {P Q R : VP} {vs : List Value} (h : zO (fun (P : VP) v => P.p ψ v) [P, Q, R] vs) : ∃ v u z, vs = [v, u, z] ∧ P.p ψ v ∧ Q.p ψ u ∧ R.p ψ z := by cases h with | cons h1 h => cases h with | cons h2 h => cases h with | cons h3 h => cases h; exact ⟨_, _, _, rfl, h1, h2, h3⟩
theorem zB3 {ps : List VP} (hsz : (ps.length : Int) < 2 ^ 63) : zj prog w μ φ (.builtin "len") [zB ps] (vInt ps.length) := by
  intro A ψ s vs c l h
  obtain ⟨v, rfl, a, us, j, rfl, ho, hall⟩ := za h
  refine call_len_list (items := us.toArray) ⟨_, c.sub _ _ ho, rfl, j, rfl⟩ (by rw [List.size_toArray, ← hall.length]; exact hsz) ⟨ψ, zb c.sub, s.toks + 1, by rw [List.size_toArray, ← hall.length]⟩
theorem zHT {ps : List VP} (hsz : (ps.length : Int) < 2 ^ 63) : zj prog w μ φ (.builtin "len") [zCQ ps] (vInt ps.length) := by
  intro A ψ s vs c l h
  obtain ⟨v, rfl, a, us, j, rfl, ho, hall⟩ := za h
  refine len_tuple (items := us.toArray) ⟨_, c.sub _ _ ho, rfl, j, rfl⟩ (by rw [List.size_toArray, ← hall.length]; exact hsz) ⟨ψ, zb c.sub, s.toks + 1, by rw [List.size_toArray, ← hall.length]⟩
theorem zIF {c' : String} {ps : List VP} (hc : c' = "list" ∨ c' = "tuple") (hsz : ps.length ≤ sizeLine) : zj prog w μ φ (.type "list") [vSeq c' ps] (zB ps) := by
  intro A ψ s vs c l h
  obtain ⟨v, rfl, a, us, j, rfl, ho, hall⟩ := za h
  refine call_list_seq (items := us.toArray) a hc (c.sub _ _ ho) rfl rfl (fun h' cap hk hn => ?_) (by rw [List.size_toArray, ← hall.length]; exact hsz)
  have hno := zE c.sub (zF s.heap)
  refine ⟨put ψ s.heap.objs.size { cls := .type "list", data := .seq us.toArray cap }, ⟨Ext.of_keeps (tk := s.toks) hk, zL hno, Sub.put (fun b o e => hk b o (c.sub b o e)) hn, fun b o e => ?_⟩, _, us, cap, rfl, zA _ _ _, hall.imp fun P v x => P.mono (zL hno) x⟩
  by_cases q : b = s.heap.objs.size
  · subst q; exact .inr (zF _)
  · rw [zC q] at e; exact .inl e
end
section
def Rd (P : VP) (d : PyData) : Prop := ∀ ψ (h : Heap) v, Sub ψ h → P.p ψ v → ∃ as, Reads h v d as
theorem rd_int (i : Int) : Rd (vInt i) (.int i) := by rintro ψ h v hs ⟨t, rfl⟩; exact ⟨_, .int i t⟩
theorem rd_all {ps : List VP} {ds : List PyData} (h : zO Rd ps ds) {ψ : PM} {hp : Heap} (hs : Sub ψ hp) : ∀ {vs : List Value}, zO (fun (P : VP) v => P.p ψ v) ps vs → ∃ as, ReadsAll hp vs ds as := by
  induction h with
  | nil => intro vs h; cases h; exact ⟨_, .nil⟩
  | cons h0 _ ih =>
    intro vs h
    cases h with
    | cons h1 h2 =>
      obtain ⟨as, r⟩ := h0 ψ hp _ hs h1
      obtain ⟨bs, rs⟩ := ih h2
      exact ⟨_, .cons r rs⟩
theorem zH9 {ps : List VP} {ds : List PyData} (h : zO Rd ps ds) : Rd (zB ps) (.list ds) := by
  rintro ψ hp v hs ⟨a, vs, n, rfl, ho, hall⟩
  obtain ⟨as, r⟩ := rd_all h hs hall
  exact ⟨_, .list (hs _ _ ho) rfl rfl (by simpa using r)⟩
theorem rd_map {α : Type} {f : α → VP} {g : α → PyData} (h : ∀ a, Rd (f a) (g a)) : ∀ (l : List α), zO Rd (l.map f) (l.map g)
  | [] => .nil
  | a :: r => .cons (h a) (rd_map h r)
theorem zGr {P Q : VP} {da db : PyData} (hk : 7 ≤ μ.k) (hp : Rd P da) (hq : Rd Q db) (ha : PySem.SeqAt.shaped da = true) (hb : PySem.SeqAt.shaped db = true) : Op2 prog w μ φ (compareOp .NotEq) P Q (zN (!PyData.eqv da db)) := by
  intro A ψ s a b c l pa pb
  obtain ⟨as, ra⟩ := hp ψ _ a c.sub pa
  obtain ⟨bs, rb⟩ := hq ψ _ b c.sub pb
  exact ne_dataH ra rb ha hb (by have := c.units; show _ < 9900; omega) ⟨ψ, zQ.refl c.sub, rfl⟩
theorem zBq {x y : Bool} : Op2 prog w μ φ (compareOp .IsNot) (zN x) (zN y) (zN (x != y)) := by
  rintro A ψ s _ _ c l rfl rfl
  exact wpAny_isNot_plain (by cases x <;> cases y <;> rfl) ⟨ψ, zQ.refl c.sub, by cases x <;> cases y <;> rfl⟩
theorem tru_list {ps : List VP} (hsz : ps.length ≤ sizeLine) : Tru prog w μ φ (zB ps) (!ps.isEmpty) := by
  rintro A ψ s v c le ⟨a, vs, j, rfl, ho, hall⟩
  have hl := hall.length
  refine wpAny_truthy_list (items := vs.toArray) ⟨_, c.sub _ _ ho, rfl, j, rfl⟩ ?_ ⟨?_, ψ, zb c.sub⟩
  · rw [List.size_toArray, ← hl]
    have : sizeLine < 2 ^ 63 := by decide
    omega
  · cases hall <;> rfl
theorem zE9 (ns : List Int) : ∀ k, k ≤ ns.length → preSum (fun i => ns.getD i 0) k = (ns.take k).sum
  | 0, _ => rfl
  | k + 1, h => by
    show preSum _ k + _ = _
    rw [zE9 ns k (by omega), List.take_add_one, List.sum_append]
    have : ns[k]? = some (ns.getD k 0) := by rw [List.getElem?_eq_getElem (by omega), List.getD_eq_getElem?_getD, List.getElem?_eq_getElem (by omega)]; rfl
    rw [this]; simp
theorem call_sum {P : VP} {ns : List Int} (h : Itr prog w ⟨k, n⟩ φ P (ns.map vInt)) : zj prog w ⟨k + 1, n⟩ φ (.builtin "sum") [P] (vInt ns.sum) := by
  intro A ψ s vs c l hv
  obtain ⟨v, rfl, p⟩ := za hv
  refine call_sum_walkG ?_
  refine zIv (h A.in1 ψ s v c.in1 l p) (fun it s2 h2 => ?_) fun _ _ e => e.elim
  obtain ⟨I, wr, fz, Pv, St, rfl, V, hst, hnew, hfz, hitem, hext⟩ := h2
  obtain ⟨⟨fp, W, hfp⟩, hlive⟩ := V
  have W' := W.bound
  refine ⟨I, fp, wr, _, _, St, fun i => ns.getD i 0, rfl, W', hst, fun b hb => ?_, fun i v ⟨hi, hv⟩ => ?_, fun h' tk t' hk => ?_⟩
  · rcases hfp b hb with z | z
    · obtain ⟨o, ho⟩ := hlive _ _ hst b z; exact Heap.lt_size ho
    · obtain ⟨o, ho⟩ := hfz b z
      obtain ⟨o', e1⟩ := hext.there (c.sub _ _ ho)
      exact Heap.lt_size e1
  · obtain ⟨Q, hQ, hq⟩ := hitem i v hi hv
    rw [List.getElem?_map] at hQ
    cases q : ns[i]? with
    | none => rw [q] at hQ; cases hQ
    | some j =>
      rw [q] at hQ
      cases hQ
      obtain ⟨t, rfl⟩ := hq
      exact ⟨t, by show Value.int j t = Value.int (ns.getD i 0) t; rw [List.getD_eq_getElem?_getD, q]; rfl⟩
  · have e1 : Ext (frs A) s { s2 with heap := h', toks := tk } := hext.but (W := fun b => b ∈ wr) hnew ⟨h', tk, rfl⟩ fun b ob hb e => hk b ob hb e
    refine ⟨ψ, zQ.of_ext e1 c.sub c.off, t', ?_⟩
    rw [List.length_map, zE9 ns _ (Nat.le_refl _), List.take_length]
end
section
structure zFk (X : Fix) : Prop where
  hx : X.hx = none
  dp : X.A = X.A₀.deeper X.env ∧ X.env.frame = some X.env.locals
def zGM (prog : Program) (w : World) (k : Nat) (n : Bool) (φ : PM) (sc : Scope) (Γ : List (Str × VP)) (body : List Stmt) (R : VP) : Prop :=
  ∀ X ψ s (E : Value → Shared → Prop), X.env.scope = sc → CX ⟨k, n⟩ X → Le φ ψ → (∀ c ∈ X.env.cells.map (·.2), c ∈ X.ft) → zFk X → B X Γ ψ (fun _ => none) s →
    wpAny (model prog w) X.A (execs body X.env) (fun fl s2 => ∃ ψ', zQ X.F X.ψ₀ X.s₀ ψ' s2 ∧ R.p ψ' (zC1 fl)) E s
theorem S.dp {m : Str → Option Value} {ψ ω : PM} {s : Shared} (x : S X m ψ ω s) (h : X.A = X.A₀.deeper X.env) (hx : X.hx = none) : X.A = X.A₀.deeper X.env ∧ X.env.frame = some X.env.locals := by
  obtain ⟨A₀, A, ψ₀, s₀, ft, env, hx', tb⟩ := X
  have l := x.link
  dsimp only at *
  subst h; subst hx
  refine ⟨rfl, ?_⟩
  generalize hA : A₀.deeper env = A at l
  cases l with
  | deep h => exact h
  | same => have := congrArg Around.depth hA; simp [Around.deeper] at this
theorem zl {a : Addr} {fd : FuncData} {body : List Stmt} {names : List Str} {Ps : List VP} {R : VP} (K : FnK φ a fd) (hb : fd.body = .stmts body) (hcl : fd.closure = []) (hlen : names.length = Ps.length) (hbind : ∀ vs : List Value, vs.length = names.length → bindArgs fd ⟨vs, []⟩ = pure (names.zip vs)) (hnd : decide (names.Nodup) = true) (hkind : (names.all fun y => fd.scope.names.lookup y == some .local || fd.scope.names.lookup y == some .cell) = true) (hfree : (fd.scope.names.all fun x => x.2 != .free) = true) (hnd' : decide (((cellsFrom 0 fd.scope.names []).map (·.1)).Nodup) = true) (h : zGM prog w k n φ fd.scope (names.zip Ps) body R) : zj prog w ⟨k + 1, n⟩ φ (.ref a) Ps R := by
  intro A ψ s vs c l hv
  have hl : vs.length = names.length := by rw [hlen, hv.length]
  refine zo (tb := []) (fun p hp => by cases hp) c (K.le l) hb hcl (BindsTo.of_eq (hbind vs hl)) ?_ hfree hnd' fun env s' he hcd x' => ?_
  · rw [List.all_eq_true] at hkind ⊢
    intro y hy
    exact hkind y.1 (List.of_mem_zip hy).1
  · refine h ⟨A, A.deeper env, ψ, s, env.locals :: env.cells.map (·.2), env, none, []⟩ ψ s' _ he (CX.of c rfl) l (fun c hc => List.mem_cons_of_mem _ hc) ⟨rfl, x'.dp rfl rfl⟩ ⟨_, x', ?_⟩
    refine zAZ ?_ ?_
    · refine zO.of_get (by simp [hl, hlen]) fun i a b ha hb => ?_
      rw [List.getElem?_zip_eq_some] at ha hb
      refine ⟨by have := ha.1.symm.trans hb.1; exact Option.some.inj this, ?_⟩
      obtain ⟨v, hv', hp⟩ := hv.get ha.2
      rw [hb.2] at hv'; cases hv'
      exact hp
    · have : (names.zip Ps).map (·.1) = names := by rw [List.map_fst_zip (by omega)]
      rw [this]; exact hnd
theorem zB0 {α : Type} {vs : List α} (h : vs.length = 1) : ∃ a, vs = [a] := by
  obtain ⟨a, rfl⟩ := List.length_eq_one_iff.mp h; exact ⟨a, rfl⟩
theorem zZ {α : Type} {vs : List α} (h : vs.length = 2) : ∃ a b, vs = [a, b] := by
  obtain ⟨a, t, rfl⟩ := List.exists_cons_of_length_eq_add_one h
  obtain ⟨b, rfl⟩ := zB0 (Nat.succ.inj h); exact ⟨a, b, rfl⟩
theorem zHq {α : Type} {vs : List α} (h : vs.length = 3) : ∃ a b c, vs = [a, b, c] := by
  obtain ⟨a, t, rfl⟩ := List.exists_cons_of_length_eq_add_one h
  obtain ⟨b, c, rfl⟩ := zZ (Nat.succ.inj h); exact ⟨a, b, c, rfl⟩
theorem ret_ok {e : Expr} {pos : Pos} {rest : List Stmt} {P : VP} {E : Value → Shared → Prop} (b : B X Γ ψ ω s) (h : zBi prog w X Γ ψ ω e P) : wpAny (model prog w) X.A (execs (.Return (some e) pos :: rest) X.env) (fun fl s2 => ∃ ψ', zQ X.F X.ψ₀ X.s₀ ψ' s2 ∧ P.p ψ' (zC1 fl)) E s :=
  zBC b h fun v ψ' s' l p b' => ⟨ψ', b'.toGrow, p⟩
theorem ret_own {x : Str} {px pos : Pos} {rest : List Stmt} {a : Addr} {vs : List Value} {j : Nat} {ps : List VP} {E : Value → Shared → Prop} (b : B X Γ ψ ω s) (c : CX ⟨k, n⟩ X) (hx : Γ.lookup x = some (zT (.ref a))) (ha : ω a = some (lst vs j)) (hall : zO (fun (P : VP) v => P.p ψ v) ps vs) (hk : zu (X.env.scope.names.lookup x) = true) (hd : (x == ("__debug__" : Str) || x == ("__classdict__" : Str)) = false) : wpAny (model prog w) X.A (execs (.Return (some (.Name x px)) pos :: rest) X.env) (fun fl s2 => ∃ ψ', zQ X.F X.ψ₀ X.s₀ ψ' s2 ∧ (zB ps).p ψ' (zC1 fl)) E s := by
  have hno := b.ownNone ha
  have b' := b.freeze ha
  refine zBC b' (zBi.pure c (zFM hx hk hd)) fun v ψ' s' l p b'' => ⟨ψ', b''.toGrow, ?_⟩
  cases p
  exact (zB ps).mono l ⟨a, vs, j, rfl, zA _ _ _, hall.imp fun P v q => P.mono (zL hno) q⟩
theorem Src.congr {tgt : Expr} {P : VP} {nn nn' : Nat} {Tg Tg' : Nat → List (Str × VP)} (h : Src prog w μ φ tgt P nn Tg) (e : nn = nn') (ht : ∀ i < nn, Tg i = Tg' i) : Src prog w μ φ tgt P nn' Tg' := by
  subst e
  intro A ψ s v c l p
  refine zIv (h A ψ s v c l p) (fun it s' h => by obtain ⟨wr, fz, St, V, r⟩ := h; exact ⟨wr, fz, St, ⟨V.frame, V.live, V.self, fun i X m ψ' ω s Q E hi x le' hst hw hk q => V.step i X m ψ' ω s Q E hi x le' hst hw (by rw [ht i hi]; exact hk) (by rw [ht i hi]; exact q), V.done⟩, r⟩) fun _ _ e => e
theorem zFI {x : Str} {px : Pos} {a b : Int} {nn : Nat} (hn : μ.n = true) (e : (b - a).toNat = nn) (hs : Builtin.Range.small a b 1 = true) : Src prog w μ φ (.Name x px) (zC5 a b) nn (fun i => [(x, vInt (a + (i : Nat)))]) := by
  refine (zEV (zIe hn hs)).congr (by simp [zFX, e]) fun i hi => ?_
  have hi' : i < (b - a).toNat := by simpa [zFX] using hi
  unfold zA8 zFX
  simp [List.getElem?_map, List.getElem?_range hi']
theorem zGb {x : Str} {px : Pos} {P : VP} {ns : List Int} (h : Itr prog w μ φ P (ns.map vInt)) : Src prog w μ φ (.Name x px) P ns.length (fun i => [(x, vInt (ns.getD i 0))]) := by
  refine (zEV h).congr (by simp) fun i hi => ?_
  have hi' : i < ns.length := by simpa using hi
  unfold zA8
  rw [List.getElem?_map, List.getElem?_eq_getElem hi', List.getD_eq_getElem?_getD, List.getElem?_eq_getElem hi']
  rfl
theorem zv {α : Type} {f : α → VP} {d : α} {x : Str} {px : Pos} {P : VP} {ns : List α} (h : Itr prog w μ φ P (ns.map f)) : Src prog w μ φ (.Name x px) P ns.length (fun i => [(x, f (ns.getD i d))]) := by
  refine (zEV h).congr (by simp) fun i hi => ?_
  have hi' : i < ns.length := by simpa using hi
  unfold zA8
  rw [List.getElem?_map, List.getElem?_eq_getElem hi', List.getD_eq_getElem?_getD, List.getElem?_eq_getElem hi']
  rfl
end
section
variable {rest : List Stmt} {Q : Flow → Shared → Prop} {E : Value → Shared → Prop}
theorem ev_b {x : Str} {pos : Pos} {v : Value} (hg : BN φ x v) (hk : autoParam (sc.names.lookup x = some .globalImplicit) au0) (hd : autoParam ((x == ("__debug__" : Str)) = false) au0) : Ev prog w μ sc Γ φ (.Name x pos) (zT v) := zq hg hk hd
theorem a2 {e f : Expr} {P Q : VP} (h : Ev prog w μ sc Γ φ e P) (h' : Ev prog w μ sc Γ φ f Q) (hn : autoParam (zM e = true) au0) (hn' : autoParam (zM f = true) au0) : EvA prog w μ sc Γ φ [e, f] [P, Q] := EvA.cons h (EvA.cons h' EvA.nil hn') hn
theorem ev_cb {x : Str} {px pos : Pos} {args : List Expr} {id : String} {Ps : List VP} {R : VP} (hg : BN φ x (.builtin id)) (ha : EvA prog w μ sc Γ φ args Ps) (hs : zj prog w μ φ (.builtin id) Ps R) (hk : autoParam (sc.names.lookup x = some .globalImplicit) au0) (hd : autoParam ((x == ("__debug__" : Str)) = false) au0) : Ev prog w μ sc Γ φ (.Call (.Name x px) args [] pos) R := zDz (zq hg hk hd) ha zA5 hs
theorem ev_ct {x : Str} {px pos : Pos} {args : List Expr} {id : String} {Ps : List VP} {R : VP} (hg : BN φ x (.type id)) (ha : EvA prog w μ sc Γ φ args Ps) (hs : zj prog w μ φ (.type id) Ps R) (hk : autoParam (sc.names.lookup x = some .globalImplicit) au0) (hd : autoParam ((x == ("__debug__" : Str)) = false) au0) : Ev prog w μ sc Γ φ (.Call (.Name x px) args [] pos) R := zDz (zq hg hk hd) ha zCp hs
theorem ev_cg {x : Str} {px pos : Pos} {args : List Expr} {a : Addr} {fd : FuncData} {Ps : List VP} {R : VP} (hg : GN φ x (.ref a)) (K : FnK φ a fd) (ha : EvA prog w μ sc Γ φ args Ps) (hs : zj prog w μ φ (.ref a) Ps R) (hk : autoParam (sc.names.lookup x = some .globalImplicit) au0) (hd : autoParam ((x == ("__debug__" : Str)) = false) au0) : Ev prog w μ sc Γ φ (.Call (.Name x px) args [] pos) R := zDz (zEF hg hk hd) ha K.keepOk hs
theorem ev_subL {value slice : Expr} {pos : Pos} {ps : List VP} {I R : VP} (hv : Ev prog w μ sc Γ φ value (zB ps)) (hi : Ev prog w μ sc Γ φ slice I) (ho : Op2 prog w μ φ getItem (zB ps) I R) (hsl : (∀ o i, subscripted slice false o i = operate [o, i] (getItem o i)) ∨ (∀ o i, subscripted slice false o i = operate [i, o] (getItem o i)) := by first | exact .inl fun _ _ => rfl | exact .inr fun _ _ => rfl) : Ev prog w μ sc Γ φ (.Subscript value slice pos) R :=
  ev_sub zGB zAV hv hi ho hsl
theorem ev_subT {value slice : Expr} {pos : Pos} {ps : List VP} {I R : VP} (hv : Ev prog w μ sc Γ φ value (zCQ ps)) (hi : Ev prog w μ sc Γ φ slice I) (ho : Op2 prog w μ φ getItem (zCQ ps) I R) (hsl : (∀ o i, subscripted slice false o i = operate [o, i] (getItem o i)) ∨ (∀ o i, subscripted slice false o i = operate [i, o] (getItem o i)) := by first | exact .inl fun _ _ => rfl | exact .inr fun _ _ => rfl) : Ev prog w μ sc Γ φ (.Subscript value slice pos) R :=
  ev_sub zGB zBS hv hi ho hsl
theorem zBi.of {e : Expr} {P : VP} (c : CX ⟨k, n⟩ X) (hsc : X.env.scope = sc) (h : Ev prog w ⟨k, n⟩ sc Γ ψ e P) : zBi prog w X Γ ψ ω e P := zBi.pure c (hsc ▸ h)
theorem zFi.of {e : Expr} {r : Bool} (c : CX ⟨k, n⟩ X) (hsc : X.env.scope = sc) (h : EvB prog w ⟨k, n⟩ sc Γ ψ e r) : zFi prog w X Γ ψ ω e r := zFi.pure c (hsc ▸ h)
theorem zBi.ofO {e : Expr} {P : VP} {Γ' : List (Str × VP)} (c : CX ⟨k, n⟩ X) (hsc : X.env.scope = sc) (hΓ : ∀ m, Typ Γ (zAa ψ ω) m → Typ Γ' (zAa ψ ω) m) (h : Ev prog w ⟨k, n⟩ sc Γ' (zAa ψ ω) e P) (hP : zHZ P) : zBi prog w X Γ ψ ω e P := zBi.own c hΓ (hsc ▸ h) hP
theorem zFi.ofO {e : Expr} {r : Bool} {Γ' : List (Str × VP)} (c : CX ⟨k, n⟩ X) (hsc : X.env.scope = sc) (hΓ : ∀ m, Typ Γ (zAa ψ ω) m → Typ Γ' (zAa ψ ω) m) (h : EvB prog w ⟨k, n⟩ sc Γ' (zAa ψ ω) e r) : zFi prog w X Γ ψ ω e r := zFi.own c hΓ (hsc ▸ h)
theorem sto {x : Str} (he : X.env.scope = sc) (h : autoParam (sc.names.lookup x = some .local) au0) : zK X x := zCR he h
theorem stoT {x : Str} {v : VP} (he : X.env.scope = sc) (h : autoParam (sc.names.lookup x = some .local) au0) : ∀ p ∈ [(x, v)], zK X p.1 := fun p hp => by rw [List.mem_singleton.mp hp]; exact zCR he h
theorem zAp {x : Str} {px : Pos} {b : Int} {nn : Nat} (hn : μ.n = true) (e : b.toNat = nn) (hs : Builtin.Range.small 0 b 1 = true) : Src prog w μ φ (.Name x px) (zC5 0 b) nn (fun i => [(x, vInt (i : Nat))]) :=
  (zFI (x := x) (px := px) (a := 0) (b := b) hn (by simpa using e) hs).congr rfl fun i _ => by simp
theorem zCc {ns : List Int} {i : Nat} (hi : i < ns.length) (hs : (ns.length : Int) < 2 ^ 63) : Op2 prog w μ φ getItem (zB (ns.map vInt)) (vInt (i : Nat)) (vInt (ns.getD i 0)) :=
  zY (by omega) (by omega) (by rw [List.getElem?_map]; simp [List.getElem?_eq_getElem hi])
theorem zAh {α : Type} {f : α → VP} {d : α} {ns : List α} {i : Nat} (hi : i < ns.length) (hs : (ns.length : Int) < 2 ^ 63) : Op2 prog w μ φ getItem (zB (ns.map f)) (vInt (i : Nat)) (f (ns.getD i d)) :=
  zY (by omega) (by omega) (by rw [List.getElem?_map]; simp [List.getElem?_eq_getElem hi])
theorem zp {a b : Int} : Op2 prog w μ φ (inplaceOp .Add) (vInt a) (vInt b) (vInt (a + b)) := by
  rintro A ψ s _ _ c l ⟨t, rfl⟩ ⟨u, rfl⟩
  exact wpAny_iadd_int ⟨ψ, zb c.sub, _, rfl⟩
theorem pk {Γ' : List (Str × VP)} {x : Str} {P : VP} (t : Typ Γ ψ m) (t' : Typ Γ' ψ m) (h : autoParam (Γ.lookup x = some P) au0) : Typ ((x, P) :: Γ') ψ m := by
  intro y P' hy
  rw [List.lookup_cons] at hy
  by_cases q : y = x
  · subst q
    simp only [beq_self_eq_true] at hy
    cases hy
    exact t y P h
  · have : (y == x) = false := by simpa using q
    rw [this] at hy
    exact t' y P' hy
theorem st_app {x : Str} {px ap cpos pos : Pos} {e : Expr} {P : VP} {a : Addr} {vs : List Value} {j : Nat} (hsc : X.env.scope = sc) (b : B X Γ ψ ω s) (ha : ω a = some (lst vs j)) (h : zBi prog w X Γ ψ ω e P) (hsz : vs.length ≤ sizeLine) (q : ∀ v ψ' s' j', Le ψ ψ' → P.p ψ' v → B X Γ ψ' (put ω a (lst (vs ++ [v]) j')) s' → wpAny (model prog w) X.A (execs rest X.env) Q E s') (hx : autoParam (Γ.lookup x = some (zT (.ref a))) au0) (hv : autoParam (zu (sc.names.lookup x) = true) au0) (hd : autoParam ((x == ("__debug__" : Str) || x == ("__classdict__" : Str)) = false) au0) (hn : autoParam (zM e = true) au0) (hl : autoParam ((ap.endLine == cpos.line) = true) au0) : wpAny (model prog w) X.A (execs (.Expr (.Call (.Attribute (.Name x px) "append" ap) [e] [] cpos) pos :: rest) X.env) Q E s := by
  refine zIq b hx ha h hsz q (hsc ▸ hv) hd hn hl ?_
  obtain ⟨m, Y, _⟩ := b
  have := Y.fram.fn
  unfold interactive
  rw [this]; rfl
theorem stoC {x : Str} (he : X.env.scope = sc) (hf : ∀ c ∈ X.env.cells.map (·.2), c ∈ X.ft) (h : autoParam (sc.names.lookup x = some .cell) au0) : zK X x := zC9 he h hf
theorem stoCT {x : Str} {v : VP} (he : X.env.scope = sc) (hf : ∀ c ∈ X.env.cells.map (·.2), c ∈ X.ft) (h : autoParam (sc.names.lookup x = some .cell) au0) : ∀ p ∈ [(x, v)], zK X p.1 := fun p hp => by rw [List.mem_singleton.mp hp]; exact zC9 he h hf
theorem zEZ {x : Str} {v : VP} (h : autoParam (own scope x = true) au0) : ∀ p ∈ [(x, v)], own scope p.1 = true := fun p hp => by rw [List.mem_singleton.mp hp]; exact h
theorem st_listS {x : Str} {px pos lp : Pos} {es : List Expr} {Ps : List VP} (hsc : X.env.scope = sc) (b : B X Γ ψ ω s) (c : CX ⟨k, n⟩ X) (h : EvA prog w ⟨k, n⟩ sc Γ ψ es Ps) (hsz : Ps.length ≤ sizeLine) (hk : zK X x) (q : ∀ a vs ψ' s', ω a = none → ψ' a = none → Le ψ ψ' → zO (fun (P : VP) v => P.p ψ' v) Ps vs → B X ((x, zT (.ref a)) :: Γ) ψ' (put ω a (lst vs 0)) s' → wpAny (model prog w) X.A (execs rest X.env) Q E s') : wpAny (model prog w) X.A (execs (.Assign [.Name x px] (.List es lp) pos :: rest) X.env) Q E s := st_listD b c (hsc ▸ h) hsz hk q
theorem st_forS {tgt : Expr} {pos : Pos} {iter : Expr} {body : List Stmt} {P : VP} {nn : Nat} {Tg : Nat → List (Str × VP)} (hsc : X.env.scope = sc) (b : B X Γ ψ ω s) (c : CX ⟨k, n⟩ X) (hi : Ev prog w ⟨k, n⟩ sc Γ ψ iter P) (hI : Src prog w ⟨k, n⟩ ψ tgt P nn Tg) (J : Nat → List (Str × VP) → PM → PM → Prop) (hk : ∀ i < nn, ∀ p ∈ Tg i, zK X p.1) (Jst : ∀ i Γ' ψ' ω₁ ω₂, J i Γ' ψ' ω₁ → (∀ a o, ω a = some o → ω₂ a = ω₁ a) → J i Γ' ψ' ω₂) (h0 : ∀ ψ', Le ψ ψ' → J 0 Γ ψ' ω) (turn : ∀ i Γi ψi ωi si, i < nn → J i Γi ψi ωi → Le ψ ψi → B X (Tg i ++ Γi) ψi ωi si →
      wpAny (model prog w) X.A (execs body X.env) (forQ prog w X J i ω ψi ωi rest Q E) (forE prog w X E) si)
    (done : ∀ Γ' ψ' ω' s', J nn Γ' ψ' ω' → Le ψ ψ' → B X Γ' ψ' ω' s' → wpAny (model prog w) X.A (execs rest X.env) Q E s')
    (hs : autoParam (∀ x, foldedSetIterable iter X.env x = pure x) au2) : wpAny (model prog w) X.A (execs (.For tgt iter body [] pos :: rest) X.env) Q E s :=
  st_for J b c (hsc ▸ hi) hI hk Jst h0 turn done hs
theorem eqv_nil {α : Type} {f : α → PyData} (l : List α) : PyData.eqv (.list (l.map f)) (.list []) = l.isEmpty := by
  cases l with
  | nil => rfl
  | cons a r => rfl
theorem zFz (xs : List Int) : PySem.SeqAt.shaped (.list (xs.map .int)) = true := by
  have h1 : ∀ xs : List Int, PyData.canLayAll0 (xs.map .int) = true := by
    intro xs; induction xs with
    | nil => rfl
    | cons x r ih => show (true && PyData.canLayAll0 (r.map .int)) = true; rw [ih]; rfl
  have h2 : ∀ xs : List Int, PyData.depthAll (xs.map .int) = 0 := by
    intro xs; induction xs with
    | nil => rfl
    | cons x r ih => show max 0 (PyData.depthAll (r.map .int)) = 0; rw [ih]; rfl
  show (PyData.canLayAll0 (xs.map .int) && decide (PyData.depthAll (xs.map .int) + 1 ≤ 64)) = true
  rw [h1, h2]; rfl
theorem zHh {ps : List VP} (hk : 1 ≤ μ.k) : Op2 prog w μ φ (compareOp .Eq) (zB ps) (zB []) (zN ps.isEmpty) := by
  rintro A ψ s _ _ c l ⟨a, vs, j, rfl, ho, hall⟩ ⟨a', vs', j', rfl, ho', hall'⟩
  cases hall'
  have hu : A.units < cLine := by have := c.units; show _ < 9900; omega
  cases hall with
  | nil => exact PySem.SeqAt.eq_listAt (items := #[]) (items2 := #[]) (e := fun _ => true) ⟨_, c.sub _ _ ho, rfl, j, rfl⟩ ⟨_, c.sub _ _ ho', rfl, j', rfl⟩ rfl hu (fun j h1 => absurd h1 (Nat.not_lt_zero _)) ⟨ψ, zQ.refl c.sub, rfl⟩
  | cons h1 h2 => exact PySem.SeqAt.eq_list_lengthsAt ⟨_, c.sub _ _ ho, rfl, j, rfl⟩ ⟨_, c.sub _ _ ho', rfl, j', rfl⟩ (by simp) hu ⟨ψ, zQ.refl c.sub, rfl⟩
theorem zFh {α β : Type} {f : α → β} {l : List α} : (l.map f).isEmpty = l.isEmpty := by cases l <;> rfl
theorem zH0 {α β : Type} (f : α → β) (l : List α) (lo hi st : Option Int) : zBt (l.map f) lo hi st = (zBt l lo hi st).map f := by
  unfold zBt
  rw [List.length_map, List.map_filterMap]
  congr 1
  funext i
  rw [List.getElem?_map]
theorem zHM {α : Type} {f : α → VP} {l : List α} {lo hi st : Option Int} (h0 : st ≠ some 0) (hsz : l.length ≤ sizeLine) : Op2 prog w μ φ getItem (zB (l.map f)) (zCs lo hi st) (zB ((zBt l lo hi st).map f)) := by
  rw [← zH0]
  exact zCj h0 (by rw [List.length_map]; exact hsz)
theorem evp0 : EvP prog w μ sc Γ φ none none := rfl
end
structure Ex (prog : Program) (w : World) (X : Fix) (stmts : List Stmt) (Q : Flow → Shared → Prop) (E : Value → Shared → Prop) (s : Shared) : Prop where
  go : wpAny (model prog w) X.A (execs stmts X.env) Q E s
noncomputable def seqX (prog : Program) (w : World) (X : Fix) (rest : List Stmt) (Q : Flow → Shared → Prop) (E : Value → Shared → Prop) : Flow → Shared → Prop
  | .next, s => Ex prog w X rest Q E s
  | .brk, s => Q .brk s
  | .cont, s => Q .cont s
  | .ret v, s => Q (.ret v) s
noncomputable def forX (prog : Program) (w : World) (X : Fix) (J : Nat → List (Str × VP) → PM → PM → Prop) (i : Nat) (ω ψi ωi : PM) (rest : List Stmt) (Q : Flow → Shared → Prop) (E : Value → Shared → Prop) : Flow → Shared → Prop
  | .ret v, s => Q (.ret v) s
  | .brk, s => Ex prog w X rest Q E s
  | _, s => ∃ Γ' ψ' ω', J (i + 1) Γ' ψ' ω' ∧ Le ψi ψ' ∧ B X Γ' ψ' ω' s ∧ ∀ a o, ωi a = some o → ω a = none → ω' a = some o
section
variable {rest : List Stmt} {Q : Flow → Shared → Prop} {E : Value → Shared → Prop}
theorem Ex.mono {stmts : List Stmt} {Q' : Flow → Shared → Prop} (h : Ex prog w X stmts Q E s) (q : ∀ f s', Q f s' → Q' f s') : Ex prog w X stmts Q' E s := ⟨zIv h.go q fun _ _ e => e⟩
theorem zR (h : Q .next s) : Ex prog w X [] Q E s := ⟨wpAny_execs_nil h⟩
theorem Ex.opq (h : ∀ Q' : Flow → Shared → Prop, (∀ fl s, Q fl s → Q' fl s) → Ex prog w X rest Q' E s) : Ex prog w X rest Q E s := h Q fun _ _ h => h
theorem x_assign {x : Str} {px pos : Pos} {e : Expr} {P : VP} (b : B X Γ ψ ω s) (h : zBi prog w X Γ ψ ω e P) (hk : zK X x) (q : ∀ v ψ' s', Le ψ ψ' → P.p ψ' v → B X ((x, P) :: Γ) ψ' ω s' → Ex prog w X rest Q E s') (hs : autoParam (swapsWith e (some (.Name x px)) pos.line X.env = pure false) au0) : Ex prog w X (.Assign [.Name x px] e pos :: rest) Q E s := ⟨zIH b h hk hs fun v ψ' s' l p b' => (q v ψ' s' l p b').go⟩
theorem x_return {pos : Pos} {e : Expr} {P : VP} (b : B X Γ ψ ω s) (h : zBi prog w X Γ ψ ω e P) (q : ∀ v ψ' s', Le ψ ψ' → P.p ψ' v → B X Γ ψ' ω s' → Q (.ret v) s') : Ex prog w X (.Return (some e) pos :: rest) Q E s := ⟨zBC b h q⟩
theorem x_if {pos : Pos} {t : Expr} {body orelse : List Stmt} {r : Bool} (b : B X Γ ψ ω s) (h : zFi prog w X Γ ψ ω t r) (q : ∀ ψ' s', Le ψ ψ' → B X Γ ψ' ω s' → Ex prog w X (if r then body else orelse) (seqX prog w X rest Q E) E s') : Ex prog w X (.If t body orelse pos :: rest) Q E s :=
  ⟨st_if b h fun ψ' s' l b' => ((q ψ' s' l b').mono fun f s' hf => by cases f <;> first | exact hf.go | exact hf).go⟩
theorem zHv {x : Str} {px pos lp : Pos} (b : B X Γ ψ ω s) (hk : zK X x) (q : ∀ a s', ω a = none → ψ a = none → B X ((x, zT (.ref a)) :: Γ) ψ (put ω a (lst [] 0)) s' → Ex prog w X rest Q E s') : Ex prog w X (.Assign [.Name x px] (.List [] lp) pos :: rest) Q E s := ⟨zHF b hk fun a s' h1 h2 b' => (q a s' h1 h2 b').go⟩
theorem x_listS {x : Str} {px pos lp : Pos} {es : List Expr} {Ps : List VP} (hsc : X.env.scope = sc) (b : B X Γ ψ ω s) (c : CX ⟨k, n⟩ X) (h : EvA prog w ⟨k, n⟩ sc Γ ψ es Ps) (hsz : Ps.length ≤ sizeLine) (hk : zK X x) (q : ∀ a vs ψ' s', ω a = none → ψ' a = none → Le ψ ψ' → zO (fun (P : VP) v => P.p ψ' v) Ps vs → B X ((x, zT (.ref a)) :: Γ) ψ' (put ω a (lst vs 0)) s' → Ex prog w X rest Q E s') : Ex prog w X (.Assign [.Name x px] (.List es lp) pos :: rest) Q E s := ⟨st_listS hsc b c h hsz hk fun a vs ψ' s' h1 h2 l p b' => (q a vs ψ' s' h1 h2 l p b').go⟩
theorem x_app {x : Str} {px ap cpos pos : Pos} {e : Expr} {P : VP} {a : Addr} {vs : List Value} {j : Nat} (hsc : X.env.scope = sc) (b : B X Γ ψ ω s) (ha : ω a = some (lst vs j)) (h : zBi prog w X Γ ψ ω e P) (hsz : vs.length ≤ sizeLine) (q : ∀ v ψ' s' j', Le ψ ψ' → P.p ψ' v → B X Γ ψ' (put ω a (lst (vs ++ [v]) j')) s' → Ex prog w X rest Q E s') (hx : autoParam (Γ.lookup x = some (zT (.ref a))) au0) (hv : autoParam (zu (sc.names.lookup x) = true) au0) (hd : autoParam ((x == ("__debug__" : Str) || x == ("__classdict__" : Str)) = false) au0) (hn : autoParam (zM e = true) au0) (hl : autoParam ((ap.endLine == cpos.line) = true) au0) : Ex prog w X (.Expr (.Call (.Attribute (.Name x px) "append" ap) [e] [] cpos) pos :: rest) Q E s := ⟨st_app hsc b ha h hsz (fun v ψ' s' j' l p b' => (q v ψ' s' j' l p b').go) hx hv hd hn hl⟩
theorem x_aug {x : Str} {px pos : Pos} {op : Operator} {e : Expr} {P P₁ R : VP} (hsc : X.env.scope = sc) (b : B X Γ ψ ω s) (c : CX ⟨k, n⟩ X) (h : zBi prog w X Γ ψ ω e P) (ho : Op2 prog w ⟨k, n⟩ ψ (inplaceOp op) P₁ P R) (hk : zK X x) (q : ∀ v ψ' s', Le ψ ψ' → R.p ψ' v → B X ((x, R) :: Γ) ψ' ω s' → Ex prog w X rest Q E s') (hx : autoParam (Γ.lookup x = some P₁) au0) (hv : autoParam (zu (sc.names.lookup x) = true) au0) (hd : autoParam ((x == ("__classdict__" : Str)) = false) au0) : Ex prog w X (.AugAssign (.Name x px) op e pos :: rest) Q E s :=
  ⟨st_aug b c hx h ho hk (fun v ψ' s' l p b' => (q v ψ' s' l p b').go) (hsc ▸ hv) hd⟩
theorem zHi {x y : Str} {px py pos : Pos} {e : Expr} {P : VP} (b : B X Γ ψ ω s) (h : zBi prog w X Γ ψ ω e P) (hkx : zK X x) (hky : zK X y) (q : ∀ v ψ' s', Le ψ ψ' → P.p ψ' v → B X ((y, P) :: (x, P) :: Γ) ψ' ω s' → Ex prog w X rest Q E s') (hw : autoParam (swappedStores [.Name x px, .Name y py] e X.env = pure none) au0) : Ex prog w X (.Assign [.Name x px, .Name y py] e pos :: rest) Q E s := ⟨zHP b h hkx hky hw fun v ψ' s' l p b' => (q v ψ' s' l p b').go⟩
theorem x_for {tgt : Expr} {pos : Pos} {iter : Expr} {body : List Stmt} {P : VP} {nn : Nat} {Tg : Nat → List (Str × VP)} (hsc : X.env.scope = sc) (b : B X Γ ψ ω s) (c : CX ⟨k, n⟩ X) (hi : Ev prog w ⟨k, n⟩ sc Γ ψ iter P) (hI : Src prog w ⟨k, n⟩ ψ tgt P nn Tg) (J : Nat → List (Str × VP) → PM → PM → Prop) (hk : ∀ i < nn, ∀ p ∈ Tg i, zK X p.1) (Jst : ∀ i Γ' ψ' ω₁ ω₂, J i Γ' ψ' ω₁ → (∀ a o, ω a = some o → ω₂ a = ω₁ a) → J i Γ' ψ' ω₂) (h0 : ∀ ψ', Le ψ ψ' → J 0 Γ ψ' ω) (turn : ∀ i Γi ψi ωi si, i < nn → J i Γi ψi ωi → Le ψ ψi → B X (Tg i ++ Γi) ψi ωi si → Ex prog w X body (forX prog w X J i ω ψi ωi rest Q E) (forE prog w X E) si) (done : ∀ Γ' ψ' ω' s', J nn Γ' ψ' ω' → Le ψ ψ' → B X Γ' ψ' ω' s' → Ex prog w X rest Q E s') (hs : autoParam (∀ x, foldedSetIterable iter X.env x = pure x) au2) : Ex prog w X (.For tgt iter body [] pos :: rest) Q E s :=
  ⟨st_forS hsc b c hi hI J hk Jst h0 (fun i Γi ψi ωi si hi hJ l b' => ((turn i Γi ψi ωi si hi hJ l b').mono fun f s' hf => by cases f <;> first | exact hf.go | exact hf).go) (fun Γ' ψ' ω' s' hJ l b' => (done Γ' ψ' ω' s' hJ l b').go) hs⟩
theorem x_comp {x : Str} {px pos lp : Pos} {elt tgt iter : Expr} {ifs : List Expr} {P : VP} {nn : Nat} {Tg : Nat → List (Str × VP)} {keep : Nat → Bool} {R : Nat → VP} (hsc : X.env.scope = sc) (bb : B X Γ ψ ω s) (c : CX ⟨k + 1, n⟩ X) (hk : zK X x) (hi : Ev prog w ⟨k + 1, n⟩ sc Γ ψ iter P) (hI : Src prog w ⟨k + 1, n⟩ ψ tgt P nn Tg) (hok : zf sc scope = true) (hT : ∀ i < nn, ∀ p ∈ Tg i, own scope p.1 = true) (ht : ∀ i < nn, EvT prog w ⟨k, n⟩ (zBM scope sc) (Tg i ++ zBQ scope Γ) ψ ifs (keep i)) (hel : ∀ i < nn, keep i = true → Ev prog w ⟨k, n⟩ (zBM scope sc) (Tg i ++ zBQ scope Γ) ψ elt (R i)) (hsz : nn ≤ sizeLine) (q : ∀ v ψ' s', Le ψ ψ' → (zB (((List.range nn).filter keep).map R)).p ψ' v → B X ((x, zB (((List.range nn).filter keep).map R)) :: Γ) ψ' ω s' → Ex prog w X rest Q E s') (hsw : swapsWith (.ListComp elt [⟨tgt, iter, ifs, 0⟩] scope lp) (some (.Name x px)) pos.line X.env = pure true) (hs : autoParam (∀ env x, foldedSetIterable iter env x = pure x) au1) : Ex prog w X (.Assign [.Name x px] (.ListComp elt [⟨tgt, iter, ifs, 0⟩] scope lp) pos :: rest) Q E s := by
  subst hsc
  exact ⟨zET bb c hsw hk hi hI hok hT ht hel hsz (fun v ψ' s' l p b' => (q v ψ' s' l p b').go) hs⟩
def zBP (prog : Program) (w : World) (k : Nat) (n : Bool) (φ : PM) (sc : Scope) (Γ : List (Str × VP)) (body : List Stmt) (R : VP) : Prop :=
  ∀ X ψ s (E : Value → Shared → Prop), X.env.scope = sc → CX ⟨k, n⟩ X → Le φ ψ → (∀ c ∈ X.env.cells.map (·.2), c ∈ X.ft) → zFk X → B X Γ ψ (fun _ => none) s →
    Ex prog w X body (fun fl s2 => ∃ ψ', zQ X.F X.ψ₀ X.s₀ ψ' s2 ∧ R.p ψ' (zC1 fl)) E s
theorem zBP.ok {body : List Stmt} {R : VP} (h : zBP prog w k n φ sc Γ body R) : zGM prog w k n φ sc Γ body R := fun X ψ s E a b c d e f => (h X ψ s E a b c d e f).go
theorem x_ret {e : Expr} {pos : Pos} {P : VP} (b : B X Γ ψ ω s) (h : zBi prog w X Γ ψ ω e P) : Ex prog w X (.Return (some e) pos :: rest) (fun fl s2 => ∃ ψ', zQ X.F X.ψ₀ X.s₀ ψ' s2 ∧ P.p ψ' (zC1 fl)) E s := ⟨ret_ok b h⟩
theorem zGi {x : Str} {px pos : Pos} {a : Addr} {vs : List Value} {j : Nat} {ps : List VP} (hsc : X.env.scope = sc) (b : B X Γ ψ ω s) (c : CX ⟨k, n⟩ X) (ha : ω a = some (lst vs j)) (hall : zO (fun (P : VP) v => P.p ψ v) ps vs) (hx : autoParam (Γ.lookup x = some (zT (.ref a))) au0) (hk : autoParam (zu (sc.names.lookup x) = true) au0) (hd : autoParam ((x == ("__debug__" : Str) || x == ("__classdict__" : Str)) = false) au0) : Ex prog w X (.Return (some (.Name x px)) pos :: rest) (fun fl s2 => ∃ ψ', zQ X.F X.ψ₀ X.s₀ ψ' s2 ∧ (zB ps).p ψ' (zC1 fl)) E s := ⟨ret_own b c hx ha hall (hsc ▸ hk) hd⟩
end
structure EV (prog : Program) (w : World) (μ : Md) (sc : Scope) (Γ : List (Str × VP)) (φ : PM) (e : Expr) (P : VP) : Prop where
  go : Ev prog w μ sc Γ φ e P
structure EB (prog : Program) (w : World) (μ : Md) (sc : Scope) (Γ : List (Str × VP)) (φ : PM) (e : Expr) (r : Bool) : Prop where
  go : EvB prog w μ sc Γ φ e r
structure ET (prog : Program) (w : World) (μ : Md) (sc : Scope) (Γ : List (Str × VP)) (φ : PM) (ifs : List Expr) (r : Bool) : Prop where
  go : EvT prog w μ sc Γ φ ifs r
structure EA (prog : Program) (w : World) (μ : Md) (sc : Scope) (Γ : List (Str × VP)) (φ : PM) (es : List Expr) (Ps : List VP) : Prop where
  go : EvA prog w μ sc Γ φ es Ps
structure EI (prog : Program) (w : World) (X : Fix) (Γ : List (Str × VP)) (ψ ω : PM) (e : Expr) (P : VP) : Prop where
  go : zBi prog w X Γ ψ ω e P
structure TI (prog : Program) (w : World) (X : Fix) (Γ : List (Str × VP)) (ψ ω : PM) (e : Expr) (r : Bool) : Prop where
  go : zFi prog w X Γ ψ ω e r
section
theorem zH {i : Int} {k : Nat} {pos : Pos} : EV prog w μ sc Γ φ (.Constant (.int i) k pos) (vInt i) := ⟨ev_int⟩
theorem zHo {x : Bool} {k : Nat} {pos : Pos} : EV prog w μ sc Γ φ (.Constant (.bool x) k pos) (zN x) := ⟨zH6⟩
theorem v_v {x : Str} {pos : Pos} {P : VP} (h : autoParam (Γ.lookup x = some P) au0) (hk : autoParam (zu (sc.names.lookup x) = true) au0) (hd : autoParam ((x == ("__debug__" : Str) || x == ("__classdict__" : Str)) = false) au0) : EV prog w μ sc Γ φ (.Name x pos) P := ⟨zFM h hk hd⟩
theorem zAI {l r : Expr} {op : Operator} {pos : Pos} {P Q R : VP} (hl : EV prog w μ sc Γ φ l P) (hr : EV prog w μ sc Γ φ r Q) (ho : Op2 prog w μ φ (binaryOp op) P Q R) : EV prog w μ sc Γ φ (.BinOp l op r pos) R := ⟨ev_bin hl.go hr.go ho⟩
theorem v_un {x : Expr} {op : UnaryOp} {pos : Pos} {P R : VP} (hl : EV prog w μ sc Γ φ x P) (ho : Op1 prog w μ φ (unaryOp op) P R) : EV prog w μ sc Γ φ (.UnaryOp op x pos) R := ⟨ev_un hl.go ho⟩
theorem zF7 {l r : Expr} {op : CmpOp} {pos : Pos} {P Q R : VP} (hl : EV prog w μ sc Γ φ l P) (hr : EV prog w μ sc Γ φ r Q) (ho : Op2 prog w μ φ (compareOp op) P Q R) (hm : autoParam (behindInMarks op r = false) au0) : EV prog w μ sc Γ φ (.Compare l [op] [r] pos) R := ⟨ev_cmp hl.go hr.go ho hm⟩
theorem z0 {l r : Expr} {op : CmpOp} {pos : Pos} {P Q : VP} {b : Bool} (hl : EV prog w μ sc Γ φ l P) (hr : EV prog w μ sc Γ φ r Q) (ho : Op2 prog w μ φ (compareOp op) P Q (zN b)) (hm : autoParam (behindInMarks op r = false) au0) : EB prog w μ sc Γ φ (.Compare l [op] [r] pos) b := ⟨evb_cmp hl.go hr.go ho hm⟩
theorem b_v {e : Expr} {P : VP} {b : Bool} (h : EV prog w μ sc Γ φ e P) (k : Tru prog w μ φ P b) (he : autoParam (∀ env whole, isTrue e env whole = (do let v ← whole; standAt e.pos; holding [v] (truthy v))) au1) : EB prog w μ sc Γ φ e b := ⟨evb_val h.go k he⟩
theorem zEf {x : Expr} {pos : Pos} {b : Bool} (h : EB prog w μ sc Γ φ x b) : EB prog w μ sc Γ φ (.UnaryOp .Not x pos) (!b) := ⟨evb_not h.go⟩
theorem zGE {x : Expr} {rest : List Expr} {pos : Pos} {a b : Bool} (h : EB prog w μ sc Γ φ x a) (k : a = false → EB prog w μ sc Γ φ (.BoolOp .Or rest pos) b) : EB prog w μ sc Γ φ (.BoolOp .Or (x :: rest) pos) (a || b) := ⟨evb_or h.go fun e => (k e).go⟩
theorem zFc {pos : Pos} : EB prog w μ sc Γ φ (.BoolOp .Or [] pos) false := ⟨zHD⟩
theorem v_if {t b o : Expr} {pos : Pos} {c : Bool} {P : VP} (h : EB prog w μ sc Γ φ t c) (k1 : c = true → EV prog w μ sc Γ φ b P) (k2 : c = false → EV prog w μ sc Γ φ o P) : EV prog w μ sc Γ φ (.IfExp t b o pos) P := ⟨ev_if h.go (fun e => (k1 e).go) fun e => (k2 e).go⟩
theorem zBy : ET prog w μ sc Γ φ [] true := ⟨evt_nil⟩
theorem zIo {c : Expr} {r : Bool} (h : EB prog w μ sc Γ φ c r) : ET prog w μ sc Γ φ [c] r := ⟨evt_one h.go⟩
theorem e0 : EA prog w μ sc Γ φ [] [] := ⟨EvA.nil⟩
theorem ec {e : Expr} {es : List Expr} {P : VP} {Ps : List VP} (h : EV prog w μ sc Γ φ e P) (k : EA prog w μ sc Γ φ es Ps) (hn : autoParam (zM e = true) au0) : EA prog w μ sc Γ φ (e :: es) (P :: Ps) := ⟨EvA.cons h.go k.go hn⟩
theorem e1 {e : Expr} {P : VP} (h : EV prog w μ sc Γ φ e P) (hn : autoParam (zM e = true) au0) : EA prog w μ sc Γ φ [e] [P] := ec h e0 hn
theorem e2 {e f : Expr} {P Q : VP} (h : EV prog w μ sc Γ φ e P) (h' : EV prog w μ sc Γ φ f Q) (hn : autoParam (zM e = true) au0) (hn' : autoParam (zM f = true) au0) : EA prog w μ sc Γ φ [e, f] [P, Q] := ec h (ec h' e0 hn') hn
theorem e3 {e f g : Expr} {P Q R : VP} (h : EV prog w μ sc Γ φ e P) (h' : EV prog w μ sc Γ φ f Q) (h'' : EV prog w μ sc Γ φ g R) (hn : autoParam (zM e = true) au0) (hn' : autoParam (zM f = true) au0) (hn'' : autoParam (zM g = true) au0) : EA prog w μ sc Γ φ [e, f, g] [P, Q, R] := ec h (ec h' (ec h'' e0 hn'') hn') hn
theorem zEm {es : List Expr} {pos : Pos} {Ps : List VP} (h : EA prog w μ sc Γ φ es Ps) (hsz : Ps.length ≤ sizeLine) : EV prog w μ sc Γ φ (.List es pos) (zB Ps) := ⟨ev_listD h.go hsz⟩
theorem v_tup {es : List Expr} {k : Nat} {pos : Pos} {Ps : List VP} (h : EA prog w μ sc Γ φ es Ps) (hsz : Ps.length ≤ sizeLine) : EV prog w μ sc Γ φ (.Tuple es k pos) (zCQ Ps) := ⟨ev_tupD h.go hsz⟩
theorem zB4 {x : Str} {px pos : Pos} {args : List Expr} {id : String} {Ps : List VP} {R : VP} (hg : BN φ x (.builtin id)) (ha : EA prog w μ sc Γ φ args Ps) (hs : zj prog w μ φ (.builtin id) Ps R) (hk : autoParam (sc.names.lookup x = some .globalImplicit) au0) (hd : autoParam ((x == ("__debug__" : Str)) = false) au0) : EV prog w μ sc Γ φ (.Call (.Name x px) args [] pos) R := ⟨ev_cb hg ha.go hs hk hd⟩
theorem zFN {x : Str} {px pos : Pos} {args : List Expr} {id : String} {Ps : List VP} {R : VP} (hg : BN φ x (.type id)) (ha : EA prog w μ sc Γ φ args Ps) (hs : zj prog w μ φ (.type id) Ps R) (hk : autoParam (sc.names.lookup x = some .globalImplicit) au0) (hd : autoParam ((x == ("__debug__" : Str)) = false) au0) : EV prog w μ sc Γ φ (.Call (.Name x px) args [] pos) R := ⟨ev_ct hg ha.go hs hk hd⟩
theorem zCV {x : Str} {px pos : Pos} {args : List Expr} {a : Addr} {fd : FuncData} {Ps : List VP} {R : VP} (hg : GN φ x (.ref a)) (K : FnK φ a fd) (ha : EA prog w μ sc Γ φ args Ps) (hs : zj prog w μ φ (.ref a) Ps R) (hk : autoParam (sc.names.lookup x = some .globalImplicit) au0) (hd : autoParam ((x == ("__debug__" : Str)) = false) au0) : EV prog w μ sc Γ φ (.Call (.Name x px) args [] pos) R := ⟨ev_cg hg K ha.go hs hk hd⟩
theorem v_call {x : Str} {px pos : Pos} {args : List Expr} {fv : Value} {Ps : List VP} {R : VP} (hf : EV prog w μ sc Γ φ (.Name x px) (zT fv)) (hk : zw φ fv) (ha : EA prog w μ sc Γ φ args Ps) (hs : zj prog w μ φ fv Ps R) : EV prog w μ sc Γ φ (.Call (.Name x px) args [] pos) R := ⟨zDz hf.go ha.go hk hs⟩
theorem zG {value slice : Expr} {pos : Pos} {ps : List VP} {I R : VP} (hv : EV prog w μ sc Γ φ value (zB ps)) (hi : EV prog w μ sc Γ φ slice I) (ho : Op2 prog w μ φ getItem (zB ps) I R) (hsl : (∀ o i, subscripted slice false o i = operate [o, i] (getItem o i)) ∨ (∀ o i, subscripted slice false o i = operate [i, o] (getItem o i)) := by first | exact .inl fun _ _ => rfl | exact .inr fun _ _ => rfl) : EV prog w μ sc Γ φ (.Subscript value slice pos) R := ⟨ev_subL hv.go hi.go ho hsl⟩
theorem zAq {value slice : Expr} {pos : Pos} {ps : List VP} {I R : VP} (hv : EV prog w μ sc Γ φ value (zCQ ps)) (hi : EV prog w μ sc Γ φ slice I) (ho : Op2 prog w μ φ getItem (zCQ ps) I R) (hsl : (∀ o i, subscripted slice false o i = operate [o, i] (getItem o i)) ∨ (∀ o i, subscripted slice false o i = operate [i, o] (getItem o i)) := by first | exact .inl fun _ _ => rfl | exact .inr fun _ _ => rfl) : EV prog w μ sc Γ φ (.Subscript value slice pos) R := ⟨ev_subT hv.go hi.go ho hsl⟩
theorem EI.of {e : Expr} {P : VP} (c : CX ⟨k, n⟩ X) (hsc : X.env.scope = sc) (h : EV prog w ⟨k, n⟩ sc Γ ψ e P) : EI prog w X Γ ψ ω e P := ⟨zBi.of c hsc h.go⟩
theorem TI.of {e : Expr} {r : Bool} (c : CX ⟨k, n⟩ X) (hsc : X.env.scope = sc) (h : EB prog w ⟨k, n⟩ sc Γ ψ e r) : TI prog w X Γ ψ ω e r := ⟨zFi.of c hsc h.go⟩
theorem EI.own {e : Expr} {P : VP} {Γ' : List (Str × VP)} (c : CX ⟨k, n⟩ X) (hsc : X.env.scope = sc) (hΓ : ∀ m, Typ Γ (zAa ψ ω) m → Typ Γ' (zAa ψ ω) m) (h : EV prog w ⟨k, n⟩ sc Γ' (zAa ψ ω) e P) (hP : zHZ P) : EI prog w X Γ ψ ω e P := ⟨zBi.ofO c hsc hΓ h.go hP⟩
theorem TI.own {e : Expr} {r : Bool} {Γ' : List (Str × VP)} (c : CX ⟨k, n⟩ X) (hsc : X.env.scope = sc) (hΓ : ∀ m, Typ Γ (zAa ψ ω) m → Typ Γ' (zAa ψ ω) m) (h : EB prog w ⟨k, n⟩ sc Γ' (zAa ψ ω) e r) : TI prog w X Γ ψ ω e r := ⟨zFi.ofO c hsc hΓ h.go⟩
end
section
variable {rest : List Stmt} {Q : Flow → Shared → Prop} {E : Value → Shared → Prop}
theorem zP {x : Str} {px pos : Pos} {e : Expr} {P : VP} (b : B X Γ ψ ω s) (h : EI prog w X Γ ψ ω e P) (hk : zK X x) (q : ∀ v ψ' s', Le ψ ψ' → P.p ψ' v → B X ((x, P) :: Γ) ψ' ω s' → Ex prog w X rest Q E s') (hs : autoParam (swapsWith e (some (.Name x px)) pos.line X.env = pure false) au0) : Ex prog w X (.Assign [.Name x px] e pos :: rest) Q E s := x_assign b h.go hk q hs
theorem zBm {pos : Pos} {e : Expr} {P : VP} (b : B X Γ ψ ω s) (h : EI prog w X Γ ψ ω e P) (q : ∀ v ψ' s', Le ψ ψ' → P.p ψ' v → B X Γ ψ' ω s' → Q (.ret v) s') : Ex prog w X (.Return (some e) pos :: rest) Q E s := x_return b h.go q
theorem zDd {pos : Pos} {t : Expr} {body orelse : List Stmt} {r : Bool} (b : B X Γ ψ ω s) (h : TI prog w X Γ ψ ω t r) (q : ∀ ψ' s', Le ψ ψ' → B X Γ ψ' ω s' → Ex prog w X (if r then body else orelse) (seqX prog w X rest Q E) E s') : Ex prog w X (.If t body orelse pos :: rest) Q E s :=
  x_if b h.go q
theorem zBj {x : Str} {px pos lp : Pos} (b : B X Γ ψ ω s) (hk : zK X x) (q : ∀ a s', ω a = none → ψ a = none → B X ((x, zT (.ref a)) :: Γ) ψ (put ω a (lst [] 0)) s' → Ex prog w X rest Q E s') : Ex prog w X (.Assign [.Name x px] (.List [] lp) pos :: rest) Q E s := zHv b hk q
theorem y_listS {x : Str} {px pos lp : Pos} {es : List Expr} {Ps : List VP} (hsc : X.env.scope = sc) (b : B X Γ ψ ω s) (c : CX ⟨k, n⟩ X) (h : EA prog w ⟨k, n⟩ sc Γ ψ es Ps) (hsz : Ps.length ≤ sizeLine) (hk : zK X x) (q : ∀ a vs ψ' s', ω a = none → ψ' a = none → Le ψ ψ' → zO (fun (P : VP) v => P.p ψ' v) Ps vs → B X ((x, zT (.ref a)) :: Γ) ψ' (put ω a (lst vs 0)) s' → Ex prog w X rest Q E s') : Ex prog w X (.Assign [.Name x px] (.List es lp) pos :: rest) Q E s := x_listS hsc b c h.go hsz hk q
theorem zHe {x : Str} {px ap cpos pos : Pos} {e : Expr} {P : VP} {a : Addr} {vs : List Value} {j : Nat} (hsc : X.env.scope = sc) (b : B X Γ ψ ω s) (ha : ω a = some (lst vs j)) (h : EI prog w X Γ ψ ω e P) (hsz : vs.length ≤ sizeLine) (q : ∀ v ψ' s' j', Le ψ ψ' → P.p ψ' v → B X Γ ψ' (put ω a (lst (vs ++ [v]) j')) s' → Ex prog w X rest Q E s') (hx : autoParam (Γ.lookup x = some (zT (.ref a))) au0) (hv : autoParam (zu (sc.names.lookup x) = true) au0) (hd : autoParam ((x == ("__debug__" : Str) || x == ("__classdict__" : Str)) = false) au0) (hn : autoParam (zM e = true) au0) (hl : autoParam ((ap.endLine == cpos.line) = true) au0) : Ex prog w X (.Expr (.Call (.Attribute (.Name x px) "append" ap) [e] [] cpos) pos :: rest) Q E s := x_app hsc b ha h.go hsz q hx hv hd hn hl
theorem zFg {x : Str} {px pos : Pos} {op : Operator} {e : Expr} {P P₁ R : VP} (hsc : X.env.scope = sc) (b : B X Γ ψ ω s) (c : CX ⟨k, n⟩ X) (h : EI prog w X Γ ψ ω e P) (ho : Op2 prog w ⟨k, n⟩ ψ (inplaceOp op) P₁ P R) (hk : zK X x) (q : ∀ v ψ' s', Le ψ ψ' → R.p ψ' v → B X ((x, R) :: Γ) ψ' ω s' → Ex prog w X rest Q E s') (hx : autoParam (Γ.lookup x = some P₁) au0) (hv : autoParam (zu (sc.names.lookup x) = true) au0) (hd : autoParam ((x == ("__classdict__" : Str)) = false) au0) : Ex prog w X (.AugAssign (.Name x px) op e pos :: rest) Q E s :=
  x_aug hsc b c h.go ho hk q hx hv hd
theorem zIr {x y : Str} {px py pos : Pos} {e : Expr} {P : VP} (b : B X Γ ψ ω s) (h : EI prog w X Γ ψ ω e P) (hkx : zK X x) (hky : zK X y) (q : ∀ v ψ' s', Le ψ ψ' → P.p ψ' v → B X ((y, P) :: (x, P) :: Γ) ψ' ω s' → Ex prog w X rest Q E s') (hw : autoParam (swappedStores [.Name x px, .Name y py] e X.env = pure none) au0) : Ex prog w X (.Assign [.Name x px, .Name y py] e pos :: rest) Q E s := zHi b h.go hkx hky q hw
theorem zFT {tgt : Expr} {pos : Pos} {iter : Expr} {body : List Stmt} {P : VP} {nn : Nat} {Tg : Nat → List (Str × VP)} (hsc : X.env.scope = sc) (b : B X Γ ψ ω s) (c : CX ⟨k, n⟩ X) (hi : EV prog w ⟨k, n⟩ sc Γ ψ iter P) (hI : Src prog w ⟨k, n⟩ ψ tgt P nn Tg) (J : Nat → List (Str × VP) → PM → PM → Prop) (hk : ∀ i < nn, ∀ p ∈ Tg i, zK X p.1) (Jst : ∀ i Γ' ψ' ω₁ ω₂, J i Γ' ψ' ω₁ → (∀ a o, ω a = some o → ω₂ a = ω₁ a) → J i Γ' ψ' ω₂) (h0 : ∀ ψ', Le ψ ψ' → J 0 Γ ψ' ω) (turn : ∀ i Γi ψi ωi si, i < nn → J i Γi ψi ωi → Le ψ ψi → B X (Tg i ++ Γi) ψi ωi si → Ex prog w X body (forX prog w X J i ω ψi ωi rest Q E) (forE prog w X E) si) (done : ∀ Γ' ψ' ω' s', J nn Γ' ψ' ω' → Le ψ ψ' → B X Γ' ψ' ω' s' → Ex prog w X rest Q E s') (hs : autoParam (∀ x, foldedSetIterable iter X.env x = pure x) au2) : Ex prog w X (.For tgt iter body [] pos :: rest) Q E s :=
  x_for hsc b c hi.go hI J hk Jst h0 turn done hs
theorem y_comp {x : Str} {px pos lp : Pos} {elt tgt iter : Expr} {ifs : List Expr} {P : VP} {nn : Nat} {Tg : Nat → List (Str × VP)} {keep : Nat → Bool} {R : Nat → VP} (hsc : X.env.scope = sc) (bb : B X Γ ψ ω s) (c : CX ⟨k + 1, n⟩ X) (hk : zK X x) (hi : EV prog w ⟨k + 1, n⟩ sc Γ ψ iter P) (hI : Src prog w ⟨k + 1, n⟩ ψ tgt P nn Tg) (hok : zf sc scope = true) (hT : ∀ i < nn, ∀ p ∈ Tg i, own scope p.1 = true) (ht : ∀ i < nn, ET prog w ⟨k, n⟩ (zBM scope sc) (Tg i ++ zBQ scope Γ) ψ ifs (keep i)) (hel : ∀ i < nn, keep i = true → EV prog w ⟨k, n⟩ (zBM scope sc) (Tg i ++ zBQ scope Γ) ψ elt (R i)) (hsz : nn ≤ sizeLine) (q : ∀ v ψ' s', Le ψ ψ' → (zB (((List.range nn).filter keep).map R)).p ψ' v → B X ((x, zB (((List.range nn).filter keep).map R)) :: Γ) ψ' ω s' → Ex prog w X rest Q E s') (hsw : swapsWith (.ListComp elt [⟨tgt, iter, ifs, 0⟩] scope lp) (some (.Name x px)) pos.line X.env = pure true) (hs : autoParam (∀ env x, foldedSetIterable iter env x = pure x) au1) : Ex prog w X (.Assign [.Name x px] (.ListComp elt [⟨tgt, iter, ifs, 0⟩] scope lp) pos :: rest) Q E s :=
  x_comp hsc bb c hk hi.go hI hok hT (fun i h => (ht i h).go) (fun i h k => (hel i h k).go) hsz q hsw hs
theorem zDL {e : Expr} {pos : Pos} {P : VP} (b : B X Γ ψ ω s) (h : EI prog w X Γ ψ ω e P) : Ex prog w X (.Return (some e) pos :: rest) (fun fl s2 => ∃ ψ', zQ X.F X.ψ₀ X.s₀ ψ' s2 ∧ P.p ψ' (zC1 fl)) E s := x_ret b h.go
theorem zAM {elt tgt iter : Expr} {ifs : List Expr} {pos : Pos} {P : VP} {nn : Nat} {Tg : Nat → List (Str × VP)} {keep : Nat → Bool} {R : Nat → VP} (hi : EV prog w ⟨k + 1, n⟩ sc Γ φ iter P) (hI : Src prog w ⟨k + 1, n⟩ φ tgt P nn Tg) (hok : zf sc scope = true) (hT : ∀ i < nn, ∀ p ∈ Tg i, own scope p.1 = true) (ht : ∀ i < nn, ET prog w ⟨k, n⟩ (zBM scope sc) (Tg i ++ zBQ scope Γ) φ ifs (keep i)) (hel : ∀ i < nn, keep i = true → EV prog w ⟨k, n⟩ (zBM scope sc) (Tg i ++ zBQ scope Γ) φ elt (R i)) (hsz : nn ≤ sizeLine) (hs : autoParam (∀ env x, foldedSetIterable iter env x = pure x) au1) : EV prog w ⟨k + 1, n⟩ sc Γ φ (.ListComp elt [⟨tgt, iter, ifs, 0⟩] scope pos) (zB (((List.range nn).filter keep).map R)) :=
  ⟨ev_comp hi.go hI hok hT (fun i h => (ht i h).go) (fun i h k => (hel i h k).go) hsz hs⟩
theorem zDB {lower upper step : Option Expr} {p : Pos} {lo hi st : Option Int} (h1 : EvP prog w μ sc Γ φ lower lo) (h2 : EvP prog w μ sc Γ φ upper hi) (h3 : EvP prog w μ sc Γ φ step st) : EV prog w μ sc Γ φ (.Slice lower upper step p) (zCs lo hi st) := ⟨ev_slice h1 h2 h3⟩
theorem zEq {e : Expr} {i : Int} (h : EV prog w μ sc Γ φ e (vInt i)) : EvP prog w μ sc Γ φ (some e) (some i) := ⟨i, rfl, h.go⟩
theorem v_g {x : Str} {pos : Pos} {v : Value} (hg : GN φ x v) (hk : autoParam (sc.names.lookup x = some .globalImplicit) au0) (hd : autoParam ((x == ("__debug__" : Str)) = false) au0) : EV prog w μ sc Γ φ (.Name x pos) (zT v) := ⟨zEF hg hk hd⟩
structure ES (prog : Program) (w : World) (μ : Md) (sc : Scope) (Γ : List (Str × VP)) (φ : PM) (iter tgt : Expr) (n : Nat) (Tg : Nat → List (Str × VP)) : Prop where
  go : zHW prog w μ sc Γ φ iter tgt n Tg
structure BS (prog : Program) (w : World) (X : Fix) (Γ : List (Str × VP)) (ψ ω : PM) (s : Shared) (iter tgt : Expr) (n : Nat) (Tg : Nat → List (Str × VP)) : Prop where
  go : SrcB prog w X Γ ψ ω s iter tgt n Tg
theorem BS.of {iter tgt : Expr} {nn : Nat} {Tg : Nat → List (Str × VP)} (c : CX ⟨k, n⟩ X) (hsc : X.env.scope = sc) (h : ES prog w ⟨k, n⟩ sc Γ ψ iter tgt nn Tg) (b : B X Γ ψ ω s) : BS prog w X Γ ψ ω s iter tgt nn Tg := by
  subst hsc; exact ⟨SrcB.of c h.go b⟩
theorem y_forB {tgt : Expr} {pos : Pos} {iter : Expr} {body : List Stmt} {nn : Nat} {Tg : Nat → List (Str × VP)} (b : B X Γ ψ ω s) (c : CX ⟨k, n⟩ X) (hI : BS prog w X Γ ψ ω s iter tgt nn Tg) (J : Nat → List (Str × VP) → PM → PM → Prop) (hk : ∀ i < nn, ∀ p ∈ Tg i, zK X p.1) (Jst : ∀ i Γ' ψ' ω₁ ω₂, J i Γ' ψ' ω₁ → (∀ a o, ω a = some o → ω₂ a = ω₁ a) → J i Γ' ψ' ω₂) (h0 : ∀ ψ', Le ψ ψ' → J 0 Γ ψ' ω) (turn : ∀ i Γi ψi ωi si, i < nn → J i Γi ψi ωi → Le ψ ψi → B X (Tg i ++ Γi) ψi ωi si → Ex prog w X body (forX prog w X J i ω ψi ωi rest Q E) (forE prog w X E) si) (done : ∀ Γ' ψ' ω' s', J nn Γ' ψ' ω' → Le ψ ψ' → B X Γ' ψ' ω' s' → Ex prog w X rest Q E s') (hs : autoParam (∀ x, foldedSetIterable iter X.env x = pure x) au2) : Ex prog w X (.For tgt iter body [] pos :: rest) Q E s :=
  ⟨zIR J b c hI.go hk Jst h0 (fun i Γi ψi ωi si hi hJ l b' => ((turn i Γi ψi ωi si hi hJ l b').mono fun f s' hf => by cases f <;> first | exact hf.go | exact hf).go) (fun Γ' ψ' ω' s' hJ l b' => (done Γ' ψ' ω' s' hJ l b').go) hs⟩
theorem v_compE {elt tgt iter : Expr} {ifs : List Expr} {pos : Pos} {nn : Nat} {Tg : Nat → List (Str × VP)} {keep : Nat → Bool} {R : Nat → VP} (hI : ES prog w ⟨k + 1, n⟩ sc Γ φ iter tgt nn Tg) (hok : zf sc scope = true) (hT : ∀ i < nn, ∀ p ∈ Tg i, own scope p.1 = true) (ht : ∀ i < nn, ET prog w ⟨k, n⟩ (zBM scope sc) (Tg i ++ zBQ scope Γ) φ ifs (keep i)) (hel : ∀ i < nn, keep i = true → EV prog w ⟨k, n⟩ (zBM scope sc) (Tg i ++ zBQ scope Γ) φ elt (R i)) (hsz : nn ≤ sizeLine) (hs : autoParam (∀ env x, foldedSetIterable iter env x = pure x) au1) : EV prog w ⟨k + 1, n⟩ sc Γ φ (.ListComp elt [⟨tgt, iter, ifs, 0⟩] scope pos) (zB (((List.range nn).filter keep).map R)) :=
  ⟨zGJ hI.go hok hT (fun i h => (ht i h).go) (fun i h k => (hel i h k).go) hsz hs⟩
end
noncomputable def exo (cls : String) (t : Addr) (tb ctx : Value) : Obj := { cls := .type cls, data := .fields #[.ref t, tb, ctx, .none, .bool false, .none] }
theorem zBz : entryFor table "proto.unchain" = some Builtin.«proto.unchain» := entryFor_of_fast (by kernel_rfl)
noncomputable def z7 (A : Around) : Value := A.handled.getD .none
section
theorem zG2 {e x : Addr} {Q : Value → Shared → Prop} (hs : Sub ψ s.heap) (hk : HK ψ x) (he : ψ e = none) (h : Q .none s) : wpAny (model prog w) A (runValue (.builtin "proto.unchain" ⟨[.ref e, .ref x, .ref x, .bool false], []⟩)) Q E s := by
  obtain ⟨o, vs, ho, hd, hc⟩ := hk
  refine wpAny_runValue (codeAny_builtin zBz ?_)
  unfold Builtin.«proto.unchain»
  rcases hc with hc | ⟨y, oy, ys, hc, hoy, hdy, hcy⟩
  · refine zIt (wpAny_field (hs _ _ ho) hd hc ?_)
    exact zIu h
  · have hye : y ≠ e := fun q => by rw [q, he] at hoy; cases hoy
    refine zIt (wpAny_field (hs _ _ ho) hd hc ?_)
    dsimp only
    have h1 : (Value.ref y == Value.none) = false := by simp
    have h2 : (Value.ref y == Value.ref e) = false := by simp [hye]
    simp only [h1, h2, Bool.false_eq_true, if_false]
    by_cases hyx : y = x
    · subst hyx
      have h3 : (Value.ref y == Value.ref y) = true := by simp
      simp only [h3, if_true]
      exact zIt (wpAny_rule (zIu h))
    · have h3 : (Value.ref y == Value.ref x) = false := by simp [hyx]
      simp only [h3, Bool.false_eq_true, if_false]
      refine zIt (zIu ?_)
      refine zIu ⟨Code.quiet_builtin _ (by decide +kernel), codeAny_builtin zBz ?_⟩
      unfold Builtin.«proto.unchain»
      refine zIt (wpAny_field (hs _ _ hoy) hdy hcy ?_)
      exact zIu h
theorem zBa {α : Type} {cls : String} {e t : Addr} {Q : α → Shared → Prop} (hk : HOk A ψ) (hs : Sub ψ s.heap) (hn : ψ e = none) (he : s.heap.get? e = some (exo cls t .none .none)) (h : ∀ h', (∀ b o, b ≠ e → s.heap.get? b = some o → h'.get? b = some o) → h'.get? e = some (exo cls t .none (z7 A)) → E (.ref e) { s with heap := h' }) : wpAny (model prog w) A (raiseNew (.ref e) : Sem α) Q E s := by
  unfold raiseNew
  refine zIt (wpAny_handled ?_)
  rcases hk with hk | ⟨x, hk, hx⟩
  · rw [hk]
    have hc : z7 A = .none := by unfold z7; rw [hk]; rfl
    rw [hc] at h
    have hE := h s.heap (fun b o _ q => q) he
    first
      | exact wpAny_throw hE
      | exact zIt (zIu (wpAny_throw hE))
  · rw [hk]
    have hc : z7 A = .ref x := by unfold z7; rw [hk]; rfl
    have hne : x ≠ e := fun q => by obtain ⟨o, _, ho, _⟩ := hx; rw [q, hn] at ho; cases ho
    dsimp only
    have h1 : (Value.ref x != Value.ref e) = true := by simp [hne]
    simp only [h1, if_true]
    refine zIt (zIw (zG2 hs hx hn ?_))
    unfold updateField
    refine zIt (zIt (wpAny_load he ?_))
    dsimp only [exo]
    have h2 : 2 < (#[.ref t, .none, .none, .none, .bool false, .none] : Array Value).size := by show 2 < 6; decide
    simp only [h2, if_true]
    refine wpAny_update he (wpAny_throw ?_)
    refine h _ (fun b o hb q => ?_) ?_
    · rw [Heap.get?_update_other _ _ (Ne.symm hb)]; exact q
    · rw [Heap.get?_update_self _ he rfl, hc]; rfl
theorem zFH {cls : String} {args : List Value} {Q : Value → Shared → Prop} (hp : PlainExc cls) (h : ∀ h' e t, (∀ b o, s.heap.get? b = some o → h'.get? b = some o) → s.heap.get? e = none → h'.get? e = some (exo cls t .none .none) → Q (.ref e) { s with heap := h' }) (hargs : args.length ≤ sizeLine := by size_fits) :
    wpAny (model prog w) A (newExc (.type cls) args) Q E s :=
  wpAny_newExc_plain hp (fun h' e hm => let ⟨t, ht, _, _⟩ := hm.there; h h' e t hm.keeps hm.new ht) hargs
theorem zAY {α : Type} {cls msg : String} {Q : α → Shared → Prop} (hp : PlainExc cls) (hk : HOk A ψ) (hs : Sub ψ s.heap) (h : ∀ h' tk e t, (∀ b o, s.heap.get? b = some o → h'.get? b = some o) → s.heap.get? e = none → h'.get? e = some (exo cls t .none (z7 A)) → E (.ref e) { s with heap := h', toks := tk }) :
    wpAny (model prog w) A (raiseErrorWords cls msg : Sem α) Q E s := by
  unfold raiseErrorWords
  refine zIt (wpAny_mkText (zIt ?_))
  refine zFH hp fun h' e t hkp hnew hthere => ?_
  have hn : ψ e = none := zE hs hnew
  refine zBa hk (fun a o q => hkp a o (hs a o q)) hn hthere fun h2 hk2 ht2 => ?_
  refine h h2 _ e t (fun b o q => hk2 b o (fun z => ?_) (hkp b o q)) hnew ht2
  rw [z, hnew] at q; cases q
theorem zGk {α : Type} {cls msg : String} {Q : α → Shared → Prop} (hp : PlainExc cls) (hk : HOk A ψ) (hs : Sub ψ s.heap) (h : ∀ h' tk e t, (∀ b o, s.heap.get? b = some o → h'.get? b = some o) → s.heap.get? e = none → h'.get? e = some (exo cls t .none (z7 A)) → E (.ref e) { s with heap := h', toks := tk }) (hm : (msg : Str).length ≤ sizeLine := by size_fits) :
    wpAny (model prog w) A (raiseErrorMade cls msg : Sem α) Q E s := by
  unfold raiseErrorMade
  refine zIt (wpAny_mkStr (zIt ?_) hm)
  refine zFH hp fun h' e t hkp hnew hthere => ?_
  have hn : ψ e = none := zE hs hnew
  refine zBa hk (fun a o q => hkp a o (hs a o q)) hn hthere fun h2 hk2 ht2 => ?_
  refine h h2 _ e t (fun b o q => hk2 b o (fun z => ?_) (hkp b o q)) hnew ht2
  rw [z, hnew] at q; cases q
end
structure Top (X : Fix) : Prop where
  fr : X.env.frame = some X.env.locals
  st : ∃ l, X.A₀.frames = some l ∧ X.A.frames = some (X.env :: l)
inductive Tb (ω : PM) (y : Addr) (fl : Value) : Prop
  | mk (o : _) (vs : _) (h1 : ω y = some o) (h2 : o.data = .fields vs) (h3 : vs[3]? = some fl) : Tb ω y fl
section
theorem Top.of (c : CX μ X) (d : zFk X) : Top X := by
  obtain ⟨fr, e, _⟩ := c.stk
  refine ⟨d.dp.2, fr, e, ?_⟩
  rw [d.dp.1]
  exact Around.frames_deeper e
theorem zEv {l : List Env} {h : Heap} (k : ∀ env ∈ l, env.scope.kind ≠ .module ∧ ∃ L o, env.frame = some L ∧ h.get? L = some o ∧ ∀ vs, o.data ≠ .fields vs) : h.FunFrames {} l := by
  induction l with
  | nil => trivial
  | cons env r ih =>
    obtain ⟨h1, L, o, h2, h3, h4⟩ := k env (List.mem_cons_self ..)
    exact ⟨h1, ⟨L, o, h2, rfl, h3, h4⟩, ih fun e he => k e (List.mem_cons_of_mem _ he)⟩
theorem zHb {F : List Addr} {h' : Heap} (hF : ∀ b ∈ F, ∀ o, s.heap.get? b = some o → ∀ vs, o.data ≠ .fields vs) (x : Heap.SlotsOnly F s.heap h') : Ext F s { s with heap := h' } :=
  ⟨⟨h', s.toks, rfl⟩, fun b o e => by
    by_cases hb : b ∈ F
    · obtain ⟨sl, e1⟩ := x.2.2 b o e
      exact .inl ⟨sl, e1, .inr ⟨hb, hF b hb o e⟩⟩
    · exact .same ((x.2.1 b hb).trans e)⟩
theorem S.entry {e : Addr} {oe : Obj} {vs : Array Value} {head : Value} {hadNext : Bool} {Q : Unit → Shared → Prop} (x : S X m ψ ω s) (cx : CX μ X) (T : Top X) (he : ω e = some oe) (hd : oe.data = .fields vs) (hsz : 1 < vs.size) (q : ∀ s' y o' vs', ω y = none → y ≠ e → o'.data = .fields vs' → vs'[3]? = some (rawInt X.env.locals) → S X m ψ (put (put ω y o') e (oe.mapFields (·.setIfInBounds 1 (.ref y)))) s' → Q () s') : wpAny (model prog w) X.A (do let a ← frameOf X.env; let pl ← entryPlaceOf X.env.locals hadNext; let b ← EntryCells.newEntry head a .none (rawInt X.env.locals) .none pl; setField (.ref e) 1 b) Q E s := by
  obtain ⟨l, h0, hA⟩ := T.st
  have hst : ∀ env ∈ X.env :: l, env.scope.kind ≠ .module ∧ ∃ L o, env.frame = some L ∧ s.heap.get? L = some o ∧ ∀ vs, o.data ≠ .fields vs := by
    intro env he
    rcases List.mem_cons.mp he with rfl | he
    · obtain ⟨ml, ⟨oL, es, ep, hL, hdL, _⟩, _⟩ := x.fram.loc
      exact ⟨by rw [x.fram.fn]; decide, _, _, T.fr, hL, fun vs q => by rw [hdL] at q; cases q⟩
    · obtain ⟨fr, e', k⟩ := cx.stk.ext x.ext
      rw [h0] at e'; cases e'
      exact k env he
  have hfr : frs X.A = (X.env :: l).filterMap (·.frame) := by unfold frs; rw [hA]; rfl
  refine zIt (wpAny_frameOf_fun (base := {}) hA (zEv hst) T.fr fun h₁ hs₁ => ?_)
  rw [← hfr] at hs₁
  have x1 := x.back cx (zHb (fun b hb o ho vs q => by
    rw [hfr] at hb
    obtain ⟨_, o', ho', hnf⟩ := (zEv hst).mem hb
    rw [ho] at ho'; cases ho'
    exact hnf vs q) hs₁)
  refine zIt (wpAny_entryPlaceOf fun pl hpl => ?_)
  unfold EntryCells.newEntry newFields
  refine zIt (wpAny_newObj_type ?_ (hpl.sizeOk5 _ _ _ _ _))
  have hny : ω h₁.objs.size = none := by
    cases z : ω h₁.objs.size with
    | none => rfl
    | some o =>
      have h2 : h₁.get? h₁.objs.size = some o := (x1.own _ _ z).1
      rw [zF] at h2; cases h2
  have hye : h₁.objs.size ≠ e := fun z => by rw [z, he] at hny; cases hny
  have x2 := x1.lay { cls := .type "traceback", dict := none, data := .fields ([head, .ref X.env.locals, .none, rawInt X.env.locals, .none] ++ (if pl.isEmpty then List.replicate 6 Value.none else pl)).toArray } rfl s.toks
  have he2 : (put ω h₁.objs.size { cls := .type "traceback", dict := none, data := .fields ([head, .ref X.env.locals, .none, rawInt X.env.locals, .none] ++ (if pl.isEmpty then List.replicate 6 Value.none else pl)).toArray }) e = some oe := by rw [zC (Ne.symm hye)]; exact he
  have hge := (x2.own _ _ he2).1
  refine wpAny_setField hge hd hsz ?_
  refine q _ h₁.objs.size _ _ hny hye rfl ?_ (x2.sameBut he2 ⟨_, s.toks, rfl⟩ (fun b ob hb e => ?_) ?_)
  · rcases hpl with rfl | ⟨_, _, _, _, _, _, _, rfl⟩ <;> simp
  · rw [Heap.get?_update_other _ _ (Ne.symm hb)]; exact e
  · exact Heap.get?_update_self _ hge (Obj.isFreed_of_fields (Obj.data_mapFields hd _))
theorem put_swap {a b : Addr} {o o' : Obj} (h : a ≠ b) : put (put ω a o) b o' = put (put ω b o') a o := by
  funext c
  unfold put
  by_cases h1 : c = b
  · subst h1; simp [Ne.symm h]
  · by_cases h2 : c = a
    · subst h2; simp [h]
    · simp [h1, h2]
theorem zA7 {a : Addr} {o o' : Obj} : put (put ω a o) a o' = put ω a o' := by
  funext c
  unfold put
  by_cases h1 : c = a <;> simp [h1]
theorem zIg {cls : String} {t y : Addr} {tb ctx : Value} : (exo cls t tb ctx).mapFields (·.setIfInBounds 1 (.ref y)) = exo cls t (.ref y) ctx := rfl
inductive FlF (X : Fix) (Γ : List (Str × VP)) (ψ ω : PM) (cls : String) (ctx : Value) (x : Addr) (s : Shared) : Prop
  | mk (t : _) (h1 : ω x = none) (h2 : B X Γ ψ (put ω x (exo cls t .none ctx)) s) : FlF X Γ ψ ω cls ctx x s
inductive FlT (X : Fix) (Γ : List (Str × VP)) (ψ ω : PM) (cls : String) (ctx : Value) (x : Addr) (fl : Value) (s : Shared) : Prop
  | mk (ω' : _) (t : _) (y : _) (h1 : Le ω ω') (h2 : ω x = none) (h3 : ω y = none) (h4 : x ≠ y) (h5 : zAa ψ ω' x = some (exo cls t (.ref y) ctx)) (h6 : Tb ω' y fl) (h7 : B X Γ ψ ω' s) : FlT X Γ ψ ω cls ctx x fl s
inductive FlO (X : Fix) (Γ : List (Str × VP)) (ψ ω : PM) (cls : String) (ctx : Value) (x : Addr) (s : Shared) : Prop
  | mk (ω' : _) (t : _) (y : _) (h1 : Le ω ω') (h2 : ω x = none) (h3 : ω y = none) (h4 : x ≠ y) (h5 : ω' x = some (exo cls t (.ref y) ctx)) (h6 : Tb ω' y .none) (h7 : B X Γ ψ ω' s) : FlO X Γ ψ ω cls ctx x s
noncomputable def here (X : Fix) : Value := rawInt X.env.locals
variable {cls : String} {ctx : Value} {e : Addr}
theorem FlF.note {Q : Unit → Shared → Prop} (f : FlF X Γ ψ ω cls ctx e s) (cx : CX μ X) (T : Top X) (q : ∀ s', FlT X Γ ψ ω cls ctx e (here X) s' → Q () s') : wpAny (model prog w) X.A (noteFrame (.ref e) X.env) Q E s := by
  obtain ⟨t, hn, m, x, ty⟩ := f
  have hge := (x.own _ _ (zA ω e _)).1
  unfold noteFrame
  simp only [T.fr]
  refine zIt (wpAny_field hge rfl (x := .none) (by rfl) ?_)
  rw [if_neg (by decide)]
  refine x.entry cx T (zA ω e _) rfl (by show 1 < 6; decide) fun s' y o' vs' hy hye hd' h3 x' => q s' ⟨_, t, y, ?_, hn, ?_, Ne.symm hye, ?_, ⟨o', vs', ?_, hd', h3⟩, m, x', ty⟩
  · rw [zC hye] at hy
    intro a o ha
    rw [zC (fun z => by rw [z, hn] at ha; cases ha), zC (fun z => by rw [z, hy] at ha; cases ha), zC (fun z => by rw [z, hn] at ha; cases ha)]
    exact ha
  · rw [zC hye] at hy; exact hy
  · rw [zIg]; exact zD4 (zA _ _ _)
  · rw [zC hye, zA]
theorem FlT.again {Q : Unit → Shared → Prop} (f : FlT X Γ ψ ω cls ctx e (here X) s) (T : Top X) (q : Q () s) : wpAny (model prog w) X.A (noteFrame (.ref e) X.env) Q E s := by
  obtain ⟨ω', t, y, hl, hn, hny, hne, he, ⟨o, vs, hy, hd, h3⟩, m, x, ty⟩ := f
  have hge := x.all.sub _ _ he
  have hgy := (x.own _ _ hy).1
  unfold noteFrame
  simp only [T.fr]
  refine zIt (wpAny_field hge rfl (x := .ref y) (by rfl) ?_)
  rw [if_pos (show (Value.ref y != Value.none) = true from by simp)]
  refine zIt (wpAny_field hgy hd h3 ?_)
  rw [if_pos (show (here X == rawInt X.env.locals) = true from by simp [here])]
  exact zIu q
theorem FlT.flight {fl : Value} {g : Option Addr} {Q : Unit → Shared → Prop} (f : FlT X Γ ψ ω cls ctx e fl s) (q : ∀ s', FlT X Γ ψ ω cls ctx e (g.elim Value.none fun f => rawInt f) s' → Q () s') : wpAny (model prog w) A (setFlight (.ref e) g) Q E s := by
  obtain ⟨ω', t, y, hl, hn, hny, hne, he, ⟨o, vs, hy, hd, h3⟩, m, x, ty⟩ := f
  have hge := x.all.sub _ _ he
  have hgy := (x.own _ _ hy).1
  have hsz : 3 < vs.size := (Array.getElem?_eq_some_iff.mp h3).1
  unfold setFlight
  refine zIt (wpAny_field hge rfl (x := .ref y) (by rfl) ?_)
  rw [if_pos (show (Value.ref y != Value.none) = true from by simp)]
  refine wpAny_setField hgy hd hsz (q _ ⟨put ω' y (o.mapFields (·.setIfInBounds 3 (g.elim Value.none fun f => rawInt f))), t, y, ?_, hn, hny, hne, ?_, ⟨_, _, zA _ _ _, Obj.data_mapFields hd _, by simp [hsz]⟩, m, x.sameBut hy ⟨_, s.toks, rfl⟩ (fun b ob hb e => by rw [Heap.get?_update_other _ _ (Ne.symm hb)]; exact e) (Heap.get?_update_self _ hgy (Obj.isFreed_of_fields (Obj.data_mapFields hd _))), ty⟩)
  · intro a o' ha
    rw [zC (fun z => by rw [z, hny] at ha; cases ha)]
    exact hl a o' ha
  · unfold zAa at he ⊢
    rw [zC hne]; exact he
theorem FlO.note {Q : Unit → Shared → Prop} (f : FlO X Γ ψ ω cls ctx e s) (cx : CX μ X) (T : Top X) (q : ∀ s', FlT X Γ ψ ω cls ctx e (here X) s' → Q () s') : wpAny (model prog w) X.A (noteFrame (.ref e) X.env) Q E s := by
  obtain ⟨ω', t, y, hl, hn, hny, hne, he, ⟨o, vs, hy, hd, h3⟩, m, x, ty⟩ := f
  have hge := (x.own _ _ he).1
  have hgy := (x.own _ _ hy).1
  have hsz : 3 < vs.size := (Array.getElem?_eq_some_iff.mp h3).1
  unfold noteFrame
  simp only [T.fr]
  refine zIt (wpAny_field hge rfl (x := .ref y) (by rfl) ?_)
  rw [if_pos (show (Value.ref y != Value.none) = true from by simp)]
  refine zIt (wpAny_field hgy hd h3 ?_)
  rw [if_neg (show ¬ ((Value.none == rawInt X.env.locals) = true) from by simp [rawInt])]
  refine zIt (wpAny_setField hgy hd hsz ?_)
  have x2 := x.sameBut (s' := { s with heap := s.heap.update y (Obj.mapFields (·.setIfInBounds 3 .none)) }) hy ⟨_, s.toks, rfl⟩ (fun b ob hb e => by rw [Heap.get?_update_other _ _ (Ne.symm hb)]; exact e) (Heap.get?_update_self _ hgy (Obj.isFreed_of_fields (Obj.data_mapFields hd _)))
  have he2 : put ω' y (o.mapFields (·.setIfInBounds 3 .none)) e = some (exo cls t (.ref y) ctx) := by rw [zC hne]; exact he
  refine x2.entry cx T he2 rfl (by show 1 < 6; decide) fun s' z o' vs' hz hze hd' h3' x' => q s' ⟨_, t, z, ?_, hn, ?_, Ne.symm hze, ?_, ⟨o', vs', ?_, hd', h3'⟩, m, x', ty⟩
  · have hzy : z ≠ y := fun q => by rw [q, zA] at hz; cases hz
    rw [zC hzy] at hz
    have hωz : ω z = none := by
      cases q : ω z with
      | none => rfl
      | some o => rw [hl z o q] at hz; cases hz
    intro a o ha
    rw [zC (fun q => by rw [q, hn] at ha; cases ha), zC (fun q => by rw [q, hωz] at ha; cases ha), zC (fun q => by rw [q, hny] at ha; cases ha)]
    exact hl a o ha
  · have hzy : z ≠ y := fun q => by rw [q, zA] at hz; cases hz
    rw [zC hzy] at hz
    cases q : ω z with
    | none => rfl
    | some o => rw [hl z o q] at hz; cases hz
  · rw [zIg]; exact zD4 (zA _ _ _)
  · rw [zC hze, zA]
def Fl (X : Fix) (Γ : List (Str × VP)) (ψ ω : PM) (cls : String) (ctx : Value) (x : Addr) (s : Shared) : Prop := FlF X Γ ψ ω cls ctx x s ∨ FlO X Γ ψ ω cls ctx x s ∨ FlT X Γ ψ ω cls ctx x (here X) s
theorem Fl.note {Q : Unit → Shared → Prop} (f : Fl X Γ ψ ω cls ctx e s) (cx : CX μ X) (T : Top X) (q : ∀ s', FlT X Γ ψ ω cls ctx e (here X) s' → Q () s') : wpAny (model prog w) X.A (noteFrame (.ref e) X.env) Q E s := by
  rcases f with f | f | f
  · exact f.note cx T q
  · exact f.note cx T q
  · exact f.again T (q s f)
theorem FlT.back (f : FlT X Γ ψ ω cls ctx e (here X) s) (T : Top X) (q : ∀ s', FlT X Γ ψ ω cls ctx e (here X) s' → E (.ref e) s') : cameBackBy (model prog w) A X.env E (.ref e) s := by
  unfold cameBackBy
  have f0 := f
  obtain ⟨ω', t, y, hl, hn, hny, hne, he, _, m, x, ty⟩ := f0
  refine zIt (wpAny_field (x.all.sub _ _ he) rfl (x := .ref y) (by rfl) ?_)
  have h1 : (Value.ref y == Value.none) = false := by simp
  simp only [h1, Bool.false_eq_true, if_false]
  rw [T.fr]
  exact f.flight fun s' f' => q s' f'
theorem Fl.noted (f : Fl X Γ ψ ω cls ctx e s) (cx : CX μ X) (T : Top X) (q : ∀ s', FlT X Γ ψ ω cls ctx e (here X) s' → E (.ref e) s') : notedBy (model prog w) X.A X.env E (.ref e) s := by
  unfold notedBy
  exact f.note cx T q
theorem Fl.forE (f : Fl X Γ ψ ω cls ctx e s) (cx : CX μ X) (T : Top X) (q : ∀ s', FlT X Γ ψ ω cls ctx e (here X) s' → E (.ref e) s') : Mine.forE prog w X E (.ref e) s := by
  unfold Mine.forE
  exact f.noted cx T fun s' f' => f'.back T q
end
section
variable {rest : List Stmt} {Q : Flow → Shared → Prop} {E : Value → Shared → Prop} {cls : String} {ctx : Value}
def zHk (prog : Program) (w : World) {α : Type} (A : Around) (ψ : PM) (s : Shared) (t : Sem α) (cls : String) : Prop :=
  ∀ (Q : α → Shared → Prop) (E : Value → Shared → Prop), (∀ x t ψ' s1 s2, zQ (frs A) ψ s ψ' s1 → Ext (frs A) s1 s2 → s1.heap.get? x = none → s2.heap.get? x = some (exo cls t .none (z7 A)) → E (.ref x) s2) → wpAny (model prog w) A t Q E s
theorem zFa {l : Addr} {items : Array Value} {i : Int} {t : Tok} {Q : Value → Shared → Prop} (hk : HOk A ψ) (hs : Sub ψ s.heap) (hl : s.heap.IsList l items) (hout : (items.size : Int) ≤ i) (hhi : i < 2 ^ 63) (hE : ∀ h' tk e t, (∀ b o, s.heap.get? b = some o → h'.get? b = some o) → s.heap.get? e = none → h'.get? e = some (exo "IndexError" t .none (z7 A)) → E (.ref e) { s with heap := h', toks := tk }) :
    wpAny (model prog w) A (getItem (.ref l) (.int i t)) Q E s := by
  obtain ⟨o, ho, hc, ne, hd⟩ := id hl
  unfold getItem
  try with_reducible refine zIw ?_
  first | refine zIt (zIu ?_) | skip
  refine zIt (wpAny_sequenceKey hl.typeIs (by decide) ?_)
  refine zIt (wpAny_callSpecial?_slot (name := Str.ofString "__getitem__") hl.typeIs slot_list_getitem
    (wpAny_call_entry slot_list_getitem hl.typeIs entry_list_getitem ?_ (args_list_getitem _ _)))
  show wpAny _ _ (Builtin.List.listSubscript? (.int i t) >>= _) _ _ s
  refine zIt (wpAny_listSubscript_int (fitsIndex_both (by omega) hhi) ?_)
  clear hhi
  obtain ⟨j, rfl⟩ := Int.eq_ofNat_of_zero_le (show 0 ≤ i by omega)
  have hx : items[j]? = none := Array.getElem?_eq_none (by omega)
  show wpAny _ _ ((seqItemAt l j >>= fun r => pure (r.map (j, ·))) >>= _) _ _ s
  refine zIt (zIt (wpAny_seqItemAt ho hd (zIu ?_)))
  rw [hx]
  first
    | exact zIt (wpAny_rule (zAY plainExc_IndexError hk hs hE))
    | exact zIt (wpAny_rule (zIt (zAY plainExc_IndexError hk hs hE)))
    | exact zIt (zIt (wpAny_rule (zAY plainExc_IndexError hk hs hE)))
    | exact wpAny_rule (zAY plainExc_IndexError hk hs hE)
def Out2 (prog : Program) (w : World) (μ : Md) (φ : PM) (t : Value → Value → Sem Value) (P Q : VP) (cls : String) : Prop :=
  ∀ A ψ s a b, Cx μ A ψ s → Le φ ψ → P.p ψ a → Q.p ψ b → zHk prog w A ψ s (t a b) cls
theorem get_out {ps : List VP} {i : Int} (h : (ps.length : Int) ≤ i) (hi : i < 2 ^ 63) : Out2 prog w μ φ getItem (zB ps) (vInt i) "IndexError" := by
  rintro A ψ s _ _ c l ⟨a, vs, j, rfl, ho, hall⟩ ⟨t, rfl⟩ Q E hE
  refine zFa c.hand c.sub (items := vs.toArray) ⟨_, c.sub _ _ ho, rfl, j, rfl⟩ (by simpa [hall.length] using h) hi fun h' tk e t hk hn ht => ?_
  exact hE e t ψ s _ (zQ.refl c.sub) (Ext.of_keeps hk) hn ht
structure EVR (prog : Program) (w : World) (μ : Md) (sc : Scope) (Γ : List (Str × VP)) (φ : PM) (e : Expr) (cls : String) : Prop where
  go : ∀ A env m ψ s, env.scope = sc → Cx μ A ψ s → Le φ ψ → zCl env m s.heap → Typ Γ ψ m → zHk prog w A ψ s (eval e env) cls
structure EBR (prog : Program) (w : World) (μ : Md) (sc : Scope) (Γ : List (Str × VP)) (φ : PM) (e : Expr) (cls : String) : Prop where
  go : ∀ A env m ψ s, env.scope = sc → Cx μ A ψ s → Le φ ψ → zCl env m s.heap → Typ Γ ψ m → zHk prog w A ψ s (isTrue e env (eval e env)) cls
theorem r_sub {value slice : Expr} {pos : Pos} {P I : VP} {T id : String} (hT : OfT P T) (hl : typeLookup (.type T) "__getitem__" = pure (some (.builtin id))) (hv : EV prog w μ sc Γ φ value P) (hi : EV prog w μ sc Γ φ slice I) (ho : Out2 prog w μ φ getItem P I cls) (hsl : (∀ o i, subscripted slice false o i = operate [o, i] (getItem o i)) ∨ (∀ o i, subscripted slice false o i = operate [i, o] (getItem o i))) : EVR prog w μ sc Γ φ (.Subscript value slice pos) cls := by
  refine ⟨?_⟩
  intro A env m ψ s he c le f t Q E hE
  rw [arm_eval_Subscript]
  refine zIt ((hv.go A env m ψ s he c le f t).use fun o ψ1 s1 g1 p1 => ?_)
  have c1 := c.grow g1
  refine zIt (zIw ((hi.go A env m ψ1 s1 he c1 (le.trans g1.le) (f.ext g1.ext) (t.le g1.le)).use fun i ψ2 s2 g2 p2 => ?_))
  have p1' := P.mono g2.le p1
  have hT2 := hT ψ2 o s2 g2.sub p1'
  refine zIt (wpAny_standAt (zIt ?_))
  rw [getitemInPython_of_ne hT2.not_modules]
  refine zIt (wpAny_specialOf hT2 hl ?_)
  have fin : ∀ l, wpAny (model prog w) A (operate l (getItem o i)) (fun r s3 => wpAny (model prog w) A (letTemporaryGo value o r >>= fun _ => pure r) Q E s3) E s2 := fun l => by
    unfold operate
    refine zIt (zIw ?_)
    exact ho A ψ2 s2 o i (c1.grow g2) (le.trans (g1.le.trans g2.le)) p1' p2 _ _ fun x t ψ' s3 s4 g e hn hx => hE x t ψ' s3 s4 (g1.trans (g2.trans g)) e hn hx
  rcases hsl with h | h
  · refine zIu (zIt ?_)
    rw [h]; exact fin _
  · refine zIu (zIt ?_)
    rw [h]; exact fin _
theorem zH8 {value slice : Expr} {pos : Pos} {ps : List VP} {i : Int} (hv : EV prog w μ sc Γ φ value (zB ps)) (hi : EV prog w μ sc Γ φ slice (vInt i)) (h : (ps.length : Int) ≤ i) (hi' : i < 2 ^ 63) (hsl : (∀ o i, subscripted slice false o i = operate [o, i] (getItem o i)) ∨ (∀ o i, subscripted slice false o i = operate [i, o] (getItem o i)) := by first | exact .inl fun _ _ => rfl | exact .inr fun _ _ => rfl) : EVR prog w μ sc Γ φ (.Subscript value slice pos) "IndexError" :=
  r_sub zGB zAV hv hi (get_out h hi') hsl
theorem rb_cmpL {l r : Expr} {op : CmpOp} {pos : Pos} (hl : EVR prog w μ sc Γ φ l cls) (hm : autoParam (behindInMarks op r = false) au0) : EBR prog w μ sc Γ φ (.Compare l [op] [r] pos) cls := by
  refine ⟨?_⟩
  intro A env m ψ s he c le f t Q E hE
  refine wpAny_isTrue_Compare1 ?_ hm
  exact hl.go A env m ψ s he c le f t _ _ hE
theorem FlF.of {ψ' : PM} {s1 s2 : Shared} {x t : Addr} (c : CX ⟨k, n⟩ X) (b : B X Γ ψ ω s) (g : zQ (frs X.A) ψ s ψ' s1) (e : Ext (frs X.A) s1 s2) (hn : s1.heap.get? x = none) (hx : s2.heap.get? x = some (exo cls t .none ctx)) : FlF X Γ ψ' ω cls ctx x s2 := by
  obtain ⟨m, Y, ty⟩ := b
  have Y1 := Y.grow c g
  have hω : ω x = none := by
    cases q : ω x with
    | none => rfl
    | some o => have := (Y1.own x o q).1; rw [hn] at this; cases this
  refine ⟨t, hω, m, ?_, ty.le g.le⟩
  have Y2 := Y1.wnew c e (wr := [x]) fun b hb => by rw [List.mem_singleton.mp hb]; exact hn
  have : zAS ω [x] s2.heap = put ω x (exo cls t .none ctx) := by
    funext a
    unfold zAS put
    by_cases q : a = x
    · subst q; simp [hx]
    · simp [q]
  rw [this] at Y2
  exact Y2
theorem zE5 {x : Str} {px pos : Pos} {e : Expr} (hsc : X.env.scope = sc) (b : B X Γ ψ ω s) (c : CX ⟨k, n⟩ X) (h : EVR prog w ⟨k, n⟩ sc Γ ψ e cls) (q : ∀ x ψ' s', Le ψ ψ' → FlF X Γ ψ' ω cls (z7 X.A) x s' → E (.ref x) s') (hs : autoParam (swapsWith e (some (.Name x px)) pos.line X.env = pure false) au0) : Ex prog w X (.Assign [.Name x px] e pos :: rest) Q E s := by
  refine ⟨wpAny_execs_cons (wpAny_Assign_Name ?_ hs)⟩
  have b0 := b
  obtain ⟨m, Y, ty⟩ := b0
  exact h.go X.A X.env m ψ s hsc (Y.cx c) (Le.refl _) Y.fram ty _ _ fun x t ψ' s1 s2 g e hn hx => q x ψ' s2 g.le (FlF.of c b g e hn hx)
theorem test_R {t : Expr} {Qb : Bool → Shared → Prop} (hsc : X.env.scope = sc) (b : B X Γ ψ ω s) (c : CX ⟨k, n⟩ X) (h : EBR prog w ⟨k, n⟩ sc Γ ψ t cls) (q : ∀ x ψ' s', Le ψ ψ' → FlF X Γ ψ' ω cls (z7 X.A) x s' → E (.ref x) s') : wpAny (model prog w) X.A (isTrue t X.env (eval t X.env)) Qb E s := by
  have b0 := b
  obtain ⟨m, Y, ty⟩ := b0
  exact h.go X.A X.env m ψ s hsc (Y.cx c) (Le.refl _) Y.fram ty _ _ fun x t ψ' s1 s2 g e hn hx => q x ψ' s2 g.le (FlF.of c b g e hn hx)
theorem test_I {t : Expr} {r : Bool} {Qb : Bool → Shared → Prop} (b : B X Γ ψ ω s) (h : TI prog w X Γ ψ ω t r) (q : ∀ ψ' s', Le ψ ψ' → B X Γ ψ' ω s' → Qb r s') : wpAny (model prog w) X.A (isTrue t X.env (eval t X.env)) Qb E s := h.go s _ _ b q
noncomputable def wQ (prog : Program) (w : World) (X : Fix) (I : Nat → Shared → Prop) (n : Nat) (rest : List Stmt) (Q : Flow → Shared → Prop) (E : Value → Shared → Prop) : Flow → Shared → Prop
  | .next, s | .cont, s => ∃ m, m < n ∧ I m s
  | .brk, s => Ex prog w X rest Q E s
  | .ret v, s => Q (.ret v) s
theorem zIK {test : Expr} {body : List Stmt} {pos : Pos} (I : Nat → Shared → Prop) (turn : ∀ n s, I n s → wpAny (model prog w) X.A (isTrue test X.env (eval test X.env)) (fun b s2 => if b then Ex prog w X body (wQ prog w X I n rest Q E) (forE prog w X E) s2 else Ex prog w X rest Q E s2) (forE prog w X E) s) (n : Nat) (h : I n s) : Ex prog w X (.While test body [] pos :: rest) Q E s := by
  refine ⟨z9 (wpAny_While (codeAny_whileLoop I (fun n s hI => ?_) n h))⟩
  refine zIv (turn n s hI) (fun b s2 hb => ?_) fun _ _ e => e
  cases b with
  | true =>
    simp only [if_true] at hb ⊢
    refine zIv hb.go (fun f s3 hf => ?_) fun _ _ e => e
    cases f with
    | next => exact hf
    | cont => exact hf
    | brk => exact hf.go
    | ret v => exact hf
  | false =>
    simp only [Bool.false_eq_true, if_false] at hb ⊢
    exact wpAny_execs_nil hb.go
noncomputable def Fix.mk' (X : Fix) (x : Addr) : Fix := { X with A := X.A.mark (some (.ref x)), hx := some x }
def zEt (ψ : PM) (ctx : Value) : Prop := ctx = .none ∨ ∃ z oz zs, ctx = .ref z ∧ ψ z = some oz ∧ oz.data = .fields zs ∧ zs[2]? = some .none
theorem zEt.le {ψ' : PM} (h : zEt ψ ctx) (l : Le ψ ψ') : zEt ψ' ctx := h.imp id fun h => by obtain ⟨z, oz, zs, a, b, c⟩ := h; exact ⟨z, oz, zs, a, l _ _ b, c⟩
theorem HK.of {x t : Addr} {tb : Value} (h : ψ x = some (exo cls t tb ctx)) (c : zEt ψ ctx) : HK ψ x := by
  refine ⟨_, _, h, rfl, ?_⟩
  rcases c with rfl | ⟨z, oz, zs, rfl, h1, h2, h3⟩
  · exact .inl rfl
  · exact .inr ⟨z, oz, zs, rfl, h1, h2, h3⟩
theorem CX.mk2 {x : Addr} (c : CX ⟨k, n⟩ X) : CX ⟨k, false⟩ (X.mk' x) := by obtain ⟨n0, h, _⟩ := c.base; exact ⟨n0, h, fun e => by cases e⟩
theorem S.mark {x : Addr} (y : S X m ψ ω s) (d : zFk X) (h : HK ψ x) : S (X.mk' x) m ψ ω s := by
  refine ⟨y.ext, y.le, y.new, y.sub, y.fram, ?_, fun e he => ?_, y.loc, y.there, y.off, y.fre, y.own, y.tab⟩
  · show Lnk X.A₀ X.env (some x) (X.A.mark (some (.ref x)))
    rw [d.dp.1]
    exact .mark x d.dp.2
  · cases he; exact h
theorem S.unmark {x : Addr} (y : S (X.mk' x) m ψ ω s) (d : zFk X) : S X m ψ ω s := by
  refine ⟨y.ext, y.le, y.new, y.sub, y.fram, ?_, fun e he => ?_, y.loc, y.there, y.off, y.fre, y.own, y.tab⟩
  · rw [d.hx, d.dp.1]
    exact .deep d.dp.2
  · rw [d.hx] at he; cases he
theorem B.unmark {x : Addr} (b : B (X.mk' x) Γ ψ ω s) (d : zFk X) : B X Γ ψ ω s := let ⟨m, y, t⟩ := b; ⟨m, y.unmark d, t⟩
theorem FlT.unmark {x e : Addr} {fl : Value} (b : FlT (X.mk' x) Γ ψ ω cls ctx e fl s) (d : zFk X) : FlT X Γ ψ ω cls ctx e fl s :=
  let ⟨ω', t, y, a1, a2, a3, a4, a5, a6, b⟩ := b; ⟨ω', t, y, a1, a2, a3, a4, a5, a6, b.unmark d⟩
theorem Top.mk' {x : Addr} (T : Top X) : Top (X.mk' x) := let ⟨a, l, b, c⟩ := T; ⟨a, l, b, c⟩
inductive HS (X : Fix) (Γ : List (Str × VP)) (ψ ω : PM) (cls : String) (ctx : Value) (x : Addr) (s : Shared) : Prop
  | mk (ω' : _) (t : _) (y : _) (h1 : Le ω ω') (h2 : ω x = none) (h3 : ω y = none) (h4 : x ≠ y) (h5 : ω' x = none) (h6 : ψ x = some (exo cls t (.ref y) ctx)) (h7 : Tb ω' y .none) (h8 : B (X.mk' x) Γ ψ ω' s) : HS X Γ ψ ω cls ctx x s
theorem HS.plain {x : Addr} (h : HS X Γ ψ ω cls ctx x s) : B (X.mk' x) Γ ψ ω s := by
  obtain ⟨ω', t, y, hl, _, _, _, _, _, _, b⟩ := h
  exact b.forget hl
theorem FlT.hold {x : Addr} (f : FlT X Γ ψ ω cls ctx x .none s) (d : zFk X) (hc : zEt ψ ctx) : ∃ ψ', Le ψ ψ' ∧ HS X Γ ψ' ω cls ctx x s := by
  obtain ⟨ω', t, y, hl, hn, hny, hne, he, ht, b⟩ := f
  cases q : ω' x with
  | none =>
    have he' : ψ x = some (exo cls t (.ref y) ctx) := by unfold zAa at he; rw [q] at he; simpa using he
    obtain ⟨m, Y, ty⟩ := b
    exact ⟨ψ, Le.refl _, ω', t, y, hl, hn, hny, hne, q, he', ht, m, Y.mark d (HK.of he' hc), ty⟩
  | some o =>
    have ho : o = exo cls t (.ref y) ctx := by unfold zAa at he; rw [q] at he; exact Option.some.inj he
    subst ho
    have hψ := b.ownNone q
    have b2 := b.freeze q
    obtain ⟨m, Y, ty⟩ := b2
    refine ⟨_, zL hψ, _, t, y, ?_, hn, hny, hne, by simp, zA _ _ _, ?_, m, Y.mark d (HK.of (zA _ _ _) (hc.le (zL hψ))), ty⟩
    · intro a o ha
      have : a ≠ x := fun z => by rw [z, hn] at ha; cases ha
      simp [this]; exact hl a o ha
    · obtain ⟨o, vs, h1, h2, h3⟩ := ht
      exact ⟨o, vs, by simp [Ne.symm hne]; exact h1, h2, h3⟩
theorem HS.up {x : Addr} (h : HS X Γ ψ ω cls ctx x s) (d : zFk X) : FlT X Γ ψ ω cls ctx x .none s := by
  obtain ⟨ω', t, y, hl, hn, hny, hne, hq, he, ht, b⟩ := h
  exact ⟨ω', t, y, hl, hn, hny, hne, by unfold zAa; rw [hq]; simpa using he, ht, b.unmark d⟩
noncomputable def forH (prog : Program) (w : World) (X : Fix) (x : Addr) (E : Value → Shared → Prop) : Value → Shared → Prop := notedBy (model prog w) (X.mk' x).A X.env (cameBackBy (model prog w) X.A X.env E)
theorem Fl.forH {x e : Addr} (f : Fl (X.mk' x) Γ ψ ω cls ctx e s) (d : zFk X) (c : CX ⟨k, n⟩ X) (q : ∀ s', FlT X Γ ψ ω cls ctx e (here X) s' → E (.ref e) s') : Mine.forH prog w X x E (.ref e) s := by
  have T := Top.of c d
  unfold Mine.forH
  refine Fl.noted (X := X.mk' x) f c.mk2 T.mk' fun s' f' => ?_
  have f2 : FlT X Γ ψ ω cls ctx e (here X) s' := FlT.unmark f' d
  exact f2.back T q
theorem zEk {T : String} {body hb : List Stmt} {b₀ : Stmt} {tx : Str} {tp hpos pos : Pos} {Eb : Value → Shared → Prop} (d : zFk X) (c : CX ⟨k, n⟩ X) (hsc : X.env.scope = sc) (hT : BN φ tx (.type T)) (hkd : sc.names.lookup tx = some .globalImplicit) (hdb : (tx == ("__debug__" : Str)) = false) (hexc : isSubtype (.type T) (.type "BaseException") = pure true) (hnt : isSubtype (.type ((Manifest.find? T).elim "type" fun x => x.metatype)) (.type "tuple") = pure false) (hbody : Ex prog w X body (seqX prog w X rest Q E) Eb s) (hx : ∀ e s1, Eb e s1 → ∃ x Γ' ψ' ω' cls ctx, e = .ref x ∧ Le φ ψ' ∧ isSubtype (.type cls) (.type T) = pure true ∧ zEt ψ' ctx ∧ Fl X Γ' ψ' ω' cls ctx x s1 ∧
      ∀ s2 ψ2, Le ψ' ψ2 → HS X Γ' ψ2 ω' cls ctx x s2 → Ex prog w (X.mk' x) (b₀ :: hb) (seqX prog w X rest Q E) (forH prog w X x E) s2) :
    Ex prog w X (.Try body [.ExceptHandler (some (.Name tx tp)) none (b₀ :: hb) hpos] [] [] pos :: rest) Q E s := by
  have T0 := Top.of c d
  refine ⟨z9 (wpAny_Try_except (zIv hbody.go (fun f s1 hf => ?_) fun e s1 he => ?_))⟩
  · cases f with
    | next => exact wpAny_execs_nil hf.go
    | brk => exact hf
    | cont => exact hf
    | ret v => exact hf
  · obtain ⟨x, Γ', ψ', ω', cls, ctx, rfl, hφ, hsub, hctx, hfl, hh⟩ := hx e s1 he
    refine hfl.note c T0 fun s2 f2 => f2.flight (g := none) fun s3 f3 => ?_
    obtain ⟨ψ2, l2, hs2⟩ := f3.hold d hctx
    obtain ⟨ω2, t, y, hl, hn, hny, hne, hq, hex, ht, m, Y, ty⟩ := id hs2
    refine wpAny_handleBy_builtin (X := cls) (T := T) (b := true) hexc hnt hsub ?_
    obtain ⟨mg, n1, hm⟩ := (zD.le hT.1 (hφ.trans l2)).ns Y.sub
    obtain ⟨mb, n2, hm2⟩ := (zD.le hT.2 (hφ.trans l2)).ns Y.sub
    have Yf := Y.fram
    refine Name_function_global Yf.fn (by show X.env.scope.names.lookup tx = _; rw [hsc]; exact hkd) (loadGlobal_builtin (Yf.gl ▸ n1) hm (Yf.bi ▸ n2) hm2 ⟨rfl, ⟨_, Y.sub _ _ hex, rfl⟩, ?_⟩) hdb
    simp only [if_true]
    refine FlT.flight (g := none) (hs2.up d) fun s4 f4 => ?_
    obtain ⟨ψ3, l3, hs3⟩ := f4.hold d (hctx.le l2)
    refine zIv (hh s4 ψ3 (l2.trans l3) hs3).go (fun f s5 hf => ?_) fun _ _ e => e
    cases f with
    | next => exact hf.go
    | brk => exact hf
    | cont => exact hf
    | ret v => exact hf
end
section
variable {rest : List Stmt} {Q : Flow → Shared → Prop} {E : Value → Shared → Prop} {cls : String} {ctx : Value}
theorem Fl.pass {x : Addr} {fl : Value} (f : FlT X Γ ψ ω cls ctx x fl s) {Q : Flow → Shared → Prop} {what : String} (T : Top X) (q : ∀ s', FlT X Γ ψ ω cls ctx x (here X) s' → E (.ref x) s') : wpAny (model prog w) A (PySem.passOn what (.ref x) X.env : Sem Flow) Q E s := by
  unfold PySem.passOn
  have f0 := f
  obtain ⟨ω', t, y, hl, hn, hny, hne, he, _, m, Y, ty⟩ := f0
  refine zIt (wpAny_field (Y.all.sub _ _ he) rfl (x := .ref y) (by rfl) ?_)
  have h1 : (Value.ref y == Value.none) = false := by simp
  simp only [h1, Bool.false_eq_true, if_false]
  rw [T.fr]
  exact zIt (f.flight fun s' f' => wpAny_throw (q s' f'))
theorem y_final {body fs : List Stmt} {f₀ : Stmt} {pos : Pos} {Eb : Value → Shared → Prop} (d : zFk X) (c : CX ⟨k, n⟩ X) (hbody : Ex prog w X body (fun f s1 => f = .next ∧ Ex prog w X (f₀ :: fs) (seqX prog w X rest Q E) (forE prog w X E) s1) Eb s) (hx : ∀ e s1, Eb e s1 → ∃ x Γ' ψ' ω' cls ctx, e = .ref x ∧ zEt ψ' ctx ∧ Fl X Γ' ψ' ω' cls ctx x s1 ∧
      ∀ s2 ψ2, Le ψ' ψ2 → HS X Γ' ψ2 ω' cls ctx x s2 → Ex prog w (X.mk' x) (f₀ :: fs) (fun g s3 => g = .next ∧ ∃ Γ3 ψ3 ω3, HS X Γ3 ψ3 ω3 cls ctx x s3 ∧ ∀ s4, FlT X Γ3 ψ3 ω3 cls ctx x (here X) s4 → E (.ref x) s4) (forH prog w X x E) s2) :
    Ex prog w X (.Try body [] [] (f₀ :: fs) pos :: rest) Q E s := by
  have T0 := Top.of c d
  refine ⟨z9 (wpAny_Try_finally (zIv hbody.go (fun f s1 hf => ?_) fun e s1 he => ?_))⟩
  · obtain ⟨rfl, hf⟩ := hf
    refine wpAny_execs_nil ?_
    refine zIv hf.go (fun g s2 hg => ?_) fun _ _ e => e
    cases g with
    | next => exact hg.go
    | brk => exact hg
    | cont => exact hg
    | ret v => exact hg
  · obtain ⟨x, Γ', ψ', ω', cls, ctx, rfl, hctx, hfl, hh⟩ := hx e s1 he
    refine hfl.note c T0 fun s2 f2 => ⟨ref_ne_byPass x, f2.again T0 (f2.flight (g := none) fun s3 f3 => ?_)⟩
    obtain ⟨ψ2, l2, hs2⟩ := f3.hold d hctx
    refine zIv (hh s3 ψ2 l2 hs2).go (fun g s4 hg => ?_) fun _ _ e => e
    obtain ⟨rfl, Γ3, ψ3, ω3, hs3, hE⟩ := hg
    exact Fl.pass (hs3.up d) T0 hE
theorem B.extend {A : Around} {a : Addr} {vs : List Value} {j : Nat} {ps : List VP} {v : Value} {Q : Value → Shared → Prop} {E : Value → Shared → Prop} (b : B X Γ ψ ω s) (ha : ω a = some (lst vs j)) (hv : (zB ps).p ψ v) (hsz : vs.length + ps.length ≤ 1000000) (h : ∀ s' us j', zO (fun (P : VP) v => P.p ψ v) ps us → B X Γ ψ (put ω a (lst (vs ++ us) j')) s' → Q .none s') : wpAny (model prog w) A (call (.builtin "list.extend") [.ref a, v]) Q E s := by
  obtain ⟨m, x, t⟩ := b
  obtain ⟨c, us, i, rfl, hc, hall⟩ := hv
  have hl := (x.own _ _ ha).1
  have hlen := hall.length
  have hline : sizeLine = 16777216 := rfl
  refine call_meets F.slot_list_extend ⟨_, hl, rfl⟩ F.entry_list_extend (F.args_list_extend_2 _ _) (AutoSeq1.list_extend_list_list_0 a vs.toArray j c us.toArray i ?_ ?_ ?_) ⟨hl, x.sub _ _ hc, ?_⟩
  · simp only [List.size_toArray]
    have : Builtin.List.listTooLong (vs.length + us.length) = false := by
      unfold Builtin.List.listTooLong
      simp
      omega
    rw [this]; simp
  · simp only [List.size_toArray]; omega
  · simp only [List.size_toArray]; omega
  · have hup := Heap.get?_update_self (Obj.mapSeq fun y => y ++ us.toArray) hl (by rfl)
    obtain ⟨j', hj⟩ : ∃ j', (Obj.mapSeq (fun y => y ++ us.toArray) (lst vs j)) = lst (vs ++ us) j' := by
      unfold lst Obj.mapSeq
      simp
    rw [hj] at hup
    exact h _ us j' hall ⟨m, x.sameBut ha ⟨_, s.toks, rfl⟩ (fun b ob hb e => by rw [Heap.get?_update_other _ _ (Ne.symm hb)]; exact e) hup, t⟩
end
section
variable {rest : List Stmt} {Q : Flow → Shared → Prop} {E : Value → Shared → Prop} {cls : String} {ctx : Value}
theorem FlF.retype {Γ' : List (Str × VP)} {x : Addr} (f : FlF X Γ ψ ω cls ctx x s) (h : ∀ m, Typ Γ ψ m → Typ Γ' ψ m) : FlF X Γ' ψ ω cls ctx x s := let ⟨t, a, b⟩ := f; ⟨t, a, b.retype h⟩
theorem FlT.retype {Γ' : List (Str × VP)} {x : Addr} {fl : Value} (f : FlT X Γ ψ ω cls ctx x fl s) (h : ∀ m, Typ Γ ψ m → Typ Γ' ψ m) : FlT X Γ' ψ ω cls ctx x fl s :=
  let ⟨ω', t, y, a1, a2, a3, a4, a5, a6, b⟩ := f; ⟨ω', t, y, a1, a2, a3, a4, a5, a6, b.retype h⟩
theorem typ_over {x : Str} {P P' : VP} {ψ : PM} {m : Str → Option Value} (t : Typ ((x, P) :: (x, P') :: Γ) ψ m) : Typ ((x, P) :: Γ) ψ m := by
  intro y R hy
  apply t y R
  rw [List.lookup_cons] at hy ⊢
  cases q : y == x with
  | true => rw [q] at hy; exact hy
  | false => rw [q] at hy; simp only [List.lookup_cons, q]; exact hy
theorem Cx.any {A : Around} (c : Cx ⟨k, n⟩ A ψ s) : Cx ⟨k, false⟩ A ψ s := ⟨c.depth, c.units, fun e => (by cases e), c.hand, c.stk, c.off, c.sub⟩
theorem Op2.any {t : Value → Value → Sem Value} {P Q R : VP} (h : Op2 prog w ⟨k, false⟩ φ t P Q R) : Op2 prog w ⟨k, n⟩ φ t P Q R := fun A ψ s a b c => h A ψ s a b c.any
theorem Op2.le {μ : Md} {t : Value → Value → Sem Value} {P Q R : VP} {φ' : PM} (h : Op2 prog w μ φ t P Q R) (l : Le φ φ') : Op2 prog w μ φ' t P Q R := fun A ψ s a b c l' => h A ψ s a b c (l.trans l')
theorem y_ext {x : Str} {px ap cpos pos : Pos} {e : Expr} {ps : List VP} {a : Addr} {vs : List Value} {j : Nat} (hsc : X.env.scope = sc) (b : B X Γ ψ ω s) (ha : ω a = some (lst vs j)) (h : EI prog w X Γ ψ ω e (zB ps)) (hsz : vs.length + ps.length ≤ 1000000) (q : ∀ us ψ' s' j', Le ψ ψ' → zO (fun (P : VP) v => P.p ψ' v) ps us → B X Γ ψ' (put ω a (lst (vs ++ us) j')) s' → Ex prog w X rest Q E s') (hx : autoParam (Γ.lookup x = some (zT (.ref a))) au0) (hv : autoParam (zu (sc.names.lookup x) = true) au0) (hd : autoParam ((x == ("__debug__" : Str) || x == ("__classdict__" : Str)) = false) au0) (hn : autoParam (zM e = true) au0) (hl : autoParam ((ap.endLine == cpos.line) = true) au0) : Ex prog w X (.Expr (.Call (.Attribute (.Name x px) "extend" ap) [e] [] cpos) pos :: rest) Q E s := by
  refine ⟨z9 (wpAny_Expr_any (zC0 b hx (hsc ▸ hv) hd F.slot_list_extend (by rfl) ha h.go hn hl fun v ψ' s' l p b' => b'.extend ha p hsz fun s'' us j' p' b'' => (q us ψ' s'' j' l p' b'').go) ?_ (by rfl))⟩
  obtain ⟨m, Y, _⟩ := b
  have := Y.fram.fn
  unfold interactive
  rw [this]; rfl
end
section
variable {prog : Program} {w : World} {X : Fix} {Γ : List (Str × VP)} {ψ ω φ : PM} {s s' : Shared} {k : Nat} {n b : Bool} {sc : Scope}
variable {rest : List Stmt} {Q : Flow → Shared → Prop} {E : Value → Shared → Prop}
theorem zA9 {α : Type} {P : α → VP} {eq : α → α → Bool} {nm iv ev : Str} {p1 p2 p3 p4 p5 p6 p7 p8 pos : Pos} {kk : Nat} {xs : List α} {x : α} {i0 : Nat} (hsc : X.env.scope = sc) (c : CX ⟨k, n⟩ X) (T : Top X) (heq : ∀ x y, Op2 prog w ⟨k, false⟩ φ (compareOp .Eq) (P x) (P y) (zN (eq x y))) (hφ : Le φ ψ) (hnm : Γ.lookup nm = some (zB (xs.map P))) (hev : Γ.lookup ev = some (P x)) (hne1 : (nm == iv) = false) (hne2 : (ev == iv) = false) (hk1 : zu (sc.names.lookup nm) = true) (hk2 : zu (sc.names.lookup iv) = true) (hk3 : zu (sc.names.lookup ev) = true) (hst : zK X iv) (hd1 : (nm == ("__debug__" : Str) || nm == ("__classdict__" : Str)) = false) (hd2 : (iv == ("__debug__" : Str) || iv == ("__classdict__" : Str)) = false) (hd3 : (ev == ("__debug__" : Str) || ev == ("__classdict__" : Str)) = false) (hlen : xs.length ≤ 1000000) (hi : i0 ≤ xs.length) (b : B X ((iv, vInt i0) :: Γ) ψ ω s) (hq : ∀ i1 ψ' s', i1 < xs.length → i0 ≤ i1 → (xs.drop i0).dropWhile (fun z => eq z x) = xs.drop i1 → Le ψ ψ' → B X ((iv, vInt (i1 : Nat)) :: Γ) ψ' ω s' → Ex prog w X rest Q E s') (hE : ∀ z ψ' s', (xs.drop i0).dropWhile (fun z => eq z x) = [] → Le ψ ψ' → FlT X ((iv, vInt (xs.length : Nat)) :: Γ) ψ' ω "IndexError" (z7 X.A) z (here X) s' → E (.ref z) s') : Ex prog w X (.While (.Compare (.Subscript (.Name nm p1) (.Name iv p2) p3) [.Eq] [.Name ev p4] p5) [.AugAssign (.Name iv p6) .Add (.Constant (.int 1) kk p7) p8] [] pos :: rest) Q E s := by
  refine zIK (fun nn s => ∃ (i : Nat) (ψ' : PM), nn = xs.length - i ∧ i0 ≤ i ∧ i ≤ xs.length ∧ (xs.drop i0).dropWhile (fun z => eq z x) = (xs.drop i).dropWhile (fun z => eq z x) ∧ Le ψ ψ' ∧ B X ((iv, vInt i) :: Γ) ψ' ω s) ?_ (xs.length - i0) ⟨i0, ψ, rfl, Nat.le_refl _, hi, rfl, Le.refl _, b⟩
  rintro nn s1 ⟨i, ψ1, rfl, hi0, hile, hdw, l1, b1⟩
  have gnm : ((iv, vInt (i : Nat)) :: Γ).lookup nm = some (zB (xs.map P)) := by rw [List.lookup_cons, hne1]; exact hnm
  have gev : ((iv, vInt (i : Nat)) :: Γ).lookup ev = some (P x) := by rw [List.lookup_cons, hne2]; exact hev
  have giv : ((iv, vInt (i : Nat)) :: Γ).lookup iv = some (vInt (i : Nat)) := by rw [List.lookup_cons]; simp
  by_cases hlt : i < xs.length
  · have hdrop : xs.drop i = xs[i] :: xs.drop (i + 1) := List.drop_eq_getElem_cons hlt
    refine test_I b1 (r := eq xs[i] x) (TI.of c hsc (z0 (zG (v_v gnm hk1 hd1) (v_v giv hk2 hd2) (zY (P := P xs[i]) (by omega) (by omega) (by simp [hlt]))) (v_v gev hk3 hd3) ((heq _ _).any.le (hφ.trans l1)))) fun ψ2 s2 l2 b2 => ?_
    cases hb : eq xs[i] x with
    | true =>
      simp only [if_true]
      refine zFg (P₁ := vInt (i : Nat)) (R := vInt ((i + 1 : Nat) : Int)) hsc b2 c (EI.of c hsc zH) zp hst (fun v ψ3 s3 l3 p3 b3 => ?_) giv hk2 (by simp only [Bool.or_eq_false_iff] at hd2; exact hd2.2)
      refine zR ⟨xs.length - (i + 1), by omega, i + 1, ψ3, rfl, by omega, hlt, ?_, l1.trans (l2.trans l3), b3.retype fun m t => typ_over t⟩
      rw [hdw, hdrop, List.dropWhile_cons, hb]; simp
    | false =>
      simp only [Bool.false_eq_true, if_false]
      refine hq i ψ2 s2 hlt hi0 ?_ (l1.trans l2) b2
      rw [hdw, hdrop, List.dropWhile_cons, hb]; simp
  · have hie : i = xs.length := by omega
    subst hie
    refine test_R (cls := "IndexError") hsc b1 c (rb_cmpL (zH8 (v_v gnm hk1 hd1) (v_v giv hk2 hd2) (by simp) (by omega))) fun z ψ2 s2 l2 f2 => ?_
    refine Fl.forE (.inl f2) c T fun s3 f3 => hE z ψ2 s3 ?_ (l1.trans l2) f3
    rw [hdw]; simp
end
noncomputable def zEY {α : Type} (lt gt eq : α → α → Bool) : Nat → List α → List α → List α × List α
  | 0, xs, ys => (xs, ys)
  | f + 1, x :: xs, y :: ys =>
    if lt x y then let r := zEY lt gt eq f (xs.dropWhile fun z => eq z x) (y :: ys); (x :: r.1, r.2)
    else if gt x y then let r := zEY lt gt eq f (x :: xs) (ys.dropWhile fun z => eq z y); (r.1, y :: r.2)
    else zEY lt gt eq f (xs.dropWhile fun z => eq z x) (ys.dropWhile fun z => eq z y)
  | _ + 1, xs, ys => (xs, ys)
section
variable {α : Type} {lt gt eq : α → α → Bool}
theorem zV {p : α → Bool} : ∀ (l : List α), (l.dropWhile p).length ≤ l.length
  | [] => Nat.le_refl _
  | a :: l => by
    rw [List.dropWhile_cons]
    split
    · exact Nat.le_succ_of_le (zV l)
    · exact Nat.le_refl _
theorem zEG {f : Nat} {ys : List α} : zEY lt gt eq f [] ys = ([], ys) := by cases f <;> rfl
theorem zCk {f : Nat} {xs : List α} : zEY lt gt eq f xs [] = (xs, []) := by cases f <;> cases xs <;> rfl
theorem zBs : ∀ (f : Nat) (xs ys : List α), xs.length + ys.length ≤ f → zEY lt gt eq (f + 1) xs ys = zEY lt gt eq f xs ys
  | 0, xs, ys, h => by
    have h1 : xs = [] := List.length_eq_zero_iff.mp (by omega)
    have h2 : ys = [] := List.length_eq_zero_iff.mp (by omega)
    subst h1; subst h2; rfl
  | f + 1, [], ys, h => by rw [zEG, zEG]
  | f + 1, x :: xs, [], h => by rw [zCk, zCk]
  | f + 1, x :: xs, y :: ys, h => by
    have hx := zV (p := fun z => eq z x) xs
    have hy := zV (p := fun z => eq z y) ys
    simp only [List.length_cons] at h
    have e1 := zBs f (xs.dropWhile fun z => eq z x) (y :: ys) (by simp only [List.length_cons]; omega)
    have e2 := zBs f (x :: xs) (ys.dropWhile fun z => eq z y) (by simp only [List.length_cons]; omega)
    have e3 := zBs f (xs.dropWhile fun z => eq z x) (ys.dropWhile fun z => eq z y) (by omega)
    rw [show zEY lt gt eq (f + 1 + 1) (x :: xs) (y :: ys) = (if lt x y then let r := zEY lt gt eq (f + 1) (xs.dropWhile fun z => eq z x) (y :: ys); (x :: r.1, r.2)
      else if gt x y then let r := zEY lt gt eq (f + 1) (x :: xs) (ys.dropWhile fun z => eq z y); (r.1, y :: r.2)
      else zEY lt gt eq (f + 1) (xs.dropWhile fun z => eq z x) (ys.dropWhile fun z => eq z y)) from rfl, e1, e2, e3]
    rfl
theorem zEE {f g : Nat} {xs ys : List α} (h : xs.length + ys.length ≤ f) (hg : f ≤ g) : zEY lt gt eq g xs ys = zEY lt gt eq f xs ys := by
  induction hg with
  | refl => rfl
  | @step g hg ih => exact (zBs g xs ys (Nat.le_trans h hg)).trans ih
noncomputable def sld (lt gt eq : α → α → Bool) (xs ys : List α) : List α × List α := zEY lt gt eq (xs.length + ys.length) xs ys
theorem zCH {ys : List α} : sld lt gt eq [] ys = ([], ys) := zEG
theorem zCZ {xs : List α} : sld lt gt eq xs [] = (xs, []) := zCk
theorem zCX {x y : α} {xs ys : List α} : sld lt gt eq (x :: xs) (y :: ys) = if lt x y then (x :: (sld lt gt eq (xs.dropWhile fun z => eq z x) (y :: ys)).1, (sld lt gt eq (xs.dropWhile fun z => eq z x) (y :: ys)).2) else if gt x y then ((sld lt gt eq (x :: xs) (ys.dropWhile fun z => eq z y)).1, y :: (sld lt gt eq (x :: xs) (ys.dropWhile fun z => eq z y)).2) else sld lt gt eq (xs.dropWhile fun z => eq z x) (ys.dropWhile fun z => eq z y) := by
  have hx := zV (p := fun z => eq z x) xs
  have hy := zV (p := fun z => eq z y) ys
  have e : (x :: xs).length + (y :: ys).length = (xs.length + ys.length + 1) + 1 := by simp only [List.length_cons]; omega
  unfold sld
  rw [e]
  rw [show zEY lt gt eq (xs.length + ys.length + 1 + 1) (x :: xs) (y :: ys) = (if lt x y then let r := zEY lt gt eq (xs.length + ys.length + 1) (xs.dropWhile fun z => eq z x) (y :: ys); (x :: r.1, r.2)
      else if gt x y then let r := zEY lt gt eq (xs.length + ys.length + 1) (x :: xs) (ys.dropWhile fun z => eq z y); (r.1, y :: r.2)
      else zEY lt gt eq (xs.length + ys.length + 1) (xs.dropWhile fun z => eq z x) (ys.dropWhile fun z => eq z y)) from rfl]
  rw [zEE (f := (xs.dropWhile fun z => eq z x).length + (y :: ys).length) (Nat.le_refl _) (by simp only [List.length_cons]; omega),
    zEE (f := (x :: xs).length + (ys.dropWhile fun z => eq z y).length) (Nat.le_refl _) (by simp only [List.length_cons]; omega),
    zEE (f := (xs.dropWhile fun z => eq z x).length + (ys.dropWhile fun z => eq z y).length) (Nat.le_refl _) (by omega)]
end
theorem zm {α : Type} : ∀ (xs : List α), (List.range xs.length).filterMap (xs[·]?) = xs
  | [] => rfl
  | x :: xs => by
    rw [List.length_cons, List.range_succ_eq_map, List.filterMap_cons, List.filterMap_map]
    simp only [List.getElem?_cons_zero]
    congr 1
    have := zm xs
    simpa [Function.comp_def] using this
theorem zHU {α : Type} {xs : List α} {i : Nat} : zBt xs (some (i : Int)) none none = xs.drop i := by
  unfold zBt
  have h : sliceBounds (some (i : Int)) none none xs.length = (((min i xs.length : Nat) : Int), ((xs.length : Nat) : Int), 1) := by
    unfold sliceBounds
    have h1 : ¬ ((i : Int) < 0) := by omega
    simp [h1]
    omega
  rw [h]
  simp only
  rw [sliceRange_one, List.filterMap_map]
  have e1 : xs.length - min i xs.length = (xs.drop i).length := by
    rw [List.length_drop]
    rcases Nat.le_total i xs.length with h | h
    · rw [Nat.min_eq_left h]
    · rw [Nat.min_eq_right h, Nat.sub_self, Nat.sub_eq_zero_of_le h]
  rw [e1]
  have := zm (xs.drop i)
  refine Eq.trans ?_ this
  by_cases hi : i ≤ xs.length
  · congr 1
    funext k
    simp [Function.comp_def, Nat.min_eq_left hi]
  · have : xs.drop i = [] := List.drop_eq_nil_of_le (by omega)
    simp [this]
section
variable {prog : Program} {w : World} {X : Fix} {Γ : List (Str × VP)} {ψ ω φ : PM} {s s' : Shared} {k : Nat} {n b : Bool} {sc : Scope}
variable {rest : List Stmt} {Q : Flow → Shared → Prop} {E : Value → Shared → Prop}
theorem x_break {pos : Pos} (h : Q .brk s) : Ex prog w X (.Break pos :: rest) Q E s := ⟨z9 (wpAny_Break h)⟩
inductive Own2 (ψ ω : PM) (a1 a2 : Addr) (ps qs : List VP) : Prop
  | mk (v1 : _) (j1 : _) (v2 : _) (j2 : _) (h1 : ω a1 = some (lst v1 j1)) (h2 : zO (fun (P : VP) v => P.p ψ v) ps v1) (h3 : ω a2 = some (lst v2 j2)) (h4 : zO (fun (P : VP) v => P.p ψ v) qs v2) : Own2 ψ ω a1 a2 ps qs
theorem Own2.le {ψ' ω' : PM} {a1 a2 : Addr} {ps qs : List VP} (h : Own2 ψ ω a1 a2 ps qs) (l : Le ψ ψ') (l' : Le ω ω') : Own2 ψ' ω' a1 a2 ps qs := by
  obtain ⟨v1, j1, v2, j2, h1, h2, h3, h4⟩ := h
  exact ⟨v1, j1, v2, j2, l' _ _ h1, h2.imp fun P v x => P.mono l x, l' _ _ h3, h4.imp fun P v x => P.mono l x⟩
end
section
variable {α : Type} {lt gt eq : α → α → Bool} {xs ys xs' ys' : List α} {x y : α} {i j : Nat}
theorem sld_lt (h : xs.drop i = x :: xs.drop (i + 1)) (h2 : ys.drop j = y :: ys.drop (j + 1)) (hl : lt x y = true) (hd : ((xs.drop (i + 1)).dropWhile fun z => eq z x) = xs') : sld lt gt eq (xs.drop i) (ys.drop j) = (x :: (sld lt gt eq xs' (ys.drop j)).1, (sld lt gt eq xs' (ys.drop j)).2) := by
  rw [h, h2, zCX, if_pos hl, hd]
theorem sld_gt (h : xs.drop i = x :: xs.drop (i + 1)) (h2 : ys.drop j = y :: ys.drop (j + 1)) (hl : lt x y = false) (hg : gt x y = true) (hd : ((ys.drop (j + 1)).dropWhile fun z => eq z y) = ys') : sld lt gt eq (xs.drop i) (ys.drop j) = ((sld lt gt eq (xs.drop i) ys').1, y :: (sld lt gt eq (xs.drop i) ys').2) := by
  rw [h, h2, zCX, if_neg (by rw [hl]; decide), if_pos hg, hd]
theorem zGL (h : xs.drop i = x :: xs.drop (i + 1)) (h2 : ys.drop j = y :: ys.drop (j + 1)) (hl : lt x y = false) (hg : gt x y = false) (hd : ((xs.drop (i + 1)).dropWhile fun z => eq z x) = xs') (hd2 : ((ys.drop (j + 1)).dropWhile fun z => eq z y) = ys') : sld lt gt eq (xs.drop i) (ys.drop j) = sld lt gt eq xs' ys' := by
  rw [h, h2, zCX, if_neg (by rw [hl]; decide), if_neg (by rw [hg]; decide), hd, hd2]
noncomputable abbrev G0 (P : α → VP) (xs ys : List α) (a1 a2 : Addr) (i j : Nat) : List (Str × VP) := [("j", vInt j), ("i", vInt i), ("unexpected", zT (.ref a2)), ("missing", zT (.ref a1)), ("expected", zB (xs.map P)), ("actual", zB (ys.map P))]
inductive sldI (X : Fix) (φ : PM) (P : α → VP) (lt gt eq : α → α → Bool) (xs ys : List α) (a1 a2 : Addr) (nn : Nat) (s : Shared) : Prop
  | mk (i j : Nat) (ms us : List α) (ψ' ω' : PM) (h1 : nn = (xs.length - i) + (ys.length - j)) (h2 : i ≤ xs.length) (h3 : j ≤ ys.length) (h4 : ms.length ≤ i) (h5 : us.length ≤ j) (h6 : sld lt gt eq xs ys = (ms ++ (sld lt gt eq (xs.drop i) (ys.drop j)).1, us ++ (sld lt gt eq (xs.drop i) (ys.drop j)).2)) (h7 : Le φ ψ') (h8 : Own2 ψ' ω' a1 a2 (ms.map P) (us.map P)) (h9 : B X (G0 P xs ys a1 a2 i j) ψ' ω' s) : sldI X φ P lt gt eq xs ys a1 a2 nn s
inductive sldE (X : Fix) (φ : PM) (P : α → VP) (lt gt eq : α → α → Bool) (xs ys : List α) (a1 a2 : Addr) (e : Value) (s : Shared) : Prop
  | mk (x : Addr) (i j : Nat) (ms us : List α) (ψ' ω' : PM) (ctx : Value) (h1 : e = .ref x) (h2 : i ≤ xs.length) (h3 : j ≤ ys.length) (h4 : ms.length ≤ i) (h5 : us.length ≤ j) (h6 : sld lt gt eq xs ys = (ms ++ xs.drop i, us ++ ys.drop j)) (h7 : Le φ ψ') (h8 : zEt ψ' ctx) (h9 : Own2 ψ' ω' a1 a2 (ms.map P) (us.map P)) (h10 : Fl X (G0 P xs ys a1 a2 i j) ψ' ω' "IndexError" ctx x s) : sldE X φ P lt gt eq xs ys a1 a2 e s
end
theorem zGT {prog : Program} {w : World} {μ : Md} {φ : PM} {α : Type} {f : α → VP} {l : List α} {i : Nat} (hsz : l.length ≤ 1000000) : Op2 prog w μ φ getItem (zB (l.map f)) (zCs (some (i : Int)) none none) (zB ((l.drop i).map f)) := by
  have h := zHM (prog := prog) (w := w) (μ := μ) (φ := φ) (f := f) (l := l) (lo := some (i : Int)) (hi := none) (st := none) (by decide) (by have : sizeLine = 16777216 := rfl; omega)
  rw [zHU] at h
  exact h
noncomputable def zIB (id T : String) : Obj := { cls := .type "builtin_function_or_method", data := .fields #[.builtin id, .type T] }
theorem zAL {α : Type} {M : Model} {A : Around} {E : Value → Shared → Prop} {s : Shared} {c : Bool} {a b : Sem α} {Q : α → Shared → Prop} (hc : c = false) (h : wpAny M A b Q E s) : wpAny M A (if c = true then a else b) Q E s := by
  subst hc
  exact h
theorem zHj {α : Type} {M : Model} {A : Around} {E : Value → Shared → Prop} {s : Shared} {c : Bool} {a b : Sem α} {Q : α → Shared → Prop} (hc : c = true) (h : wpAny M A a Q E s) : wpAny M A (if c = true then a else b) Q E s := by
  subst hc
  exact h
theorem zBO : Slot "classmethod_descriptor" "__get__" "classmethod_descriptor.__get__" :=
  .of (owner := "classmethod_descriptor") (n := "__get__") (by rw [typeLookup_type, builtinLookup_eq_fast]; kernel_rfl) (by decide +kernel) (by decide +kernel) (by decide +kernel)
    (by first | exact .inl (by decide +kernel) | exact .inr (by decide +kernel)) (by rw [isSubtype_type]; kernel_rfl)
theorem zBZ : entryFor table "classmethod_descriptor.__get__" = some Builtin.«classmethod_descriptor.__get__» := entryFor_of_tree (by kernel_rfl)
theorem zCG (a b c : Value) : argsOk "classmethod_descriptor.__get__" ⟨[a, b, c], []⟩ := by unfold argsOk; kernel_rfl
theorem type_fk : typeOf (.builtin "dict.fromkeys") = pure (.type "classmethod_descriptor") := by show builtinType _ = _; rw [builtinType_eq_fast]; kernel_rfl
theorem zH7 : typeOf (.builtin "type.__prepare__") = pure (.type "classmethod_descriptor") := by show builtinType _ = _; rw [builtinType_eq_fast]; kernel_rfl
theorem zBh (T : String) : isType (.type T) = pure true := rfl
section
variable {prog : Program} {w : World} {M : Model} {A : Around} {E : Value → Shared → Prop} {s : Shared}
theorem zE7 {P : Fin → Shared → Prop} (h : P (.done (.ret (.ref s.heap.objs.size))) { s with heap := s.heap.push (zIB "dict.fromkeys" "dict") }) :
    wpAny M A (Builtin.«classmethod_descriptor.__get__» ⟨[.builtin "dict.fromkeys", .none, .type "dict"], []⟩) P E s := by
  unfold Builtin.«classmethod_descriptor.__get__»
  refine zIt (wpAny_of_eq (a := (.builtin "dict.fromkeys", none, some (.type "dict"))) (by first | rfl | kernel_rfl) ?_)
  dsimp only
  refine zIt (wpAny_of_eq (a := .type "dict") rfl ?_)
  refine zIt (wpAny_of_eq (a := true) (zBh _) ?_)
  refine zAL rfl ?_
  refine zIt (wpAny_of_eq (a := true) (by rw [isSubtype_type]; kernel_rfl) ?_)
  refine zAL rfl ?_
  exact zIt (wpAny_newObj_type (zIu h))
theorem zDS {P : Fin → Shared → Prop} (h : P (.done (.ret (.ref s.heap.objs.size))) { s with heap := s.heap.push (zIB "type.__prepare__" "type") }) :
    wpAny M A (Builtin.«classmethod_descriptor.__get__» ⟨[.builtin "type.__prepare__", .none, .type "type"], []⟩) P E s := by
  unfold Builtin.«classmethod_descriptor.__get__»
  refine zIt (wpAny_of_eq (a := (.builtin "type.__prepare__", none, some (.type "type"))) (by first | rfl | kernel_rfl) ?_)
  dsimp only
  refine zIt (wpAny_of_eq (a := .type "type") rfl ?_)
  refine zIt (wpAny_of_eq (a := true) (zBh _) ?_)
  refine zAL rfl ?_
  refine zIt (wpAny_of_eq (a := true) (by rw [isSubtype_type]; kernel_rfl) ?_)
  refine zAL rfl ?_
  exact zIt (wpAny_newObj_type (zIu h))
theorem zE4 {K : Frag} {c mc : Value} {name : Str} {r : CFound} {Q : Option Value → Shared → Prop} {hook : Option Value} (X : K.In s.heap) (ho : Looks (model prog w) s.heap (opaqueClassAbove c) none) (ht : Looks (model prog w) s.heap (typeOf c) mc) (hga : findIn K mc "__getattribute__" = some (some (.builtin "type.__getattribute__"))) (hb : Looks (model prog w) s.heap (hookBefore mc) hook) (hi : subIn K mc (.type "type") = some true) (e : findCls K c mc name = some r) (h : wpAny (model prog w) A.in1 r.run (fun fin s' => match fin with | .done (.ret v) => handedIn v = true ∧ Q (some v) s' | _ => False) (fun _ _ => False) { s with toks := s.toks + 1 }) :
    wpAny (model prog w) A (getAttr? c name) Q E s := by
  unfold getAttr? getAttrBy?
  refine zIt (wpAny_mkText (zIt (wpAny_attempt ?_)))
  unfold getAttrBy
  refine zIw (zIt (ht _ _ _ _ (fun _ _ e => e) (zIt (looks_findIn X hga _ _ _ _ (fun _ _ e => e) ?_))))
  dsimp only
  rw [show (onTheHeap mc && Value.builtin "type.__getattribute__" == Value.builtin "object.__getattribute__") = false from by rw [show (Value.builtin "type.__getattribute__" == Value.builtin "object.__getattribute__") = false from by decide +kernel, Bool.and_false], if_neg (by decide)]
  unfold getAttrByItsOwn
  refine zIt (hb _ _ _ _ (fun _ _ e => e) (zIt (wpAny_attempt (zIw ?_))))
  unfold callGetattribute
  rw [show (false && onTheHeap (Value.builtin "type.__getattribute__")) = false from rfl, if_neg (by decide)]
  unfold boundAndCalled
  rw [KF.slot_tga.bind]
  refine zIt (zIu ?_)
  show wpAny _ _ (call (.builtin "type.__getattribute__") [c, .str name s.toks]) _ _ _
  refine wpAny_call ?_
  refine codeAny_call_builtin KF.slot_tga.plain KF.entry_tga ?_
  refine @check_slot (model prog w) _ _ { s with toks := s.toks + 1 } "type.__getattribute__" "type" "__getattribute__" c [.str name s.toks] [] _ (by decide +kernel) (by decide +kernel) (ht.andThen (looks_subIn X hi)) (KF.args_tga c (.str name s.toks)) ?_
  refine tga_run (s := { s with toks := s.toks + 1 }) X ho ht e (zIv h (fun fin s' z => ?_) fun _ _ z => z.elim)
  rcases fin with (_ | _ | _ | _) | _ <;> first | (show wpAny _ _ (handedOut _) _ _ _; rw [handedOut_of z.1]; exact zIu (zIu z.2)) | exact z.elim
theorem zFf : findIn [] (.type "type") "__getattribute__" = some (some (.builtin "type.__getattribute__")) := type_tga
theorem zFV (h : Heap) : Frag.In [] h := fun a o e => by cases e
theorem zEN {Q : Option Value → Shared → Prop} (h : ∀ a h' tk, h'.get? a = some (zIB "type.__prepare__" "type") → s.heap.get? a = none → (∀ b o, s.heap.get? b = some o → h'.get? b = some o) → Q (some (.ref a)) { s with heap := h', toks := tk }) :
    wpAny (model prog w) A (getAttr? (.type "type") "__prepare__") Q E s := by
  have hstub : opaqueClassAbove (.type "type") = pure none := by unfold opaqueClassAbove; dsimp only; rw [show Manifest.isStub "type" = false by decide +kernel]; rfl
  have ht : typeOf (.type "type") = pure (.type "type") := by first | rfl | kernel_rfl
  refine zE4 (K := []) (mc := .type "type") (r := .get (.builtin "classmethod_descriptor.__get__") (.builtin "type.__prepare__") .none (.type "type")) (zFV _) (Looks.of_pure hstub) (Looks.of_pure ht) zFf (looks_hook (zFV _) (r := none) (by rfl)) (by show subIn [] _ _ = _; rfl) (by kernel_rfl) ?_
  show wpAny _ _ (holding [.builtin "type.__prepare__"] (call (.builtin "classmethod_descriptor.__get__") [.builtin "type.__prepare__", .none, .type "type"]) >>= fun v => ret v) _ _ _
  refine zIt (zIw (wpAny_call_entry zBO zH7 zBZ (zDS ⟨_, rfl, zIu ⟨rfl, ?_⟩⟩) (zCG _ _ _)))
  exact h _ _ _ (Heap.get?_push_size _ rfl) (zF _) fun b o e => Heap.get?_push_of_some _ e
theorem zFJ {pl : Sem Bool} {Q : Value × List Value → Shared → Prop} (h : ∀ a h' tk, h'.get? a = some (zIB "dict.fromkeys" "dict") → s.heap.get? a = none → (∀ b o, s.heap.get? b = some o → h'.get? b = some o) → Q (.ref a, []) { s with heap := h', toks := tk }) :
    wpAny (model prog w) A (getMethod (.type "dict") "fromkeys" pl) Q E s := by
  have hstub : opaqueClassAbove (.type "dict") = pure none := by unfold opaqueClassAbove; dsimp only; rw [show Manifest.isStub "dict" = false by decide +kernel]; rfl
  have ht : typeOf (.type "dict") = pure (.type "type") := by first | rfl | kernel_rfl
  have L0 : Looks (model prog w) s.heap (typeOf (.type "dict")) (.type "type") := Looks.of_pure ht
  unfold getMethod specialOf
  refine zIt (zIt (L0.here ((looks_findIn (zFV _) zFf).here ?_)))
  dsimp only
  rw [if_pos canon_tga]
  refine zIt (zIv (Q := fun v => Q (v, [])) (E := E) ?_ (fun _ _ z => zIu z) fun _ _ z => z)
  refine cls_open (K := []) (mc := .type "type") (r := .get (.builtin "classmethod_descriptor.__get__") (.builtin "dict.fromkeys") .none (.type "dict")) (zFV _) (Looks.of_pure hstub) L0 zFf (looks_hook (zFV _) (r := none) (by rfl)) (by show subIn [] _ _ = _; rfl) (by kernel_rfl) ?_
  show wpAny _ _ (holding [.builtin "dict.fromkeys"] (call (.builtin "classmethod_descriptor.__get__") [.builtin "dict.fromkeys", .none, .type "dict"]) >>= fun v => ret v) _ _ _
  refine zIt (zIw (wpAny_call_entry zBO type_fk zBZ (zE7 ⟨_, rfl, zIu (zIu ?_)⟩) (zCG _ _ _)))
  exact h _ _ _ (Heap.get?_push_size _ rfl) (zF _) fun b o e => Heap.get?_push_of_some _ e
theorem zGN {id T : String} {x : Addr} {vs : List Value} {Q : Value → Shared → Prop} {b : Builtin} (ho : s.heap.get? x = some (zIB id T)) (hck : checkBoundCall id ⟨.type T :: vs, []⟩ = pure ()) (hent : entryFor table id = some b) (hq : id.startsWith "lifetime." = false) (hcan : (id == "lifetime.sure#open") = false := by decide)
    (h : wpAny (model prog w) (A.under (.builtin id ⟨.type T :: vs, []⟩)) (b ⟨.type T :: vs, []⟩)
      (fun fin s' => match fin with | .done f => (match f with | .ret v => Q v s' | _ => False) | .again c' => c'.quiet = true ∧ codeAny (model prog w) A c' (fun r s' => match r with | .ok (.ret v) => Q v s' | .ok _ => False | .error e => E e s') s') E s) : wpAny (model prog w) A (call (.ref x) vs) Q E s := by
  refine wpAny_call (codeAny_of_tree ?_)
  show wpAny _ A.in1 (callAny (.ref x) ⟨vs, []⟩) _ _ s
  simp only [callAny]
  refine zIt (wpAny_load ho ?_)
  simp only [zIB, show (Value.type "builtin_function_or_method" == Value.type "method" || Value.type "builtin_function_or_method" == Value.type "builtin_function_or_method" || Value.type "builtin_function_or_method" == Value.type "method-wrapper") = true by decide, if_true]
  refine zHj (by decide) ?_
  refine zIt (wpAny_of_eq (a := ()) hck ?_)
  refine zIt (zIu (zIu ?_))
  refine ⟨Code.quiet_builtin _ hq, codeAny_builtin hent (zIv h (fun fin s' z => ?_) fun _ _ z => z)⟩
  cases fin with
  | done f => cases f <;> first | exact z | exact z.elim
  | again c' => exact z
end
section
variable {E : Value → Shared → Prop} {M : Model}
theorem zBV {α β : Type} {x : α} {init : β} {f : α → β → Sem (ForInStep β)} {Q : β → Shared → Prop} (h : wpAny M A (f x init) (fun r s' => ∃ b', r = .yield b' ∧ Q b' s') E s) : wpAny M A (forIn [x] init f) Q E s := by
  rw [List.forIn_cons]
  refine zIt (zIv h (fun r s' z => ?_) fun _ _ e => e)
  obtain ⟨b', rfl, q⟩ := z
  dsimp only
  rw [List.forIn_nil]
  exact zIu q
structure zc (X : Fix) (ψ ω : PM) (s : Shared) (a : Addr) : Prop where
  o : ω a = none
  p : ψ a = none
  h : s.heap.get? a = none
  s0 : X.s₀.heap.get? a = none
  ft : a ∉ X.ft
  tb : ∀ p ∈ X.tb, p.1 ≠ a
theorem S.freshA {a : Addr} (Y : S X m ψ ω s) (h : s.heap.get? a = none) : zc X ψ ω s a := by
  refine ⟨?_, zE Y.sub h, h, Y.ext.none h, fun hf => ?_, fun p hp q => ?_⟩
  · cases q : ω a with
    | none => rfl
    | some o => rw [(Y.own a o q).1] at h; cases h
  · obtain ⟨o, ho⟩ := Y.there a hf; rw [ho] at h; cases h
  · have := (Y.tab p hp).1; rw [q, h] at this; cases this
theorem S.take {a : Addr} {o : Obj} (Y : S X m ψ ω s) (ho : s.heap.get? a = some o) (F : zc X ψ ω s' a) : S X m ψ (put ω a o) s := by
  refine ⟨Y.ext, Y.le, Y.new, Y.sub, Y.fram, Y.link, Y.hnd, Y.loc, Y.there, Y.off, Y.fre, fun b ob e => ?_, fun p hp => ?_⟩
  · by_cases q : b = a
    · subst q; rw [zA] at e; cases e; exact ⟨ho, F.p, F.s0, F.ft⟩
    · rw [zC q] at e; exact Y.own b ob e
  · obtain ⟨k1, k2, k3, k4, k5⟩ := Y.tab p hp
    exact ⟨k1, k2, k3, by rw [zC (F.tb p hp)]; exact k4, k5⟩
theorem S.newObj {c : String} {d : Data} {Q : Value → Shared → Prop} (Y : S X m ψ ω s) (hf : ({ cls := .type c, data := d } : Obj).isFreed = false) (hsz : sizeOk d)
    (q : ∀ a s', zc X ψ ω s a → S X m ψ (put ω a { cls := .type c, data := d }) s' → Q (.ref a) s') : wpAny M A (newObj (.type c) d) Q E s :=
  wpAny_newObj_type (q _ _ (Y.freshA (zF _)) (Y.lay _ hf s.toks)) hsz
theorem S.alloc {o : Obj} {Q : Addr → Shared → Prop} (Y : S X m ψ ω s) (hf : o.isFreed = false) (q : ∀ a s', zc X ψ ω s a → S X m ψ (put ω a o) s' → Q a s') : wpAny M A (alloc o) Q E s :=
  wpAny_alloc (q _ _ (Y.freshA (zF _)) (Y.lay _ hf s.toks))
theorem S.tok {tk : Nat} (Y : S X m ψ ω s) : S X m ψ ω { s with toks := tk } := by
  refine ⟨?_, Y.le, Y.new, Y.sub, Y.fram, Y.link, Y.hnd, Y.loc, Y.there, Y.off, Y.fre, Y.own, Y.tab⟩
  exact Y.ext.trans ⟨⟨s.heap, tk, rfl⟩, fun _ o e => .same e⟩
theorem S.kept {h' : Heap} {tk : Nat} (Y : S X m ψ ω s) (k : ∀ b o, s.heap.get? b = some o → h'.get? b = some o) : S X m ψ ω { s with heap := h', toks := tk } :=
  Y.turn (W := fun _ => False) (fun _ h => h.elim) ⟨h', tk, rfl⟩ (fun b ob _ e => k b ob e) fun a o e => .inr ⟨fun h => h, e⟩
theorem S.upd {a : Addr} {o : Obj} {f : Obj → Obj} (Y : S X m ψ ω s) (h : ω a = some o) (hf : (f o).isFreed = false) : S X m ψ (put ω a (f o)) { s with heap := s.heap.update a f } :=
  Y.sameBut h ⟨_, s.toks, rfl⟩ (fun b ob hb e => by rw [Heap.get?_update_other _ _ (Ne.symm hb)]; exact e) (Heap.get?_update_self _ (Y.own _ _ h).1 hf)
theorem S.nsGet {a : Addr} {o : Obj} {x : Str} {r : Option Value} {Q : Option Value → Shared → Prop} (Y : S X m ψ ω s) (h : ω a = some o) (hl : nsLook x o = pure r) (q : Q r s) : wpAny M A (nsGet a x) Q E s := by
  unfold PySem.nsGet
  refine zIt (wpAny_loadPart (Y.own _ _ h).1 ?_)
  rw [hl]
  exact zIu q
theorem S.nsSet {a : Addr} {o : Obj} {x : Str} {v : Value} {Q : Unit → Shared → Prop} (Y : S X m ψ ω s) (h : ω a = some o) (hd : ∃ es ep, o.data = .dict es ep ∧ aRefKeyMayBeTheName x es = false) (hf : ∀ hs tk, (Obj.putName x hs (.str x tk) v o).isFreed = false) (q : ∀ s' hs tk, S X m ψ (put ω a (Obj.putName x hs (.str x tk) v o)) s' → Q () s') : wpAny M A (PySem.nsSet a x v) Q E s := by
  obtain ⟨es, ep, hd, hr⟩ := hd
  unfold PySem.nsSet strHash
  refine zIt (zIt (wpAny_askSetting (zIu ?_)))
  refine zIt (wpAny_mkText ?_)
  have Y1 := Y.tok (tk := s.toks + 1)
  refine zIt (wpAny_loadPart (Y1.own _ _ h).1 ?_)
  rw [hd]
  dsimp only
  rw [hr]
  simp only [Bool.false_eq_true, if_false]
  exact wpAny_updatePart (Y1.own _ _ h).1 (q _ _ _ (Y1.upd h (hf _ _)))
noncomputable def Fix.setTb (X : Fix) (P : Addr) (o : Obj) : Fix := { X with tb := X.tb.map fun p => if p.1 = P then (P, o) else p }
theorem zAi {P : Addr} {o : Obj} : (X.setTb P o).F = X.F := by
  unfold Fix.F Fix.setTb
  simp only [List.map_map]
  congr 1
  refine List.map_congr_left fun p _ => ?_
  simp only [Function.comp]
  split
  · rename_i h; exact h.symm
  · rfl
theorem S.table {P : Addr} {ps more : Array Value} {h' : Heap} {tk : Nat} (Y : S X m ψ ω s) (hm : (P, tabObj ps) ∈ X.tb) (hx : Heap.ExtBut P s.heap h') (hP : h'.get? P = some (tabObj (ps ++ more))) : S (X.setTb P (tabObj (ps ++ more))) m ψ ω { s with heap := h', toks := tk } := by
  have hPt := Y.tab _ hm
  have ne : ∀ b o, ω b = some o → b ≠ P := fun b o e q => by rw [q, hPt.2.2.2.1] at e; cases e
  have neψ : ∀ b o, ψ b = some o → b ≠ P := fun b o e q => by rw [q, hPt.2.1] at e; cases e
  have hsP : s.heap.get? P = some (tabObj ps) := hPt.1
  refine ⟨?_, Y.le, Y.new, fun b o e => hx b o (neψ b o e) (Y.sub b o e), ?_, Y.link, Y.hnd, Y.loc, fun c hc => ?_, Y.off, Y.fre, fun b o e => ?_, fun p hp => ?_⟩
  · rw [zAi]
    refine ⟨?_, fun b o e => (Y.ext.kept b o e).trans fun o1 e1 => ?_⟩
    · obtain ⟨h1, t1, hr⟩ := Y.ext.rest
      exact ⟨h', tk, by rw [hr]; rfl⟩
    · by_cases q : b = P
      · subst q
        rw [hsP] at e1; cases e1
        exact .inr ⟨List.mem_append_left _ (List.mem_map.mpr ⟨_, hm, rfl⟩), rfl, ps, more, rfl, hP⟩
      · exact .same (hx b o1 q e1)
  · obtain ⟨fn, gl, bi, ⟨ml, ⟨oL, es, ep, hL, hd⟩, hml⟩, cel, inj, nl⟩ := Y.fram
    refine ⟨fn, gl, bi, ⟨ml, ⟨oL, es, ep, hx _ _ (fun q => hPt.2.2.1 (q ▸ Y.loc)) hL, hd⟩, hml⟩, fun y hy => ?_, inj, nl⟩
    obtain ⟨c, hc, oc, hoc, hdc⟩ := cel y hy
    refine ⟨c, hc, oc, hx _ _ (fun q => ?_) hoc, hdc⟩
    rw [q, hsP] at hoc; cases hoc; cases hdc
  · obtain ⟨o, ho⟩ := Y.there c hc
    exact ⟨o, hx c o (fun q => hPt.2.2.1 (q ▸ hc)) ho⟩
  · obtain ⟨k1, k2⟩ := Y.own b o e
    exact ⟨hx b o (ne b o e) k1, k2⟩
  · obtain ⟨p0, hp0, rfl⟩ := List.mem_map.mp hp
    obtain ⟨k1, k2⟩ := Y.tab p0 hp0
    by_cases q : p0.1 = P
    · rw [if_pos q]
      rw [q] at k2
      exact ⟨hP, k2⟩
    · rw [if_neg q]
      exact ⟨hx _ _ q k1, k2⟩
theorem zDb {env : Env} {c P : Addr} {ps : Array Value} {pos : Pos} {qual : Str} {make : CodeContext → Sem Value} {Q : Value → Shared → Prop} (hc : env.code = .ref c) (C : CodeHd s.heap c P) (hP : s.heap.get? P = some (tabObj ps)) (ht : TriplesOk ps.toList) (hnf : codeAmong pos ps.toList = none) (hmake : ∀ ctx (Q' : Value → Shared → Prop), (∀ c' P' h' tk, (∀ b o, s.heap.get? b = some o → h'.get? b = some o) → s.heap.objs.size ≤ c' → s.heap.objs.size ≤ P' → h'.IsCode c' P' #[] → h'.TableAt c' P' #[] → h'.CodeRec (.ref c') qual → Q' (.ref c') { s with heap := h', toks := tk }) → wpAny M A (make ctx) Q' E s)
    (hQ : ∀ c' P' h' tk, Heap.ExtBut P s.heap h' → s.heap.get? c' = none → s.heap.get? P' = none → CodeHd h' c' P' → h'.get? P' = some (tabObj #[]) → h'.CodeRec (.ref c') qual → h'.get? P = some (tabObj (ps ++ #[rawInt pos.line, rawInt pos.col, .ref c'])) → Q (.ref c') { s with heap := h', toks := tk }) :
    wpAny M A (codeAt env pos make) Q E s := by
  obtain ⟨o, vs, file, tf, flags, tg, inF, text, tt, op, ho, hd, h11, h2, h7, h9, h10, hop, hpd, htr, hne⟩ := C.code hP ht
  have e1 : op = tabObj ps := Option.some.inj (hop.symm.trans hP)
  unfold codeAt
  rw [hc, if_neg (show ¬ ((Value.ref c == Value.none) = true) from Bool.false_ne_true)]
  refine zIt (wpAny_fieldsOf ho hd ?_)
  rw [h11]
  refine zIt (wpAny_fieldsOf hop hpd ?_)
  rw [hnf, h2, h7, h9, h10]
  refine zIt (hmake _ _ fun c' P' h' tk hk hc' hP' hcode' htab' hrec' => ?_)
  have hop' := hk _ _ hop
  refine zIt (wpAny_updateFieldsOfTheText hop' hpd ?_)
  have hnew : (Obj.mapFields (fun vs => if (codeAmong pos vs.toList).isSome = true then vs else vs ++ #[rawInt pos.line, rawInt pos.col, .ref c']) op).data =
      .fields (ps ++ #[rawInt pos.line, rawInt pos.col, .ref c']) := by
    rw [Obj.data_mapFields hpd, hnf]; rfl
  have hget := Heap.get?_update_self (h := h') (fun o => Obj.mapFields (fun vs => if (codeAmong pos vs.toList).isSome = true then vs else
    vs ++ #[rawInt pos.line, rawInt pos.col, .ref c']) o) hop' (Obj.isFreed_of_fields hnew)
  refine zIt (wpAny_fieldsOf hget hnew ?_)
  have hl : (ps ++ #[rawInt pos.line, rawInt pos.col, Value.ref c']).toList = ps.toList ++ [rawInt pos.line, rawInt pos.col, .ref c'] := by simp
  rw [hl, codeAmong_snoc _ htr hnf]
  have hcP : c' ≠ P := Nat.ne_of_gt (Nat.lt_of_lt_of_le (Heap.lt_size hop) hc')
  have hP'P : P' ≠ P := Nat.ne_of_gt (Nat.lt_of_lt_of_le (Heap.lt_size hop) hP')
  have hb : Heap.ExtBut P h' (h'.update P fun o => Obj.mapFields (fun vs => if (codeAmong pos vs.toList).isSome = true then vs else vs ++ #[rawInt pos.line, rawInt pos.col, .ref c']) o) := (Heap.SameBut.update ..).extBut
  refine zIu (hQ c' P' _ _ (fun b o' hb' e => hb b o' hb' (hk b o' e)) (Heap.get?_none_of_le hc') (Heap.get?_none_of_le hP') ?_ ?_ ?_ ?_)
  · exact CodeHd.of (hcode'.extBut hb hcP hP'P) (htab'.extBut hb hcP hP'P)
  · exact hb _ _ hP'P htab'.2
  · obtain ⟨c₂, o₂, vs₂, t₂, e₂, g₂, r₂⟩ := hrec'
    cases e₂
    exact ⟨_, o₂, vs₂, t₂, rfl, hb _ _ hcP g₂, r₂⟩
  · rw [hget, e1]
    simp only [Obj.mapFields, tabObj, hnf]
    rfl
end
section
variable {M : Model} {β γ : Type} {f : β → Sem γ} {Q : γ → Shared → Prop}
theorem bEq {x : Sem β} (a : β) (e : x = pure a) (q : wpAny M A (f a) Q E s) : wpAny M A (x >>= f) Q E s := zIt (wpAny_of_eq e q)
theorem zFn {a : β} (q : wpAny M A (f a) Q E s) : wpAny M A (pure a >>= f) Q E s := zIt (zIu q)
theorem S.bAlloc {o : Obj} {f : Addr → Sem γ} (Y : S X m ψ ω s) (hf : o.isFreed = false) (q : ∀ a s', zc X ψ ω s a → S X m ψ (put ω a o) s' → wpAny M A (f a) Q E s') : wpAny M A (PySem.alloc o >>= f) Q E s := zIt (Y.alloc hf q)
theorem S.bNewObj {c : String} {d : Data} {f : Value → Sem γ} (Y : S X m ψ ω s) (hf : ({ cls := .type c, data := d } : Obj).isFreed = false) (hsz : sizeOk d)
    (q : ∀ a s', zc X ψ ω s a → S X m ψ (put ω a { cls := .type c, data := d }) s' → wpAny M A (f (.ref a)) Q E s') : wpAny M A (PySem.newObj (.type c) d >>= f) Q E s := zIt (Y.newObj hf hsz q)
end
section
variable {γ : Type} {Q : γ → Shared → Prop}
theorem bIs {s : Shared} {v : Value} {T U : String} {b : Bool} {f : Bool → Sem γ} (hT : s.TypeIs v T) (h : isSubtype (.type T) (.type U) = pure b) (q : wpAny (model prog w) A (f b) Q E s) : wpAny (model prog w) A (isInstance v (.type U) >>= f) Q E s := zIt (wpAny_isInstance hT h q)
theorem bSeq {a : Addr} {o : Obj} {items : Array Value} {n : Nat} {f : Option (Array Value) → Sem γ} (ho : s.heap.get? a = some o) (hd : o.data = .seq items n) (q : wpAny (model prog w) A (f (some items)) Q E s) : wpAny (model prog w) A (seqItems? (.ref a) >>= f) Q E s := zIt (wpAny_seqItems ho hd q)
theorem bSpec {s : Shared} {v : Value} {T : String} {name : Str} {r : Option Value} {f : Option Value → Sem γ} (hT : s.TypeIs v T) (h : typeLookup (.type T) name = pure r) (q : wpAny (model prog w) A (f r) Q E s) : wpAny (model prog w) A (specialOf v name >>= f) Q E s := zIt (wpAny_specialOf hT h q)
end
noncomputable def fnD (name qual : Str) (params : Arguments) (body : FuncBody) (scope : Scope) (cl : List (Str × Addr)) (pm cd ct : Value) : FuncData :=
  { name, qualname := qual, params, body, scope, globals := mainGlobals, closure := cl, defaults := .none, kwdefaults := .none, doc := .none, pyModule := pm, annotations := none, code := cd, closureTuple := ct, builtins := builtinsNs }
noncomputable def noDoc : FuncBody → Prop
  | .stmts b => docOf b = none
  | .expr _ => True
structure zB6 (φ : PM) : Prop where
  name : ∃ v, zD φ mainGlobals "__name__" (some v)
  bi : ∃ bm ob, zD φ mainGlobals "__builtins__" (some (.ref bm)) ∧ bm ≠ builtinsNs ∧ φ bm = some ob ∧ ob.cls = .type "module" ∧ ob.dict = some builtinsNs ∧ ob.data = .plain
theorem zB6.le {φ ψ : PM} (t : zB6 φ) (l : Le φ ψ) : zB6 ψ := ⟨by obtain ⟨v, h⟩ := t.name; exact ⟨v, h.le l⟩, by obtain ⟨bm, ob, a, b, c, d⟩ := t.bi; exact ⟨bm, ob, a.le l, b, l _ _ c, d⟩⟩
section
variable {E : Value → Shared → Prop} {M : Model}
theorem mkFun {name qual : Str} {params : Arguments} {body : FuncBody} {c P : Addr} {ps : Array Value} {pos : Pos} {firstLine : Nat} {clos : List (Str × Addr)} {Q : Value → Shared → Prop} (hT : zB6 ψ) (hs : Sub ψ s.heap) (hcl : closureFor scope env = pure clos) (hge : env.globals = mainGlobals) (hcode : env.code = .ref c) (C : CodeHd s.heap c P) (hP : s.heap.get? P = some (tabObj ps)) (hPψ : ψ P = none) (ht : TriplesOk ps.toList) (hnf : codeAmong pos ps.toList = none) (hdoc : noDoc body) (h : ∀ f c' h' tk ct pm, Heap.ExtBut P s.heap h' → s.heap.get? c' = none → s.heap.get? f = none → c' ≠ f → h'.CodeRec (.ref c') qual → h'.get? P = some (tabObj (ps ++ #[rawInt pos.line, rawInt pos.col, .ref c'])) →
      h'.get? f = some { cls := .type "function", data := .func (fnD name qual params body scope clos pm (.ref c') ct) } → Q (.ref f) { s with heap := h', toks := tk }) :
    wpAny M A (makeFunction name qual params body scope env [] [] [] pos firstLine) Q E s := by
  rw [makeFunction_eq]
  simp only [List.zip_nil_right, List.filterMap_nil, List.isEmpty_nil, if_true, pure_bind]
  obtain ⟨bm, ob, hbm, hne0, hob, hcls, hdict, hdata⟩ := hT.bi
  obtain ⟨nv, hnv⟩ := hT.name
  unfold makeTail
  rw [hcl, hge]
  refine zIt (zIu ?_)
  have fin : ∀ (ct : Value) (h1 : Heap), (∀ b o, s.heap.get? b = some o → h1.get? b = some o) →
      wpAny M A (functionCode env pos firstLine name qual params scope body >>= fun cd => builtinsFor mainGlobals env.builtins >>= fun bi => PySem.nsGet mainGlobals "__name__" >>= fun nm =>
        (let jp : Value → Sem Value := fun d => PySem.newObj (.type "function") (.func (FuncData.mk name qual params body scope mainGlobals clos .none .none d (nm.getD .none) none cd ct bi))
         match body with
         | .stmts b => (match docOf b with | some s => mkText s | none => pure .none) >>= jp
         | .expr _ => pure .none >>= jp)) Q E { s with heap := h1 } := by
    intro ct h1 hk
    have hs1 : Sub ψ h1 := fun a o e => hk a o (hs a o e)
    refine zIt ?_
    unfold functionCode
    refine zDb (s := { s with heap := h1 }) (qual := qual) hcode (C.keeps hk) (hk _ _ hP) ht hnf (fun ctx Q' hq => wpAny_newCodeX hq) fun c' P' h' tk hx hn1 hn2 _ _ hrec htb => ?_
    have hneP : ∀ a o, ψ a = some o → a ≠ P := fun a o e q => by rw [q, hPψ] at e; cases e
    have hs2 : Sub ψ h' := fun a o e => hx a o (hneP a o e) (hs1 a o e)
    obtain ⟨mg, ng, hmg⟩ := hbm.ns hs2
    refine zIt (wpAny_builtinsFor ng hmg hne0 (hs2 _ _ hob) hcls hdict hdata ?_)
    obtain ⟨mg2, ng2, hmg2⟩ := hnv.ns hs2
    refine zIt (wpAny_nsGet ng2 ?_)
    have hx' : Heap.ExtBut P s.heap h' := fun b o hb e => hx b o hb (hk b o e)
    have hc' : s.heap.get? c' = none := by
      cases q : s.heap.get? c' with
      | none => rfl
      | some o => have := hk _ _ q; rw [hn1] at this; cases this
    have last : wpAny M A (PySem.newObj (.type "function") (.func (fnD name qual params body scope clos ((mg2 "__name__").getD .none) (.ref c') ct))) Q E { s with heap := h', toks := tk } := by
      refine wpAny_newObj_type (h h'.objs.size c' _ tk ct _ (fun b o hb e => Heap.get?_push_of_some _ (hx' b o hb e)) hc' ?_ ?_ ?_ (Heap.get?_push_of_some _ htb) (Heap.get?_push_size _ rfl)) (by size_fits)
      · cases q : s.heap.get? h'.objs.size with
        | none => rfl
        | some o =>
          by_cases z : h'.objs.size = P
          · rw [← z, zF] at htb; cases htb
          · have := hx' _ _ z q; rw [zF] at this; cases this
      · intro z
        obtain ⟨c₂, o₂, vs₂, t₂, e₂, g₂, r₂⟩ := hrec
        cases e₂
        rw [z, zF] at g₂; cases g₂
      · obtain ⟨c₂, o₂, vs₂, t₂, e₂, g₂, r₂⟩ := hrec
        exact ⟨c₂, o₂, vs₂, t₂, e₂, Heap.get?_push_of_some _ g₂, r₂⟩
    cases body with
    | expr e => exact zIt (zIu last)
    | stmts bs =>
      have hd : docOf bs = none := hdoc
      dsimp only
      rw [hd]
      exact zIt (zIu last)
  cases clos with
  | nil =>
    simp only [List.isEmpty_nil, if_true]
    exact zIt (zIu (fin .none s.heap fun _ _ e => e))
  | cons q r =>
    simp only [List.isEmpty_cons, Bool.false_eq_true, if_false]
    exact zIt (wpAny_newTextTuple (fin _ _ fun b o e => Heap.get?_push_of_some _ e))
theorem S.adopt {a : Addr} {o : Obj} (Y : S X m ψ ω s) (ho : s.heap.get? a = some o) (F : zc X ψ ω s' a) : S X m (put ψ a o) ω s := by
  refine ((Y.take ho F).freeze (zA _ _ _)).forget fun b ob e => ?_
  have hb : b ≠ a := fun q => by rw [q, F.o] at e; cases e
  simp only [if_neg hb]
  rw [zC hb]; exact e
theorem zc.put {a c : Addr} {o : Obj} (F : zc X ψ ω s a) (h : a ≠ c) : zc X (Mine.put ψ c o) ω s a := ⟨F.o, by rw [zC h]; exact F.p, F.h, F.s0, F.ft, F.tb⟩
theorem zc.putO {a c : Addr} {o : Obj} (F : zc X ψ ω s a) (h : a ≠ c) : zc X ψ (Mine.put ω c o) s a := ⟨by rw [zC h]; exact F.o, F.p, F.h, F.s0, F.ft, F.tb⟩
def zX (ψ : PM) (c P : Addr) : Prop :=
  ∃ o vs file tf flags tg inF text tt, ψ c = some o ∧ o.cls = .type "code" ∧ o.data = .fields vs ∧ vs[11]? = some (.ref P) ∧ vs.getD 11 .none = .ref P ∧ vs.getD 18 .none = .str file tf ∧
    vs.getD 7 .none = .int flags tg ∧ vs.getD 9 .none = .bool inF ∧ vs.getD 10 .none = .int text tt ∧ c ≠ P
theorem zX.at {c P : Addr} (x : zX ψ c P) {h : Heap} (hs : Sub ψ h) : CodeHd h c P :=
  by obtain ⟨o, vs, file, tf, flags, tg, inF, text, tt, e, r⟩ := x; exact ⟨o, vs, file, tf, flags, tg, inF, text, tt, hs _ _ e, r⟩
theorem zX.le {c P : Addr} (x : zX φ c P) (l : Le φ ψ) : zX ψ c P :=
  by obtain ⟨o, vs, file, tf, flags, tg, inF, text, tt, e, r⟩ := x; exact ⟨o, vs, file, tf, flags, tg, inF, text, tt, l _ _ e, r⟩
def zEg (φ : PM) (cd : Value) (qual : Str) : Prop := ∃ c oc vs tq, cd = .ref c ∧ φ c = some oc ∧ oc.data = .fields vs ∧ vs[1]? = some (.str qual tq)
theorem zEg.le {cd : Value} {qual : Str} (x : zEg φ cd qual) (l : Le φ ψ) : zEg ψ cd qual := by obtain ⟨c, oc, vs, tq, a, b, d⟩ := x; exact ⟨c, oc, vs, tq, a, l _ _ b, d⟩
theorem S.mkFunO {name qual : Str} {params : Arguments} {body : FuncBody} {c P : Addr} {ps : Array Value} {pos : Pos} {firstLine : Nat} {clos : List (Str × Addr)} {Q : Value → Shared → Prop} (Y : S X m ψ ω s) (hT : zB6 ψ) (hcl : closureFor scope env = pure clos) (hge : env.globals = mainGlobals) (hcode : env.code = .ref c) (C : zX ψ c P) (hP : ω P = some (tabObj ps)) (ht : TriplesOk ps.toList) (hnf : codeAmong pos ps.toList = none) (hdoc : noDoc body) (h : ∀ f c' s' ct pm ψ', Le ψ ψ' → ψ' f = some { cls := .type "function", data := .func (fnD name qual params body scope clos pm (.ref c') ct) } → zEg ψ' (.ref c') qual → (∀ b o, ω b = some o → b ≠ f) → s.heap.get? f = none →
      S X m ψ' (put ω P (tabObj (ps ++ #[rawInt pos.line, rawInt pos.col, .ref c']))) s' → Q (.ref f) s') :
    wpAny M A (makeFunction name qual params body scope env [] [] [] pos firstLine) Q E s := by
  refine mkFun hT Y.sub hcl hge hcode (C.at Y.sub) (Y.own _ _ hP).1 (Y.own _ _ hP).2.1 ht hnf hdoc fun f c' h' tk ct pm hx hn1 hn2 hne hrec htb hf => ?_
  have Y1 := Y.sameBut (s' := { s with heap := h', toks := tk }) hP ⟨h', tk, rfl⟩ (fun b ob hb e => hx b ob hb e) htb
  obtain ⟨c₂, oc, vs, tq, e₂, g₂, hd2, h12⟩ := hrec
  cases e₂
  have F1 := Y.freshA hn1
  have F2 := Y.freshA hn2
  have hP1 : c' ≠ P := fun q => by have := (Y.own _ _ hP).1; rw [← q, hn1] at this; cases this
  have hP2 : f ≠ P := fun q => by have := (Y.own _ _ hP).1; rw [← q, hn2] at this; cases this
  have Y2 := Y1.adopt g₂ (F1.putO hP1)
  have Y3 := Y2.adopt hf ((F2.putO hP2).put (Ne.symm hne))
  have l1 : Le ψ (put ψ c' oc) := zL F1.p
  have l2 : Le (put ψ c' oc) (put (put ψ c' oc) f { cls := .type "function", data := .func (fnD name qual params body scope clos pm (.ref c') ct) }) := zL (by rw [zC (Ne.symm hne)]; exact F2.p)
  exact h f c' _ ct pm _ (l1.trans l2) (zA _ _ _) ⟨c', oc, vs, tq, rfl, l2 _ _ (zA _ _ _), hd2, h12⟩ (fun b o e q => by rw [q, F2.o] at e; cases e) hn2 Y3
theorem S.mkFunT {name qual : Str} {params : Arguments} {body : FuncBody} {c P : Addr} {ps : Array Value} {pos : Pos} {firstLine : Nat} {clos : List (Str × Addr)} {Q : Value → Shared → Prop} (Y : S X m ψ ω s) (hT : zB6 ψ) (hcl : closureFor scope env = pure clos) (hge : env.globals = mainGlobals) (hcode : env.code = .ref c) (C : zX ψ c P) (hP : (P, tabObj ps) ∈ X.tb) (ht : TriplesOk ps.toList) (hnf : codeAmong pos ps.toList = none) (hdoc : noDoc body) (h : ∀ f c' s' ct pm ψ', Le ψ ψ' → ψ' f = some { cls := .type "function", data := .func (fnD name qual params body scope clos pm (.ref c') ct) } → zEg ψ' (.ref c') qual →
      S (X.setTb P (tabObj (ps ++ #[rawInt pos.line, rawInt pos.col, .ref c']))) m ψ' ω s' → Q (.ref f) s') :
    wpAny M A (makeFunction name qual params body scope env [] [] [] pos firstLine) Q E s := by
  have hPt := Y.tab _ hP
  refine mkFun hT Y.sub hcl hge hcode (C.at Y.sub) hPt.1 hPt.2.1 ht hnf hdoc fun f c' h' tk ct pm hx hn1 hn2 hne hrec htb hf => ?_
  have Y1 := Y.table (tk := tk) hP hx htb
  obtain ⟨c₂, oc, vs, tq, e₂, g₂, hd2, h12⟩ := hrec
  cases e₂
  have F1 := Y.freshA hn1
  have F2 := Y.freshA hn2
  have fresh : ∀ {a ψ1}, zc X ψ1 ω s a → zc (X.setTb P (tabObj (ps ++ #[rawInt pos.line, rawInt pos.col, .ref c']))) ψ1 ω s a := fun F => ⟨F.o, F.p, F.h, F.s0, F.ft, fun p hp => by
    obtain ⟨p0, hp0, rfl⟩ := List.mem_map.mp hp
    split
    · rename_i q; have := F.tb p0 hp0; rw [q] at this; exact this
    · exact F.tb p0 hp0⟩
  have Y2 := Y1.adopt g₂ (fresh F1)
  have Y3 := Y2.adopt hf (fresh (F2.put (Ne.symm hne)))
  have l1 : Le ψ (put ψ c' oc) := zL F1.p
  have l2 : Le (put ψ c' oc) (put (put ψ c' oc) f { cls := .type "function", data := .func (fnD name qual params body scope clos pm (.ref c') ct) }) := zL (by rw [zC (Ne.symm hne)]; exact F2.p)
  exact h f c' _ ct pm _ (l1.trans l2) (zA _ _ _) ⟨c', oc, vs, tq, rfl, l2 _ _ (zA _ _ _), hd2, h12⟩ Y3
end
theorem zJ {α : Type} {M : Model} {A : Around} {E : Value → Shared → Prop} {s : Shared} {c : Prop} [Decidable c] {a b : Sem α} {Q : α → Shared → Prop} (hc : ¬ c) (h : wpAny M A b Q E s) : wpAny M A (if c then a else b) Q E s := by rw [if_neg hc]; exact h
theorem zS {α : Type} {M : Model} {A : Around} {E : Value → Shared → Prop} {s : Shared} {c : Prop} [Decidable c] {a b : Sem α} {Q : α → Shared → Prop} (hc : c) (h : wpAny M A a Q E s) : wpAny M A (if c then a else b) Q E s := by rw [if_pos hc]; exact h
theorem zGx : entryFor table "type.__prepare__" = some Builtin.«type.__prepare__» := entryFor_of_tree (by kernel_rfl)
theorem zGz (a b : Value) : checkBoundCall "type.__prepare__" ⟨[.type "type", a, b], []⟩ = pure () := by first | kernel_rfl | rfl
noncomputable abbrev zCL (scope : Scope) (ns : Addr) (cl : List (Str × Addr)) (qual : Str) (c1 fr : Addr) : Env := { scope, locals := ns, globals := mainGlobals, cells := cl, qual := qual ++ ".", code := .ref c1, frame := some fr, builtins := builtinsNs }
structure DI (o : Obj) (kvs : List (Str × Value)) : Prop where
  cls : o.cls = .type "dict"
  dat : ∃ es ep, o.data = .dict es ep ∧ zO (fun (kv : Str × Value) (e : DictEntry) => (∃ tk, e.key = .str kv.1 tk) ∧ e.val = kv.2) kvs es.toList
theorem DI.free {o : Obj} {kvs : List (Str × Value)} (d : DI o kvs) : o.isFreed = false := by
  obtain ⟨hc, es, ep, hd, _⟩ := d
  exact Obj.isFreed_of_dict hd
theorem zBF {x : Str} {kvs : List (Str × Value)} {es : List DictEntry} (h : zO (fun (kv : Str × Value) (e : DictEntry) => (∃ tk, e.key = .str kv.1 tk) ∧ e.val = kv.2) kvs es) : (es.find? (·.key.isStr x)).map (·.val) = kvs.lookup x ∧ es.any (·.refKey) = false := by
  induction h with
  | nil => exact ⟨rfl, rfl⟩
  | @cons kv e kvs es h0 _ ih =>
    obtain ⟨⟨tk, hk⟩, hv⟩ := h0
    obtain ⟨kx, kvv⟩ := kv
    simp only at hk hv
    constructor
    · rw [List.find?_cons, List.lookup_cons, hk]
      show (match (kx == x) with | true => some e | false => _).map _ = _
      by_cases q : kx = x
      · subst q; simp [hv]
      · have q1 : (kx == x) = false := by simpa using q
        have q2 : (x == kx) = false := by simpa using Ne.symm q
        rw [q1, q2]; exact ih.1
    · rw [List.any_cons, ih.2]
      unfold DictEntry.refKey
      rw [hk]; rfl
theorem DI.look {o : Obj} {kvs : List (Str × Value)} (d : DI o kvs) (x : Str) : nsLook x o = pure (kvs.lookup x) := by
  obtain ⟨hc, es, ep, hd, h⟩ := d
  obtain ⟨h1, h2⟩ := zBF (x := x) h
  rw [nsLook_eq]
  unfold nsLookByArray
  rw [hd]
  dsimp only
  rw [← Array.find?_toList, ← Array.any_toList, h2]
  cases q : es.toList.find? (·.key.isStr x) with
  | none => rw [q] at h1; rw [← h1]; rfl
  | some e => rw [q] at h1; rw [← h1]; rfl
theorem DI.noRef {o : Obj} {kvs : List (Str × Value)} (d : DI o kvs) (x : Str) : ∃ es ep, o.data = .dict es ep ∧ aRefKeyMayBeTheName x es = false := by
  obtain ⟨hc, es, ep, hd, h⟩ := d
  obtain ⟨h1, h2⟩ := zBF (x := x) h
  have h3 : es.any (fun e => e.refKey) = false := by rw [← Array.any_toList]; exact h2
  exact ⟨es, ep, hd, by rw [aRefKeyMayBeTheName_at, h3]; simp⟩
noncomputable def zt (x : Str) (v : Value) : List (Str × Value) → List (Str × Value)
  | [] => [(x, v)]
  | p :: r => if p.1 = x then (p.1, v) :: r else p :: zt x v r
theorem zDe {x y : Str} {v u : Value} {r : List (Str × Value)} : zt x v ((y, u) :: r) = if y = x then (y, v) :: r else (y, u) :: zt x v r := rfl
theorem zHK {x : Str} {v : Value} {p : Str × Value} {r : List (Str × Value)} : zt x v (p :: r) = if p.1 = x then (p.1, v) :: r else p :: zt x v r := rfl
theorem zEj {x : Str} {v : Value} : zt x v [] = [(x, v)] := rfl
theorem all2_put {x : Str} {v : Value} {hh : Int} {tk : Tok} {kvs : List (Str × Value)} {es : List DictEntry} (h : zO (fun (kv : Str × Value) (e : DictEntry) => (∃ tk, e.key = .str kv.1 tk) ∧ e.val = kv.2) kvs es) : zO (fun (kv : Str × Value) (e : DictEntry) => (∃ tk, e.key = .str kv.1 tk) ∧ e.val = kv.2) (zt x v kvs) (match es.findIdx? (·.key.isStr x) with | some i => es.modify i fun e => { e with val := v } | none => es ++ [⟨hh, .str x tk, v⟩]) := by
  induction h with
  | nil => exact .cons ⟨⟨tk, rfl⟩, rfl⟩ .nil
  | @cons kv e kvs es h0 hr ih =>
    obtain ⟨⟨tk', hk⟩, hv⟩ := h0
    obtain ⟨kx, kvv⟩ := kv
    simp only at hk hv
    rw [zDe]
    rw [List.findIdx?_cons, hk]
    by_cases q : kx = x
    · subst q
      have q1 : Value.isStr (.str kx tk') kx = true := by unfold Value.isStr; simp
      rw [q1]
      simp only [if_true, List.modify_zero_cons]
      exact .cons ⟨⟨tk', hk⟩, rfl⟩ hr
    · have q1 : Value.isStr (.str kx tk') x = false := by unfold Value.isStr; simpa using q
      rw [q1]
      simp only [if_neg q, Bool.false_eq_true, if_false]
      cases z : es.findIdx? (·.key.isStr x) with
      | none =>
        rw [z] at ih
        exact .cons ⟨⟨tk', hk⟩, hv⟩ ih
      | some i =>
        rw [z] at ih
        simp only [Option.map_some, List.modify_succ_cons]
        exact .cons ⟨⟨tk', hk⟩, hv⟩ ih
theorem DI.put {o : Obj} {kvs : List (Str × Value)} (d : DI o kvs) (x : Str) (h : Int) (tk : Tok) (v : Value) : DI (Obj.putName x h (.str x tk) v o) (zt x v kvs) := by
  obtain ⟨hc, es, ep, hd, hall⟩ := d
  rw [Obj.putName_eq]
  obtain ⟨c, dd, dt, sl⟩ := o
  cases hd
  have h2 := all2_put (x := x) (v := v) (hh := h) (tk := tk) hall
  unfold Obj.putNameByArray
  dsimp only
  obtain ⟨l⟩ := es
  simp only [List.findIdx?_toArray] at h2 ⊢
  cases z : l.findIdx? (·.key.isStr x) with
  | none =>
    rw [z] at h2
    exact ⟨hc, _, _, rfl, by simpa using h2⟩
  | some i =>
    rw [z] at h2
    exact ⟨hc, _, _, rfl, by simpa using h2⟩
theorem DI.has {o : Obj} {kvs : List (Str × Value)} (d : DI o kvs) (x : Str) : nsHas x o = pure (kvs.lookup x).isSome := by
  obtain ⟨hc, es, ep, hd, h⟩ := d
  obtain ⟨h1, h2⟩ := zBF (x := x) h
  have h3 : es.any (fun e => e.refKey) = false := by rw [← Array.any_toList]; exact h2
  rw [nsHas_eq]
  unfold nsHasByArray
  rw [hd]
  dsimp only
  have h4 : es.any (·.key.isStr x) = (kvs.lookup x).isSome := by
    rw [← h1, Option.isSome_map, ← Array.any_toList]
    cases q : es.toList.any (·.key.isStr x) with
    | true =>
      obtain ⟨e, he, hp⟩ := List.any_eq_true.mp q
      exact (List.find?_isSome.mpr ⟨e, he, hp⟩).symm
    | false =>
      have : es.toList.find? (·.key.isStr x) = none := List.find?_eq_none.mpr fun e he hp => by
        have := List.any_eq_false.mp q e he
        exact this hp
      rw [this]; rfl
  rw [h4, h3]
  cases (kvs.lookup x).isSome <;> rfl
noncomputable def zA3 (x : Str) : List (Str × Value) → List (Str × Value)
  | [] => []
  | p :: r => if p.1 = x then r else p :: zA3 x r
theorem zDm {x y : Str} {u : Value} {r : List (Str × Value)} : zA3 x ((y, u) :: r) = if y = x then r else (y, u) :: zA3 x r := rfl
theorem zDi {x : Str} {p : Str × Value} {r : List (Str × Value)} : zA3 x (p :: r) = if p.1 = x then r else p :: zA3 x r := rfl
theorem all2_del {x : Str} {kvs : List (Str × Value)} {es : List DictEntry} (h : zO (fun (kv : Str × Value) (e : DictEntry) => (∃ tk, e.key = .str kv.1 tk) ∧ e.val = kv.2) kvs es) : zO (fun (kv : Str × Value) (e : DictEntry) => (∃ tk, e.key = .str kv.1 tk) ∧ e.val = kv.2) (zA3 x kvs) (match es.findIdx? (·.key.isStr x) with | some i => es.eraseIdx i | none => es) := by
  induction h with
  | nil => exact .nil
  | @cons kv e kvs es h0 hr ih =>
    obtain ⟨⟨tk', hk⟩, hv⟩ := h0
    obtain ⟨kx, kvv⟩ := kv
    simp only at hk hv
    rw [zDm]
    rw [List.findIdx?_cons, hk]
    by_cases q : kx = x
    · subst q
      have q1 : Value.isStr (.str kx tk') kx = true := by unfold Value.isStr; simp
      rw [q1]
      simp only [if_true, List.eraseIdx_cons_zero]
      exact hr
    · have q1 : Value.isStr (.str kx tk') x = false := by unfold Value.isStr; simpa using q
      rw [q1]
      simp only [if_neg q, Bool.false_eq_true, if_false]
      cases z : es.findIdx? (·.key.isStr x) with
      | none =>
        rw [z] at ih
        exact .cons ⟨⟨tk', hk⟩, hv⟩ ih
      | some i =>
        rw [z] at ih
        simp only [Option.map_some, List.eraseIdx_cons_succ]
        exact .cons ⟨⟨tk', hk⟩, hv⟩ ih
theorem DI.drop {o : Obj} {kvs : List (Str × Value)} (d : DI o kvs) (x : Str) : DI (Obj.dropName x o) (zA3 x kvs) := by
  obtain ⟨hc, es, ep, hd, hall⟩ := d
  rw [Obj.dropName_eq]
  obtain ⟨c, dd, dt, sl⟩ := o
  cases hd
  have h2 := all2_del (x := x) hall
  unfold Obj.dropNameByArray
  dsimp only
  obtain ⟨l⟩ := es
  simp only [List.findIdx?_toArray] at h2 ⊢
  cases z : l.findIdx? (·.key.isStr x) with
  | none =>
    rw [z] at h2
    exact ⟨hc, _, _, rfl, h2⟩
  | some i =>
    rw [z] at h2
    exact ⟨hc, _, _, rfl, by simpa using h2⟩
section
variable {E : Value → Shared → Prop} {M : Model}
theorem S.setD {a : Addr} {o : Obj} {kvs : List (Str × Value)} {x : Str} {v : Value} {Q : Unit → Shared → Prop} (Y : S X m ψ ω s) (h : ω a = some o) (hd : DI o kvs) (q : ∀ s' o', DI o' (zt x v kvs) → S X m ψ (put ω a o') s' → Q () s') : wpAny M A (PySem.nsSet a x v) Q E s :=
  Y.nsSet h (hd.noRef x) (fun hs tk => (hd.put x hs tk v).free) fun s' hs tk Y' => q s' _ (hd.put x hs tk v) Y'
theorem S.getD {a : Addr} {o : Obj} {kvs : List (Str × Value)} {x : Str} {Q : Option Value → Shared → Prop} (Y : S X m ψ ω s) (h : ω a = some o) (hd : DI o kvs) (q : Q (kvs.lookup x) s) : wpAny M A (PySem.nsGet a x) Q E s :=
  Y.nsGet h (hd.look x) q
theorem S.storeC {kvs : List (Str × Value)} {ns c1 fr : Addr} {cl : List (Str × Addr)} {qual x : Str} {v : Value} {o : Obj} {Q : Unit → Shared → Prop} (Y : S X m ψ ω s) (hk : scope.kind = .class) (hx : scope.names.lookup x = some .local ∨ (scope.names.lookup x = none ∧ compilersOwnNames.contains x = true)) (h : ω ns = some o) (hd : DI o kvs) (q : ∀ s' o', DI o' (zt x v kvs) → S X m ψ (put ω ns o') s' → Q () s') : wpAny M A (storeName (zCL scope ns cl qual c1 fr) x v) Q E s := by
  have hkind : (zCL scope ns cl qual c1 fr).scope.kind = .class := hk
  have hbk : (zCL scope ns cl qual c1 fr).blockKind = .class := by unfold Env.blockKind; show (if scope.kind.isAnnotationScope = true then _ else scope.kind) = _; rw [hk]; rfl
  have fin : wpAny M A (localSet (zCL scope ns cl qual c1 fr) x v) Q E s := by
    unfold localSet
    refine zIt (wpAny_load (Y.own _ _ h).1 ?_)
    refine zS (by rw [hd.cls]; rfl) ?_
    exact Y.setD h hd q
  have hko : (zCL scope ns cl qual c1 fr).kindOf x = scope.names.lookup x := rfl
  unfold storeName
  rw [hko, hbk]
  rcases hx with hx | ⟨hx, hc⟩
  · rw [hx]
    refine (show wpAny M A (if ((zCL scope ns cl qual c1 fr).scope.kind == .class || _) = true then localSet (zCL scope ns cl qual c1 fr) x v else _) Q E s from ?_)
    refine zS (by rw [hkind]; rfl) fin
  · rw [hx]
    rw [hc]
    simp only [Bool.not_true, Bool.and_false, Bool.or_false, Bool.false_eq_true, if_false, ite_self, hkind]
    refine zJ (by decide) ?_
    refine zS (by rw [hk]; rfl) fin
theorem S.delD {a : Addr} {o : Obj} {kvs : List (Str × Value)} {x : Str} {Q : Bool → Shared → Prop} (Y : S X m ψ ω s) (h : ω a = some o) (hd : DI o kvs) (q : ∀ s' o', DI o' (if (kvs.lookup x).isSome then zA3 x kvs else kvs) → S X m ψ (put ω a o') s' → Q (kvs.lookup x).isSome s') : wpAny M A (PySem.nsDel a x) Q E s := by
  unfold PySem.nsDel
  have hg := (Y.own _ _ h).1
  refine zIt (wpAny_loadPart hg ?_)
  rw [hd.has x]
  refine zIt (zIu ?_)
  cases z : (kvs.lookup x).isSome with
  | true =>
    rw [z] at q
    refine zS rfl (zIt (wpAny_updatePart hg (zIu (q _ _ (hd.drop x) (Y.upd h (hd.drop x).free)))))
  | false =>
    rw [z] at q
    refine zJ (by decide) (zIu (q s o hd ?_))
    have : put ω a o = ω := by funext b; unfold put; by_cases qb : b = a <;> simp [qb, h]
    rw [this]; exact Y
theorem zc.tbl {a P : Addr} {o : Obj} (F : zc X ψ ω s a) : zc (X.setTb P o) ψ ω s a := ⟨F.o, F.p, F.h, F.s0, F.ft, fun p hp => by
    obtain ⟨p0, hp0, rfl⟩ := List.mem_map.mp hp
    split
    · rename_i q; have := F.tb p0 hp0; rw [q] at this; exact this
    · exact F.tb p0 hp0⟩
theorem S.loadNameC {ns c1 fr : Addr} {cl : List (Str × Addr)} {kvs : List (Str × Value)} {qual x : Str} {v : Value} {o : Obj} {Q : Value → Shared → Prop} (Y : S X m ψ ω s) (hk : scope.kind = .class) (hx : scope.names.lookup x = none) (hc : compilersOwnNames.contains x = true) (h : ω ns = some o) (hd : DI o kvs) (hn : kvs.lookup x = none) (hg : zD ψ mainGlobals x (some v)) (q : Q v s) : wpAny M A (loadName (zCL scope ns cl qual c1 fr) x) Q E s := by
  have hbk : (zCL scope ns cl qual c1 fr).blockKind = .class := by unfold Env.blockKind; show (if scope.kind.isAnnotationScope = true then _ else scope.kind) = _; rw [hk]; rfl
  have hko : (zCL scope ns cl qual c1 fr).kindOf x = none := hx
  have hann : (zCL scope ns cl qual c1 fr).scope.kind.isAnnotationScope = false := by show scope.kind.isAnnotationScope = false; rw [hk]; rfl
  obtain ⟨mg, ng, hmg⟩ := hg.ns Y.sub
  unfold loadName
  rw [hko, hbk, hann]
  refine zJ (by simp) ?_
  dsimp only
  rw [hc]
  refine zJ (by decide) ?_
  unfold localGet
  refine zIt (zIt (wpAny_load (Y.own _ _ h).1 ?_))
  refine zS (by rw [hd.cls]; rfl) ?_
  refine Y.getD h hd ?_
  rw [hn]
  unfold loadGlobal
  refine zIt (wpAny_nsGet ng ?_)
  rw [hmg]
  exact zIu q
theorem zD9 {stmts : List Stmt} {env : Env} {R : Result → Shared → Prop} (h0 : hasAnns stmts = false) (h1 : docOf stmts = none) (h : wpAny (model prog w) (A.under (.body stmts env)) (execs stmts env) (fun f s' => R (.ok f) s') (fun _ _ => False) s) : codeAny (model prog w) A (.body stmts env) R s := by
  refine codeAny_of_tree ?_
  show wpAny _ (A.under (.body stmts env)) (do blockStart stmts env; return Fin.done (← (execs stmts env).onRaise (leaving env))) _ _ s
  refine zIt ?_
  unfold blockStart
  rw [h0, h1]
  refine zJ (by decide) ?_
  have last : wpAny (model prog w) (A.under (.body stmts env)) (do return Fin.done (← (execs stmts env).onRaise (leaving env))) (fun fin s' => match fin with | .done f => R (.ok f) s' | .again c' => c'.quiet = true ∧ codeAny (model prog w) A c' R s') (fun e s' => R (.error e) s') s :=
    zIt (wpAny_onRaise (zIv h (fun f s' hf => zIu hf) fun _ _ e => e.elim))
  by_cases hi : interactive env = true
  · exact zS hi (zIu last)
  · exact zJ hi (zIu last)
theorem zc.ne {a b : Addr} {o : Obj} (F : zc X ψ ω s a) (h : ω b = some o) : b ≠ a := fun q => by rw [q, F.o] at h; cases h
end
section
noncomputable def zFW (vs : List Value) : Obj := { cls := .type "tuple", data := .seq vs.toArray }
theorem zCN {a c : Addr} {o o' p : Obj} (h : a ≠ c) : put (put (put ω a o) c p) a o' = put (put ω a o') c p := by
  rw [put_swap (Ne.symm h), zA7]
theorem S.newFrozen {c : String} {d : Data} {Q : Value → Shared → Prop} {M : Model} (Y : S X m ψ ω s) (hf : ({ cls := .type c, data := d } : Obj).isFreed = false) (hsz : sizeOk d)
    (q : ∀ a s', zc X ψ ω s a → S X m (put ψ a { cls := .type c, data := d }) ω s' → Q (.ref a) s') : wpAny M A (PySem.newObj (.type c) d) Q E s :=
  Y.newObj hf hsz fun a s' F Y' => q a s' F ((Y'.freeze (zA _ _ _)).forget fun b ob e => by
    have hb : b ≠ a := F.ne e
    simp only [if_neg hb]
    rw [zC hb]; exact e)
theorem bPrep {γ : Type} {f : Option Value → Sem γ} {Q : γ → Shared → Prop} (h : ∀ a h' tk, h'.get? a = some (zIB "type.__prepare__" "type") → (∀ b o, s.heap.get? b = some o → h'.get? b = some o) → wpAny (model prog w) A (f (some (.ref a))) Q E { s with heap := h', toks := tk }) :
    wpAny (model prog w) A (getAttr? (.type "type") "__prepare__" >>= f) Q E s := zIt (zEN fun a h' tk h1 _ h3 => h a h' tk h1 h3)
theorem zIY {γ : Type} {f : Value → Sem γ} {Q : γ → Shared → Prop} {a : Addr} {u v : Value} (Y : S X m ψ ω s) (ha : s.heap.get? a = some (zIB "type.__prepare__" "type")) (q : ∀ ns s', zc X ψ ω s ns → S X m ψ (put ω ns { cls := .type "dict", data := .dict #[] }) s' → wpAny (model prog w) A (f (.ref ns)) Q E s') :
    wpAny (model prog w) A (call (.ref a) [u, v] >>= f) Q E s := by
  refine zIt (zGN ha (zGz _ _) zGx (by decide +kernel) (by decide) ?_)
  unfold Builtin.«type.__prepare__» newDict
  exact zIt (Y.newObj (by rfl) (Nat.zero_le _) fun ns s4 Fn Y4 => zIu (q ns s4 Fn Y4))
theorem bNotMods {γ : Type} {f : Unit → Sem γ} {Q : γ → Shared → Prop} {a : Addr} {wh : String} (h : (a == sysModules) = false) (q : wpAny (model prog w) A (f ()) Q E s) : wpAny (model prog w) A (notTheModulesDict wh a >>= f) Q E s := by
  unfold notTheModulesDict
  rw [h]
  exact zIt (zJ (by decide) (zIu q))
theorem zIA {γ : Type} {f : Value → Sem γ} {Q : γ → Shared → Prop} {x : Str} (q : wpAny (model prog w) A (f (.str x s.toks)) Q E { s with toks := s.toks + 1 }) : wpAny (model prog w) A (mkText x >>= f) Q E s := zIt (wpAny_mkText q)
theorem bMkInt {γ : Type} {f : Value → Sem γ} {Q : γ → Shared → Prop} {x : Int} (q : wpAny (model prog w) A (f (.int x s.toks)) Q E { s with toks := s.toks + 1 }) : wpAny (model prog w) A (mkInt x >>= f) Q E s := zIt (wpAny_mkInt q)
theorem build_ok {name qual : Str} {body : List Stmt} {statics : List Str} {firstLine : Nat} {pos : Pos} {Q : Value → Shared → Prop} {cc P : Addr} {clos : List (Str × Addr)} (Bd : PM → List (Str × Value) → Prop) (hBd : ∀ ψ ψ' kvs, Le ψ ψ' → Bd ψ kvs → Bd ψ' kvs) (Y : S X m ψ ω s) (hmods : ∃ o, ψ sysModules = some o) (hcc : (scope.names.lookup ("__class__" : Str) == some NameKind.cell) = false) (hcd : (scope.names.lookup ("__classdict__" : Str) == some NameKind.cell) = false) (hsk : scope.kind = .class) (hcode : X.env.code = .ref cc) (C : zX ψ cc P) (hP : (P, tabObj #[]) ∈ X.tb) (hT : zB6 ψ) (hcl : closureFor scope X.env = pure clos) (hlim : zD ψ cStatics "sys.recursionlimit" none) (hdep : A.depth + 20 < 1000) (hnm1 : scope.names.lookup ("__name__" : Str) = none) (hnm2 : scope.names.lookup ("__module__" : Str) = some NameKind.local) (hnm3 : scope.names.lookup ("__qualname__" : Str) = none) (hnm4 : scope.names.lookup ("__firstlineno__" : Str) = none) (hnm5 : scope.names.lookup ("__static_attributes__" : Str) = none) (hbody : ∀ (R : Result → Shared → Prop) ns c1 P1 fr ψ' oD s' pm t1 t2, Le ψ ψ' → ω ns = none → ω P1 = none → ns ≠ P1 → zX ψ' c1 P1 → DI oD [("__module__", pm), ("__qualname__", .str qual t1), ("__firstlineno__", .int firstLine t2)] →
      S (X.setTb P (tabObj #[rawInt pos.line, rawInt pos.col, .ref c1])) m ψ' (put (put ω ns oD) P1 (tabObj #[])) s' →
      (∀ ψ2 oD2 kvs2 ps2 s2, Le ψ' ψ2 → DI oD2 kvs2 → Bd ψ2 kvs2 → S (X.setTb P (tabObj #[rawInt pos.line, rawInt pos.col, .ref c1])) m ψ2 (put (put ω ns oD2) P1 (tabObj ps2)) s2 → R (.ok .next) s2) →
      codeAny (model prog w) (A.mark none) (.body body (zCL scope ns clos qual c1 fr)) R s')
    (hnew : ∀ c1 g ns tn st sts oD kvs ψ' s', Le ψ ψ' → ψ' g = some (zFW [.type "object"]) → ω ns = none → DI oD (zt "__static_attributes__" (.ref st) kvs) → Bd ψ' kvs → ψ' st = some (zFW sts) →
      S (X.setTb P (tabObj #[rawInt pos.line, rawInt pos.col, .ref c1])) m ψ' (put ω ns oD) s' →
      wpAny (model prog w) A (call (.type "type") [.str name tn, .ref g, .ref ns]) Q E s') :
    wpAny (model prog w) A (buildClass name qual [.type "object"] [] body scope statics firstLine X.env pos none) Q E s := by
  unfold buildClass newTuple
  refine zIt (Y.newFrozen (by rfl) (by show 1 ≤ sizeLine; decide) fun g s1 Fg Y1 => ?_)
  have lg : Le ψ (put ψ g (zFW [.type "object"])) := zL Fg.p
  have hg1 : put ψ g (zFW [.type "object"]) g = some (zFW [.type "object"]) := zA _ _ _
  have Y1 : S X m (put ψ g (zFW [.type "object"])) ω s1 := Y1
  generalize put ψ g (zFW [.type "object"]) = ψ1 at lg hg1 Y1
  refine zIt (zBV ?_)
  refine zFn ?_
  refine zS rfl (zJ (by decide) (zIu ⟨_, rfl, ?_⟩))
  refine bEq (.type "type") (by rfl) ?_
  refine zFn (zS rfl ?_)
  refine zIt (zBV ?_)
  refine bEq (.type "type") (by rfl) ?_
  refine bEq true (by rw [isSubtype_type]; kernel_rfl) ?_
  refine zS rfl (zIu ⟨_, rfl, ?_⟩)
  refine zIA ?_
  refine zJ (by decide) ?_
  refine zFn ?_
  refine zIw ?_
  refine bPrep fun a h3 tk3 ha hk3 => ?_
  refine zIY ((Y1.tok (tk := s1.toks + 1)).kept (tk := tk3) hk3) ha fun ns s4 Fn Y4 => ?_
  have hnm : (ns == sysModules) = false := by
    rw [beq_eq_false_iff_ne]
    intro q
    obtain ⟨o, ho⟩ := hmods
    have := lg _ _ ho
    rw [← q, Fn.p] at this; cases this
  have hnsT : s4.TypeIs (.ref ns) "dict" := ⟨_, (Y4.own _ _ (zA _ _ _)).1, rfl⟩
  have hPt := Y4.tab _ hP
  refine bNotMods hnm ?_
  refine bSpec hnsT PySem.F.slot_dict_getitem.lookup ?_
  refine zJ (by decide) ?_
  refine zIw ?_
  refine zJ (by rw [hcc]; decide) ?_
  refine zFn ?_
  refine zJ (by rw [hcd]; decide) ?_
  refine zFn ?_
  unfold classCode
  refine zIt (zDb (qual := qual) hcode ((C.le lg).at Y4.sub) hPt.1 trivial (by rfl) (fun ctx Q' hq => wpAny_newCodeX hq) fun c1 P1 h5 tk5 hx5 hn51 hn52 hC1 hP1 hrec1 htb1 => ?_)
  have Y5 := Y4.table (tk := tk5) hP hx5 htb1
  obtain ⟨c₂, oc1, vs1, tq1, e₂, gc1, hdc1, hc11⟩ := id hrec1
  cases e₂
  have F51 := (Y4.freshA hn51).tbl (P := P) (o := tabObj (#[] ++ #[rawInt pos.line, rawInt pos.col, .ref c1]))
  have F52 := (Y4.freshA hn52).tbl (P := P) (o := tabObj (#[] ++ #[rawInt pos.line, rawInt pos.col, .ref c1]))
  have hcP1 : c1 ≠ P1 := fun q => by rw [q, hP1] at gc1; cases gc1; cases hdc1; cases hc11
  have Y6 := (Y5.adopt gc1 F51).take hP1 (F52.put (Ne.symm hcP1))
  have C1 : zX (put ψ1 c1 oc1) c1 P1 := by
    obtain ⟨o, vs, file, tf, flags, tg, inF, text, tt, e, r⟩ := hC1
    rw [gc1] at e; cases e
    exact ⟨oc1, vs, file, tf, flags, tg, inF, text, tt, zA _ _ _, r⟩
  have l6 : Le ψ1 (put ψ1 c1 oc1) := zL F51.p
  have T6 := hT.le (lg.trans l6)
  have ll := lg.trans l6
  have hg6 := l6 _ _ hg1
  have hωn : ω ns = none := Fn.o
  have hωP : ω P1 = none := by have := F52.o; rw [zC (fun q => by have h := (Y4.own _ _ (zA _ _ _)).1; rw [← q, hn52] at h; cases h)] at this; exact this
  have hnP : ns ≠ P1 := fun q => by have h := (Y4.own _ _ (zA _ _ _)).1; rw [q, hn52] at h; cases h
  generalize put ψ1 c1 oc1 = ψ2 at *
  obtain ⟨bm, ob, hbm, hne0, hob, hcls, hdict, hdata⟩ := T6.bi
  obtain ⟨nv, hnv⟩ := T6.name
  have hgl : X.env.globals = mainGlobals := Y.fram.gl
  rw [hgl]
  obtain ⟨mg, ng, hmg⟩ := hbm.ns Y6.sub
  refine zIt (wpAny_builtinsFor ng hmg hne0 (Y6.sub _ _ hob) hcls hdict hdata ?_)
  unfold newBodyFrame
  obtain ⟨mg2, ng2, hmg2⟩ := hnv.ns Y6.sub
  refine zIt (zIt (wpAny_nsGet ng2 ?_))
  refine Y6.alloc (by rfl) fun fr s7 Ff Y7' => ?_
  have Y7 := Y7'.forget (zL Ff.o)
  refine bEq clos hcl (zIw ?_)
  obtain ⟨ml, nl, hml⟩ := (hlim.le (lg.trans l6)).ns Y7.sub
  refine zIt (wpAny_enterFrame ⟨ml, nl, hml⟩ (by show A.depth < 1000; omega) ?_)
  refine zIt (wpAny_onRaise ?_)
  have Df : DI ({ cls := .type "dict", data := .dict #[] } : Obj) [] := ⟨rfl, _, _, rfl, .nil⟩
  have hget : ∀ {o p : Obj}, put (put ω ns o) P1 p ns = some o := fun {o p} => by rw [zC hnP]; exact zA _ _ _
  refine zIt (Y7.loadNameC hsk hnm1 (by decide +kernel) hget Df (by rfl) hnv ?_)
  refine zIt (Y7.storeC hsk (.inl hnm2) hget Df fun s8 o8 D8 Y8 => ?_)
  rw [zCN hnP] at Y8
  refine zIA ?_
  have Y8' := Y8.tok (tk := s8.toks + 1)
  refine zIt (Y8'.storeC (x := "__qualname__") hsk (.inr ⟨hnm3, by decide +kernel⟩) hget D8 fun s9 o9 D9 Y9 => ?_)
  rw [zCN hnP] at Y9
  refine bMkInt ?_
  have Y9' := Y9.tok (tk := s9.toks + 1)
  refine zIt (Y9'.storeC (x := "__firstlineno__") hsk (.inr ⟨hnm4, by decide +kernel⟩) hget D9 fun s10 o10 D10 Y10 => ?_)
  rw [zCN hnP] at Y10
  refine zIu ?_
  refine zIt (wpAny_run ?_)
  refine hbody _ ns c1 P1 fr ψ2 o10 s10 _ _ _ ll hωn hωP hnP C1 D10 (by simpa using Y10) fun ψ3 o11 kvs2 ps2 s11 l3 D11 hbd Y11 => ?_
  dsimp only
  refine zIt (wpAny_onRaise ?_)
  refine zIt (wpAny_mkStrs fun sts => ?_)
  have Y11' := Y11.tok (tk := s11.toks + statics.length)
  refine zIt (wpAny_newTextTuple ?_)
  have F12 := Y11'.freshA (zF _)
  have Y12 := Y11'.lay (zFW sts) rfl (s11.toks + statics.length)
  have Y13 := (Y12.freeze (zA _ _ _)).forget (ω' := put (put ω ns o11) P1 (tabObj ps2)) fun b ob e => by
    have hb := F12.ne e
    simp only [if_neg hb]
    rw [zC hb]; exact e
  refine zIt (Y13.storeC (x := "__static_attributes__") hsk (.inr ⟨hnm5, by decide +kernel⟩) hget D11 fun s14 o14 D14 Y14 => ?_)
  rw [zCN hnP] at Y14
  refine zIu ?_
  refine zJ (by decide) ?_
  have l14 := zL (o := zFW sts) F12.p
  refine zIt (zIv (hnew c1 g ns _ _ sts o14 kvs2 _ s14 (ll.trans (l3.trans l14)) (l14 _ _ (l3 _ _ hg6)) hωn D14 (hBd _ _ _ l14 hbd) (zA _ _ _) (Y14.forget (zL (by rw [zC (Ne.symm hnP)]; exact hωP)))) (fun a s' q => zIu q) fun _ _ e => e)
end
theorem tt_mro : mroOf (.type "type") = pure [.type "type", .type "object"] := by rw [mroOf_type]; kernel_rfl
theorem tt_can : ((Manifest.find? "type").bind (·.mro.findSome? fun t => (Manifest.find? t).bind fun b => if b.noNew then some true else if b.attrs.any (·.1 == "__new__") then some false else none)).getD false = false := by kernel_rfl
theorem tt_made : Bind.madeBy (.type "type") = pure (some "type.__new__") := by kernel_rfl
theorem zGS : isSubtype (.type "type") (.type "type") = pure true := by rw [isSubtype_type]; kernel_rfl
theorem tt_check (a b c : Value) : checkTypeCall "type" ⟨[a, b, c], []⟩ = pure () := by kernel_rfl
theorem zDo : Slot "type" "__init__" "type.__init__" :=
  .of (owner := "type") (n := "__init__") (by rw [typeLookup_type, builtinLookup_eq_fast]; kernel_rfl) (by decide +kernel) (by decide +kernel) (by decide +kernel)
    (by first | exact .inl (by decide +kernel) | exact .inr (by decide +kernel)) (by rw [isSubtype_type]; kernel_rfl)
theorem zFv : entryFor table "type.__init__" = some Builtin.«type.__init__» := entryFor_of_tree (by kernel_rfl)
theorem zHI (a b c d : Value) : argsOk "type.__init__" ⟨[a, b, c, d], []⟩ := by unfold argsOk; kernel_rfl
theorem zG0 : plainId "type.__new__" = true := by decide +kernel
theorem zGo : entryFor table "type.__new__" = some Builtin.«type.__new__» := entryFor_of_tree (by kernel_rfl)
theorem zG1 (a b c : Value) : checkBuiltinCall "type.__new__" ⟨[.type "type", a, b, c], []⟩ = pure () := by kernel_rfl
section
variable {prog : Program} {w : World} {A : Around} {E : Value → Shared → Prop} {s : Shared}
theorem zHQ {a b c : Value} {Q : Value → Shared → Prop} (hnew : wpAny (model prog w) A.in1.in1 (Builtin.«type.__new__» ⟨[.type "type", a, b, c], []⟩) (fun fin s1 => ∃ K, fin = .done (.ret (.ref K)) ∧ s1.TypeIs (.ref K) "type" ∧ Q (.ref K) s1) (fun e s' => E e s') s) : wpAny (model prog w) A (call (.type "type") [a, b, c]) Q E s := by
  refine wpAny_call (codeAny_of_tree ?_)
  show wpAny _ _ (callAny (.type "type") _) _ _ _
  refine zIu ⟨Code.quiet_builtin _ (by decide +kernel), codeAny_builtin F.entry_type_call ?_⟩
  rw [Around.under_plain (weight_type_call_type "type" [a, b, c] []) rfl]
  unfold Builtin.«type.__call__»
  have h1 := tt_mro
  have h2 := tt_can
  have h3 := tt_made
  have h4 := zGS
  have h5 := tt_check a b c
  repeat (any_goals (first | assumption | wp_step))
  refine codeAny_call_builtin zG0 zGo ?_
  refine wpAny_of_eq (zG1 a b c) (zIv hnew (fun fin s1 hf => ?_) fun _ _ e => e)
  obtain ⟨K, rfl, hT, hq⟩ := hf
  refine zIt (wpAny_isInstance hT zGS ?_)
  refine zJ (by decide) ?_
  refine zIt (zIw ?_)
  refine wpAny_callSpecial?_slot (name := Str.ofString "__init__") hT zDo (wpAny_call_entry zDo hT zFv ?_ (zHI _ _ _ _))
  unfold Builtin.«type.__init__»
  refine zAL (by rfl) (zAL (by rfl) (zIu ⟨_, rfl, ?_⟩))
  dsimp only
  refine zJ (by decide) (zIu hq)
end
theorem best_ob : Builtin.Slots.bestBase [.type "object"] = pure (.type "object") := by kernel_rfl
theorem names_ob : Builtin.Slots.slotNamesOf (.type "object") = pure [] := by kernel_rfl
theorem gd_ob : Builtin.Slots.givesDict (.type "object") = pure false := by kernel_rfl
theorem gw_ob : Builtin.Slots.givesWeak (.type "object") = pure false := by kernel_rfl
theorem vs_ob : Builtin.Slots.varSize (.type "object") = pure false := by kernel_rfl
abbrev KVs (kvs : List (Str × Value)) (es : Array DictEntry) : Prop := zO (fun (kv : Str × Value) (e : DictEntry) => (∃ tk, e.key = .str kv.1 tk) ∧ e.val = kv.2) kvs es.toList
theorem KVs.find {kvs : List (Str × Value)} {es : Array DictEntry} (h : KVs kvs es) (x : Str) : (es.find? (·.key.isStr x)).map (·.val) = kvs.lookup x := by
  rw [← Array.find?_toList]; exact (zBF h).1
theorem KVs.any {kvs : List (Str × Value)} {es : Array DictEntry} (h : KVs kvs es) (x : Str) : es.any (·.key.isStr x) = (kvs.lookup x).isSome := by
  rw [← h.find x, Option.isSome_map, ← Array.find?_toList, ← Array.any_toList]
  cases q : es.toList.any (·.key.isStr x) with
  | true =>
    obtain ⟨e, he, hp⟩ := List.any_eq_true.mp q
    exact (List.find?_isSome.mpr ⟨e, he, hp⟩).symm
  | false =>
    have : es.toList.find? (·.key.isStr x) = none := List.find?_eq_none.mpr fun e he hp => by
      have := List.any_eq_false.mp q e he
      exact this hp
    rw [this]; rfl
theorem forIn1A {α β : Type} {x : α} {l : Array α} {init : β} {f : α → β → Sem (ForInStep β)} {Q : β → Shared → Prop} {M : Model} (hl : l = #[x]) (h : wpAny M A (f x init) (fun r s' => ∃ b', r = .yield b' ∧ Q b' s') E s) : wpAny M A (forIn l init f) Q E s := by
  subst hl
  rw [← Array.forIn_toList]
  exact zBV h
theorem zG8 {kvs : List (Str × Value)} {es : Array DictEntry} {sl : Addr} {tk : Tok} {ln : Nat} {Q : Builtin.Slots.Plan → Shared → Prop} (h : KVs kvs es) (hs : kvs.lookup ("__slots__" : Str) = some (.ref sl)) (ho : kvs.lookup ("obj" : Str) = none) (hl : s.heap.get? sl = some (lst [.str "obj" tk] ln)) (q : ∀ h', (∀ b o', s.heap.get? b = some o' → h'.get? b = some o') → Q ⟨["obj"], false, false, []⟩ { s with heap := h' }) : wpAny (model prog w) A (Builtin.Slots.read "K" [.type "object"] es) Q E s := by
  unfold Builtin.Slots.read
  refine zIt (wpAny_of_eq best_ob ?_)
  refine zIt (wpAny_of_eq names_ob ?_)
  refine zIt (zIt (wpAny_of_eq gd_ob (zIu ?_)))
  refine zIt (wpAny_of_eq gw_ob ?_)
  refine zIt (wpAny_of_eq vs_ob ?_)
  have hf := h.find "__slots__"
  have ha := h.any "obj"
  rw [hs] at hf
  rw [ho] at ha
  cases z : es.find? (·.key.isStr "__slots__") with
  | none => rw [z] at hf; cases hf
  | some e =>
  rw [z] at hf
  have he : e.val = .ref sl := Option.some.inj hf
  dsimp only
  rw [he]
  refine zIt (wpAny_rule ?_)
  refine zIt (zIt (wpAny_load hl (zIu ?_)))
  refine zJ (by decide) ?_
  refine zIt (wpAny_collect_seq sl (.inl rfl) hl rfl rfl (fun h' hk => ?_) (by show 1 ≤ sizeLine; decide))
  refine zS rfl ?_
  refine zIt (wpAny_of_eq vs_ob ?_)
  refine zJ (by decide) ?_
  refine zIt (zBV ?_)
  refine zIt (zIu ?_)
  dsimp only
  refine zIt (zIu ?_)
  have hid : Builtin.Slots.isIdentifier (Str.ofString "obj") = some true := by decide +kernel
  rw [hid]
  refine zIt (zIu ?_)
  refine zJ (by decide) ?_
  refine zJ (by decide) ?_
  refine zJ (by decide) ?_
  refine zIu ⟨_, rfl, ?_⟩
  dsimp only
  refine zIt ?_
  have hmg : Builtin.Slots.mangle (Str.ofString "K") (Str.ofString "obj") = "obj" := by decide +kernel
  refine forIn1A (x := Str.ofString "obj") (by rfl) ?_
  dsimp only
  rw [hmg]
  refine zJ (by decide) ?_
  refine zJ (by rw [ha]; decide) ?_
  refine zJ (by decide) ?_
  refine zIu ⟨_, rfl, ?_⟩
  dsimp only
  refine zIt (zBV ?_)
  refine zJ (by decide) (zIu ⟨_, rfl, ?_⟩)
  dsimp only
  refine zIu ?_
  exact q _ hk
theorem S.setSlot {M : Model} {a : Addr} {o : Obj} {i : Nat} {v : Option Value} {Q : Unit → Shared → Prop} (Y : S X m ψ ω s) (h : ω a = some o) (hi : i < 6) (q : ∀ s', S X m ψ (put ω a { o with slots := (o.slots ++ Array.replicate (i + 1 - o.slots.size) none).setIfInBounds i v }) s' → Q () s') : wpAny M A (setSlotAt a i v) Q E s := by
  unfold setSlotAt
  refine zJ (by rw [sizeLine_eq]; omega) ?_
  have hg := Y.own _ _ h
  have hf : o.isFreed = false := (Heap.get?_some_iff.mp hg.1).2
  exact wpAny_updatePart hg.1 (q _ (Y.upd (f := fun o => { o with slots := (o.slots ++ Array.replicate (i + 1 - o.slots.size) none).setIfInBounds i v }) h (by obtain ⟨c, d, dt, sl⟩ := o; cases dt <;> exact hf)))
theorem S.updCls {M : Model} {a : Addr} {o : Obj} {c : ClassData} {f : ClassData → ClassData} {Q : Unit → Shared → Prop} (Y : S X m ψ ω s) (h : ω a = some o) (hd : o.data = .cls c) (hp : (Data.cls (f c)).pastItsLine = none) (q : ∀ s', S X m ψ (put ω a { o with data := .cls (f c) }) s' → Q () s') : wpAny M A (PySem.updateCls a f) Q E s := by
  have hg := Y.own _ _ h
  have he : Obj.mapCls f o = { o with data := .cls (f c) } := by
    obtain ⟨c1, d1, dt, sl⟩ := o
    cases hd; rfl
  have hfr : ({ o with data := .cls (f c) } : Obj).isFreed = false := by unfold Obj.isFreed; rfl
  unfold PySem.updateCls
  refine zIt (wpAny_load hg.1 ?_)
  rw [hd]
  have Y1 := Y.upd (f := Obj.mapCls f) h (by rw [he]; exact hfr)
  rw [he] at Y1
  refine zIt (wpAny_update hg.1 ?_)
  exact wpAny_lookBehind (Y1.own _ _ (zA _ _ _)).1 hp (q _ Y1)
theorem S.newFields {M : Model} {ty : String} {vs : List Value} {Q : Value → Shared → Prop} (Y : S X m ψ ω s) (hsz : vs.length ≤ 100) (q : ∀ a s', zc X ψ ω s a → S X m (put ψ a { cls := .type ty, data := .fields vs.toArray }) ω s' → Q (.ref a) s') : wpAny M A (newFields ty vs) Q E s := by
  unfold PySem.newFields
  exact Y.newFrozen (Obj.isFreed_of_fields rfl) (by show vs.toArray.size ≤ sizeLine + 2; rw [List.size_toArray, sizeLine_eq]; omega) q
theorem S.getV {M : Model} {a : Addr} {o : Obj} {kvs : List (Str × Value)} {x : Str} {r : Option Value} {Q : Option Value → Shared → Prop} (Y : S X m ψ ω s) (h : ω a = some o) (hd : DI o kvs) (hr : kvs.lookup x = r) (q : Q r s) : wpAny M A (PySem.nsGet a x) Q E s := by
  subst hr; exact Y.getD h hd q
theorem zAQ {x y : Str} {kvs : List (Str × Value)} (h : y ≠ x) : (zA3 x kvs).lookup y = kvs.lookup y := by
  induction kvs with
  | nil => rfl
  | cons p r ih =>
    obtain ⟨px, pv⟩ := p
    rw [zDm]
    by_cases q : px = x
    · subst q
      simp only [if_true, List.lookup_cons]
      rw [show (y == px) = false by simpa using h]
    · simp only [if_neg q, List.lookup_cons]
      rw [ih]
theorem zAC {x y : Str} {v : Value} {kvs : List (Str × Value)} (h : y ≠ x) : (zt x v kvs).lookup y = kvs.lookup y := by
  induction kvs with
  | nil => rw [zEj]; simp only [List.lookup_cons]; rw [show (y == x) = false by simpa using h]
  | cons p r ih =>
    obtain ⟨px, pv⟩ := p
    rw [zDe]
    by_cases q : px = x
    · subst q
      simp only [if_true, List.lookup_cons]
      rw [show (y == px) = false by simpa using h]
    · simp only [if_neg q, List.lookup_cons]
      rw [ih]
noncomputable def kO (g : Addr) (tn tq : Tok) (qu : Str) (ns : Addr) (mro : List Value) (hd : Bool) (sn : List Str) (sl : List (Option Value)) : Obj :=
  { cls := .type "type", data := .cls { name := "K", bases := [.type "object"], mro, ns, qualname := qu, hasDict := hd, slotNames := sn }, slots := (some (.ref g) :: none :: some (.str "K" tn) :: some (.str qu tq) :: sl).toArray }
theorem zDp {M : Model} {a : Addr} {o : Obj} {i : Nat} {r : Option Value} {Q : Option Value → Shared → Prop} (h : s.heap.get? a = some o) (hr : (o.slots[i]?).join = r) (q : Q r s) : wpAny M A (slotAt a i) Q E s := by
  subst hr
  unfold slotAt
  exact zIt (wpAny_loadPart h (zIu q))
theorem for2 {α β : Type} {M : Model} {x y : α} {init : β} {f : α → β → Sem (ForInStep β)} {Q : β → Shared → Prop} (h1 : wpAny M A (f x init) (fun r s' => r = .yield init ∧ s' = s) E s) (h2 : wpAny M A (f y init) (fun r s' => r = .yield init ∧ s' = s) E s) (q : Q init s) : wpAny M A (forIn [x, y] init f) Q E s := by
  rw [List.forIn_cons]
  refine zIt (zIv h1 (fun r s' z => ?_) fun _ _ e => e)
  obtain ⟨rfl, rfl⟩ := z
  dsimp only
  rw [List.forIn_cons]
  refine zIt (zIv h2 (fun r s' z => ?_) fun _ _ e => e)
  obtain ⟨rfl, rfl⟩ := z
  dsimp only
  rw [List.forIn_nil]
  exact zIu q
noncomputable abbrev qK : Str := "cmp_to_key.<locals>.K"
structure KAt (h : Heap) (K : Addr) (kvs : List (Str × Value)) : Prop where
  k : ∃ o cd d, h.get? K = some o ∧ o.cls = .type "type" ∧ o.data = .cls cd ∧ cd.mro = [.ref K, .type "object"] ∧ cd.bases = [.type "object"] ∧ (cd.hasDel = false ∧ cd.qualname = qK) ∧ h.get? cd.ns = some d ∧ DI d kvs
theorem KAt.look {M : Model} {K : Addr} {kvs : List (Str × Value)} {x : Str} {r : Option Value} {Q : Option Value → Shared → Prop} (T : KAt s.heap K kvs) (hr : kvs.lookup x = none → classOwn (.type "object") x = pure r) (hr2 : ∀ v, kvs.lookup x = some v → r = some v) (q : Q r s) : wpAny M A (typeLookup (.ref K) x) Q E s := by
  obtain ⟨o, cd, d, ho, hc, hd, hm, hb, hdl, hn, D⟩ := T.k
  have ex : forall {Q' : Option Value → Shared → Prop}, Q' (kvs.lookup x) s → wpAny M A (nsGet cd.ns x) Q' E s := fun {Q'} q' => by
    unfold PySem.nsGet
    refine zIt (wpAny_loadPart hn ?_)
    rw [D.look x]
    exact zIu q'
  unfold typeLookup
  refine zIt ?_
  show wpAny M A (do return (← classData K).mro) _ _ _
  unfold classData
  refine zIt (zIt (wpAny_load ho ?_))
  rw [hd]
  refine zIu (zIu ?_)
  dsimp only
  rw [hm]
  refine zIt ?_
  rw [List.forIn_cons]
  refine zIt ?_
  have own : forall {Q' : Option Value → Shared → Prop}, Q' (kvs.lookup x) s → wpAny M A (classOwn (.ref K) x) Q' E s := fun {Q'} q' => by
    unfold classOwn classData
    refine zIt (zIt (wpAny_load ho ?_))
    rw [hd]
    exact zIu (ex q')
  refine zIt (own ?_)
  cases z : kvs.lookup x with
  | some v =>
    rw [hr2 v z] at q
    exact zIu (zIu (zIu q))
  | none =>
    refine zIu ?_
    dsimp only
    rw [List.forIn_cons]
    refine zIt (zIt (wpAny_of_eq (hr z) ?_))
    cases r with
    | some v => exact zIu (zIu (zIu q))
    | none =>
      refine zIu ?_
      dsimp only
      rw [List.forIn_nil]
      exact zIu (zIu q)
theorem KAt.mro {M : Model} {K : Addr} {kvs : List (Str × Value)} {Q : List Value → Shared → Prop} (T : KAt s.heap K kvs) (q : Q [.ref K, .type "object"] s) : wpAny M A (mroOf (.ref K)) Q E s := by
  obtain ⟨o, cd, d, ho, hc, hd, hm, hb, hdl, hn, D⟩ := T.k
  show wpAny M A (do return (← classData K).mro) _ _ _
  unfold classData
  refine zIt (zIt (wpAny_load ho ?_))
  rw [hd]
  refine zIu (zIu ?_)
  rw [hm]; exact q
theorem KAt.sub {M : Model} {K : Addr} {kvs : List (Str × Value)} {Q : Bool → Shared → Prop} {c : Value} (T : KAt s.heap K kvs) (q : Q ([Value.ref K, .type "object"].contains c) s) : wpAny M A (isSubtype (.ref K) c) Q E s := by
  unfold isSubtype
  refine zIt (T.mro ?_)
  exact zJ (by simp) (zIu q)
theorem KAt.isType {M : Model} {K : Addr} {kvs : List (Str × Value)} {Q : Bool → Shared → Prop} (T : KAt s.heap K kvs) (q : Q true s) : wpAny M A (isType (.ref K)) Q E s := by
  obtain ⟨o, cd, d, ho, hc, hd, hm, hb, hdl, hn, D⟩ := T.k
  unfold PySem.isType loadHead
  refine zIt (wpAny_loadPart ho ?_)
  rw [hd]
  exact zIu q
theorem super_KK {K : Addr} {kvs : List (Str × Value)} {Q : Value → Shared → Prop} (T : KAt s.heap K kvs)  (hq : ∀ h', h'.get? s.heap.objs.size = some { cls := .type "super", dict := none, data := .fields #[.ref K, .ref K, .ref K], slots := #[] } → (∀ y o, s.heap.get? y = some o → h'.get? y = some o) → Q (.ref s.heap.objs.size) { s with heap := h' }) :
    wpAny (model prog w) A (call (.type "super") [.ref K, .ref K]) Q E s := by
  obtain ⟨o, cd, d, ho, hc, hd, hm, hb, hdl, hn, D⟩ := id T.k
  obtain ⟨h, g, dr, t, os⟩ := s
  refine ks_callType_codesW (Q₁ := fun obj s₁ => obj = .ref h.objs.size ∧ s₁ = ⟨h.push { cls := .type "super", data := .fields #[.none, .none, .none] }, g, dr, t, os⟩) F.ks_called_super (ks_wpAny_checkTypeCall_super ho hd) F.ks_entry_super_init
    (ks_code_super_new _ _ ⟨rfl, rfl⟩) fun obj s₁ h₁ => ?_
  obtain ⟨rfl, rfl⟩ := h₁
  have up : ∀ y o, h.get? y = some o → (h.push { cls := .type "super", data := .fields #[.none, .none, .none] }).get? y = some o := fun y o e => Heap.get?_push_of_some _ e
  have hso : (h.push { cls := .type "super", data := .fields #[.none, .none, .none] }).get? h.objs.size = some { cls := .type "super", dict := none, data := .fields #[.none, .none, .none], slots := #[] } := Heap.get?_push_at rfl rfl
  have ho' := up _ _ ho
  have hn' := up _ _ hn
  have T' : KAt (h.push { cls := .type "super", data := .fields #[.none, .none, .none] }) K kvs := ⟨⟨o, cd, d, ho', hc, hd, hm, hb, hdl, hn', D⟩⟩
  refine ⟨⟨_, hso, rfl⟩, F.ks_initArgs_super _ _ _, ?_⟩
  unfold Builtin.«super.__init__» noKeywords
  have hb2 : [Value.ref K, .type "object"].contains (Value.ref K) = true := by simp
  have hne : (Value.ref K == Value.none) = false := rfl
  repeat (first | (with_reducible refine KAt.isType (kvs := kvs) (s := ⟨_, _, _, _, _⟩) T' ?_) | (with_reducible refine KAt.sub (kvs := kvs) (s := ⟨_, _, _, _, _⟩) T' ?_; rw [hb2]) | (with_reducible refine ks_wpAny_super_set3 hso ?_) | wp_step)
  all_goals first
    | (intro h' e k; exact ⟨rfl, hq h' e fun y o ey => k y o (Nat.ne_of_lt (Heap.lt_size ey)) (up y o ey)⟩)
    | (refine ks_wpAny_super_set3 hso ?_; intro h' e k; exact ⟨rfl, hq h' e fun y o ey => k y o (Nat.ne_of_lt (Heap.lt_size ey)) (up y o ey)⟩)
noncomputable def bndV (id : String) (v : Value) : Obj := { cls := .type "builtin_function_or_method", data := .fields #[.builtin id, v] }
theorem zFQ : typeOf (.builtin "object.__init_subclass__") = pure (.type "classmethod_descriptor") := by show builtinType _ = _; rw [builtinType_eq_fast]; kernel_rfl
theorem own_isub : classOwn (.type "object") "__init_subclass__" = pure (some (.builtin "object.__init_subclass__")) := by show pure (builtinOwn _ _) = _; kernel_rfl
theorem zDT {K : Addr} {kvs : List (Str × Value)} {P : Fin → Shared → Prop} {M : Model} (T : KAt s.heap K kvs) (h : P (.done (.ret (.ref s.heap.objs.size))) { s with heap := s.heap.push (bndV "object.__init_subclass__" (.ref K)) }) :
    wpAny M A (Builtin.«classmethod_descriptor.__get__» ⟨[.builtin "object.__init_subclass__", .none, .ref K], []⟩) P E s := by
  unfold Builtin.«classmethod_descriptor.__get__»
  refine zIt (wpAny_of_eq (a := (.builtin "object.__init_subclass__", none, some (.ref K))) (by first | rfl | kernel_rfl) ?_)
  dsimp only
  refine zIt (wpAny_of_eq (a := .ref K) rfl ?_)
  refine zIt (T.isType ?_)
  refine zAL rfl ?_
  refine zIt (T.sub ?_)
  refine zAL (by kernel_rfl) ?_
  exact zIt (wpAny_newObj_type (zIu h))
theorem ga_KK {so K : Addr} {kvs : List (Str × Value)} {tk : Tok} {Q : Fin → Shared → Prop} (hso : s.heap.get? so = some { cls := .type "super", dict := none, data := .fields #[.ref K, .ref K, .ref K], slots := #[] }) (T : KAt s.heap K kvs)
    (hno : Looks (model prog w) s.heap (opaqueClassAbove (.ref K)) none) (hkv : kvs.lookup ("__init_subclass__" : Str) = none)
    (hq : Q (.done (.ret (.ref s.heap.objs.size))) { s with heap := s.heap.push (bndV "object.__init_subclass__" (.ref K)) }) :
    wpAny (model prog w) A (Builtin.«super.__getattribute__» ⟨[.ref so, .str "__init_subclass__" tk], []⟩) Q E s := by
  obtain ⟨h, g, d, t, os⟩ := s
  have hdt : ({ cls := .type "super", dict := none, data := .fields #[.ref K, .ref K, .ref K], slots := #[] } : Obj).data = .fields #[.ref K, .ref K, .ref K] := rfl
  have f0 : (#[.ref K, .ref K, .ref K] : Array Value)[0]? = some (.ref K) := rfl
  have f1 : (#[.ref K, .ref K, .ref K] : Array Value)[1]? = some (.ref K) := rfl
  have f2 : (#[.ref K, .ref K, .ref K] : Array Value)[2]? = some (.ref K) := rfl
  have hl : (List.dropWhile (· != Value.ref K) [.ref K, .type "object"]).drop 1 = [.type "object"] := by simp
  have hlk := zBO.lookup
  have hn : (Str.ofString "__init_subclass__" == ("__class__" : Str)) = false := by decide +kernel
  have hnn : (Value.ref K == Value.none) = false := rfl
  have hself : (Value.ref K == Value.ref K) = true := by simp
  have hTi : (⟨h, g, d, t, os⟩ : Shared).TypeIs (.builtin "object.__init_subclass__") "classmethod_descriptor" := zFQ
  unfold Builtin.«super.__getattribute__»
  repeat (first
    | (with_reducible refine wpAny_field hso hdt f0 ?_) | (with_reducible refine wpAny_field hso hdt f1 ?_) | (with_reducible refine wpAny_field hso hdt f2 ?_)
    | (with_reducible refine ks_wpAny_notOpaque hno ?_)
    | (with_reducible refine KAt.mro (kvs := kvs) (s := ⟨_, _, _, _, _⟩) T ?_; rw [hl])
    | (with_reducible refine wpAny_of_eq own_isub ?_)
    | (with_reducible refine wpAny_of_eq zFQ ?_)
    | (with_reducible refine wpAny_of_eq hlk ?_)
    | (with_reducible refine wpAny_call_entry zBO hTi zBZ ?_ (zCG _ _ _); rw [if_pos hself]; refine zDT (s := ⟨_, _, _, _, _⟩) T ?_)
    | (with_reducible refine ⟨_, rfl, ?_⟩)
    | wp_step
    | dsimp only)
  all_goals exact hq
theorem sub_tm : isSubtype (.type "type") (.type "module") = pure false := by rw [isSubtype_type]; kernel_rfl
theorem zFp {K : Addr} {kvs : List (Str × Value)} {Q : Unit → Shared → Prop} {M : Model} (T : KAt s.heap K kvs) (q : Q () s) : wpAny M A (checkBoundCall "object.__init_subclass__" ⟨[.ref K], []⟩) Q E s := by
  obtain ⟨o, cd, d, ho, hc, hd, hm, hb, hdl, hn, D⟩ := id T.k
  have hT : s.TypeIs (.ref K) "type" := ⟨_, ho, hc⟩
  have h1 := sub_tm
  have hs : Manifest.signature? "object.__init_subclass__" = some ⟨.noArgs, "object.__init_subclass__", "__init_subclass__", .cls, []⟩ := by kernel_rfl
  have hk : builtinKind "object.__init_subclass__" = some .classMethod := by kernel_rfl
  have hv : Manifest.varargsMethods.contains "object.__init_subclass__" = false := by decide +kernel
  have hq := hdl.2
  unfold checkBoundCall
  rw [hs, hk]
  dsimp only
  refine zJ (by decide) ?_
  refine zIt (wpAny_isInstance hT h1 ?_)
  refine zJ (by rw [hv]; decide) ?_
  refine zIt (T.isType ?_)
  refine zS rfl ?_
  refine zIt (zIu ?_)
  dsimp only
  unfold classData
  refine zIt (zIt (wpAny_load ho ?_))
  rw [hd]
  refine zIu ?_
  refine zIt (wpAny_typeOf hT ?_)
  refine zS (by decide) ?_
  rw [hq]
  refine wpAny_of_eq (a := ()) ?_ q
  kernel_rfl
theorem KAt.keeps {h h' : Heap} {K : Addr} {kvs : List (Str × Value)} (T : KAt h K kvs) (k : ∀ b o, h.get? b = some o → h'.get? b = some o) : KAt h' K kvs :=
  by obtain ⟨o, cd, d, ho, hc, hd, hm, hb, hdl, hn, D⟩ := T.k; exact ⟨⟨o, cd, d, k _ _ ho, hc, hd, hm, hb, hdl, k _ _ hn, D⟩⟩
theorem zHO : entryFor table "object.__init_subclass__" = some Builtin.«object.__init_subclass__» := entryFor_of_tree (by kernel_rfl)
theorem zH1 {id : String} {v : Value} {x : Addr} {vs : List Value} {Q : Value → Shared → Prop} {b : Builtin} (ho : s.heap.get? x = some (bndV id v)) (hck : ∀ {Q' : Unit → Shared → Prop}, Q' () s → wpAny (model prog w) A.in1 (checkBoundCall id ⟨v :: vs, []⟩) Q' (fun _ _ => False) s) (hent : entryFor table id = some b) (hq : id.startsWith "lifetime." = false) (hcan : (id == "lifetime.sure#open") = false := by decide)
    (h : wpAny (model prog w) (A.under (.builtin id ⟨v :: vs, []⟩)) (b ⟨v :: vs, []⟩)
      (fun fin s' => match fin with | .done f => (match f with | .ret v => Q v s' | _ => False) | .again c' => c'.quiet = true ∧ codeAny (model prog w) A c' (fun r s' => match r with | .ok (.ret v) => Q v s' | .ok _ => False | .error e => E e s') s') E s) : wpAny (model prog w) A (call (.ref x) vs) Q E s := by
  refine wpAny_call (codeAny_of_tree ?_)
  show wpAny _ A.in1 (callAny (.ref x) ⟨vs, []⟩) _ _ s
  simp only [callAny]
  refine zIt (wpAny_load ho ?_)
  simp only [bndV, show (Value.type "builtin_function_or_method" == Value.type "method" || Value.type "builtin_function_or_method" == Value.type "builtin_function_or_method" || Value.type "builtin_function_or_method" == Value.type "method-wrapper") = true by decide, if_true]
  refine zHj (by decide) ?_
  refine zIt (zIv (hck ?_) (fun _ _ z => z) fun _ _ z => z.elim)
  refine zIt (zIu (zIu ?_))
  refine ⟨Code.quiet_builtin _ hq, codeAny_builtin hent (zIv h (fun fin s' z => ?_) fun _ _ z => z)⟩
  cases fin with
  | done f => cases f <;> first | exact z | exact z.elim
  | again c' => exact z
theorem init_sub {K : Addr} {kvs : List (Str × Value)} {Q : Value → Shared → Prop} (T : KAt s.heap K kvs) (hno : ∀ h', (∀ b o, s.heap.get? b = some o → h'.get? b = some o) → Looks (model prog w) h' (opaqueClassAbove (.ref K)) none) (hkv : kvs.lookup ("__init_subclass__" : Str) = none) (hq : ∀ h' tk, (∀ b o, s.heap.get? b = some o → h'.get? b = some o) → Q .none { s with heap := h', toks := tk }) :
    wpAny (model prog w) A (call (.type "super") [.ref K, .ref K]) (fun sup s1 => wpAny (model prog w) A (holding [sup] (getAttr sup "__init_subclass__")) (fun f s2 => wpAny (model prog w) A (call f [] []) Q E s2) E s1) E s := by
  refine super_KK T fun h1 hso k1 => ?_
  have hlk := F.ks_slot_super_ga.lookup
  have hT : ∀ t', ({ s with heap := h1, toks := t' } : Shared).TypeIs (.ref s.heap.objs.size) "super" := fun _ => ⟨_, hso, rfl⟩
  generalize s.heap.objs.size = so at hso hT ⊢
  refine zIw ?_
  unfold getAttr getAttrBy
  refine zIt (wpAny_mkText (zIw (zIt (wpAny_typeOf (hT _) (zIt (wpAny_of_eq hlk ?_))))))
  show wpAny _ _ (getAttrByItsOwn (.ref so) (.str "__init_subclass__" s.toks) (.type "super") (.builtin "super.__getattribute__") true false) _ _ _
  unfold getAttrByItsOwn hookBefore callGetattribute boundAndCalled
  refine zIt (wpAny_of_eq (show (if onTheHeap (.type "super") then typeLookup (.type "super") "__getattr__" else pure none) = pure none from rfl) ?_)
  refine zIt (wpAny_attempt (zIw ?_))
  show wpAny _ _ (bindSpecial (.builtin "super.__getattribute__") (.ref so) >>= _) _ _ _
  refine zIt (wpAny_of_eq (F.ks_slot_super_ga.bind _) ?_)
  refine zIv (Q := fun v s' => v = .ref h1.objs.size ∧ s' = { s with heap := h1.push (bndV "object.__init_subclass__" (.ref K)), toks := s.toks + 1 }) (E := fun _ _ => False)
    (wpAny_call_entry F.ks_slot_super_ga (hT _) F.ks_entry_super_ga (ga_KK (s := { s with heap := h1, toks := s.toks + 1 }) hso (T.keeps k1) (hno _ k1) hkv ⟨_, rfl, rfl, rfl⟩) (F.ks_gaArgs_super _ _)) (fun v s' hv => ?_) fun _ _ z => z.elim
  obtain ⟨rfl, rfl⟩ := hv
  refine zIu ?_
  refine zH1 (by exact Heap.get?_push_size _ rfl) (fun q => zFp (s := { s with heap := h1.push (bndV "object.__init_subclass__" (.ref K)), toks := s.toks + 1 }) (T.keeps fun b o e => Heap.get?_push_of_some _ (k1 b o e)) q) zHO (by decide +kernel) (by decide) ?_
  unfold Builtin.«object.__init_subclass__»
  refine zS rfl (zIt (zIu (zIu ?_)))
  exact hq _ _ fun b o e => Heap.get?_push_of_some _ (k1 b o e)
theorem S.asP {a : Addr} {o o' : Obj} (Y : S X m (put ψ a o) ω s) (e : o = o') : S X m (put ψ a o') ω s := e ▸ Y
noncomputable def mdO (K : Addr) (tk : Tok) : Obj := { cls := .type "member_descriptor", data := .fields #[.str "obj" tk, .ref K, .builtin "proto.slot", .builtin "proto.slot#set", rawInt 0] }
theorem DI.size {o : Obj} {kvs : List (Str × Value)} (d : DI o kvs) : ∃ es ep, o.data = .dict es ep ∧ es.size = kvs.length := by
  obtain ⟨hc, es, ep, hd, h⟩ := d
  exact ⟨es, ep, hd, by rw [← Array.length_toList]; exact h.length.symm⟩
theorem S.setDV {M : Model} {a : Addr} {o : Obj} {kvs : List (Str × Value)} {x : Str} {v : Value} {Q : Unit → Shared → Prop} (Y : S X m ψ ω s) (h : ω a = some o) (hd : DI o kvs) (hl : kvs.length < 100) (q : ∀ s' o', DI o' (zt x v kvs) → S X m ψ (put ω a o') s' → Q () s') : wpAny M A (PySem.nsSetByValue a x v) Q E s := by
  obtain ⟨es, ep, hdat, hsz⟩ := hd.size
  unfold nsSetByValue
  refine zIt (wpAny_loadPart (Y.own _ _ h).1 ?_)
  rw [hdat]
  dsimp only
  refine zJ (by rw [sizeLine_eq]; simp; omega) ?_
  exact Y.setD h hd q
theorem zHG {M : Model} {g K n2 : Addr} {tn tq : Tok} {mro : List Value} {sl : List (Option Value)} {d : Obj} {kvs : List (Str × Value)} {Q : Unit → Shared → Prop} (Y : S X m ψ ω s) (gK : ω K = some (kO g tn tq qK n2 mro true [] sl)) (gn : ω n2 = some d) (D : DI d kvs) (ho : kvs.lookup ("obj" : Str) = none) (hsz : kvs.length < 100) (hne : n2 ≠ K) (q : ∀ s' md tk d' ψ', Le ψ ψ' → ψ' md = some (mdO K tk) → DI d' (zt "obj" (.ref md) kvs) → S X m ψ' (put (put ω n2 d') K (kO g tn tq qK n2 mro false ["obj"] sl)) s' → Q () s') : wpAny M A (Builtin.Slots.install (.ref K) n2 [.type "object"] ⟨["obj"], false, false, []⟩) Q E s := by
  unfold Builtin.Slots.install
  dsimp only
  refine zIt ?_
  refine zBV ?_
  refine zIt (Y.getV gn D ho ?_)
  refine zS rfl ?_
  refine zIt (wpAny_mkText ?_)
  have Y1 := Y.tok (tk := s.toks + 1)
  refine zIt (Y1.newFields (by simp) fun md s2 F2 Y2 => ?_)
  have l2 := zL (o := mdO K s.toks) F2.p
  have Y2 := Y2.asP (o' := mdO K s.toks) (by kernel_rfl)
  refine zIt (Y2.setDV gn D hsz fun s3 d3 D3 Y3 => ?_)
  refine zIu ⟨_, rfl, ?_⟩
  refine zIt (zBV ?_)
  refine zIt (wpAny_of_eq gd_ob ?_)
  refine zJ (by decide) (zIu ⟨_, rfl, ?_⟩)
  refine zJ (by decide) ?_
  have gK3 : put ω n2 d3 K = some (kO g tn tq qK n2 mro true [] sl) := by rw [zC (Ne.symm hne)]; exact gK
  refine Y3.updCls gK3 rfl (by rfl) fun s4 Y4 => ?_
  exact q s4 md s.toks d3 _ l2 (zA _ _ _) D3 Y4
theorem zE2 {α β : Type} {M : Model} {l : Array α} {b : β} {f : α → β → Sem (ForInStep β)} {Q : β → Shared → Prop} (h : ∀ x ∈ l.toList, wpAny M A (f x b) (fun r s' => r = .yield b ∧ s' = s) E s) (q : Q b s) : wpAny M A (forIn l b f) Q E s := by
  rw [← Array.forIn_toList]
  generalize l.toList = xs at h
  induction xs with
  | nil => rw [List.forIn_nil]; exact zIu q
  | cons x r ih =>
    rw [List.forIn_cons]
    refine zIt (zIv (h x (by simp)) (fun r s' z => ?_) fun _ _ e => e)
    obtain ⟨rfl, rfl⟩ := z
    exact ih fun y hy => h y (by simp [hy])
theorem KVs.mem {kvs : List (Str × Value)} {es : Array DictEntry} (h : KVs kvs es) : ∀ e ∈ es.toList, ∃ kv ∈ kvs, (∃ tk, e.key = .str kv.1 tk) ∧ e.val = kv.2 := by
  unfold KVs at h
  generalize es.toList = l at h
  induction h with
  | nil => intro e he; cases he
  | @cons kv e kvs es h0 _ ih =>
    intro e' he
    cases he with
    | head => exact ⟨kv, by simp, h0⟩
    | tail _ he => obtain ⟨kv', hm, r⟩ := ih e' he; exact ⟨kv', by simp [hm], r⟩
def zAb (ψ : PM) (v : Value) : Prop := (∃ T, (∀ s : Shared, Sub ψ s.heap → s.TypeIs v T) ∧ typeLookup (.type T) "__set_name__" = pure none) ∧ ∀ k, Builtin.heldUnderItsOwnName k v = false
theorem zAb.le {v : Value} (h : zAb φ v) (l : Le φ ψ) : zAb ψ v := let ⟨⟨T, a, b⟩, c⟩ := h; ⟨⟨T, fun s hs => a s fun x o e => hs x o (l x o e), b⟩, c⟩
theorem mem_del {x : Str} {kvs : List (Str × Value)} {kv : Str × Value} (h : kv ∈ zA3 x kvs) : kv ∈ kvs := by
  induction kvs with
  | nil => exact h
  | cons p r ih =>
    rw [zDi] at h
    split at h
    · simp [h]
    · rcases List.mem_cons.mp h with rfl | h
      · simp
      · simp [ih h]
theorem zFZ {x : Str} {v : Value} {kvs : List (Str × Value)} {kv : Str × Value} (h : kv ∈ zt x v kvs) : kv ∈ kvs ∨ kv.2 = v := by
  induction kvs with
  | nil => rw [zEj] at h; rw [List.mem_singleton] at h; subst h; exact .inr rfl
  | cons p r ih =>
    rw [zHK] at h
    split at h
    · rcases List.mem_cons.mp h with rfl | h
      · exact .inr rfl
      · exact .inl (by simp [h])
    · rcases List.mem_cons.mp h with rfl | h
      · exact .inl (by simp)
      · rcases ih h with h | h
        · exact .inl (by simp [h])
        · exact .inr h
theorem len_del {x : Str} {kvs : List (Str × Value)} : (zA3 x kvs).length ≤ kvs.length := by
  induction kvs with
  | nil => exact Nat.le_refl _
  | cons p r ih =>
    rw [zDi]
    split <;> simp; omega
theorem noteOb (K : Addr) : Builtin.noteSubclassOfBuiltin "object" K = pure () := by kernel_rfl
theorem set_md : typeLookup (.type "member_descriptor") "__set_name__" = pure none := by rw [typeLookup_type, builtinLookup_eq_fast]; kernel_rfl
theorem set_none : typeLookup (.type "NoneType") "__set_name__" = pure none := by rw [typeLookup_type, builtinLookup_eq_fast]; kernel_rfl
theorem set_str : typeLookup (.type "str") "__set_name__" = pure none := by rw [typeLookup_type, builtinLookup_eq_fast]; kernel_rfl
theorem set_int : typeLookup (.type "int") "__set_name__" = pure none := by rw [typeLookup_type, builtinLookup_eq_fast]; kernel_rfl
theorem set_fn : typeLookup (.type "function") "__set_name__" = pure none := by rw [typeLookup_type, builtinLookup_eq_fast]; kernel_rfl
theorem set_list : typeLookup (.type "list") "__set_name__" = pure none := by rw [typeLookup_type, builtinLookup_eq_fast]; kernel_rfl
theorem zIQ : typeLookup (.type "tuple") "__set_name__" = pure none := by rw [typeLookup_type, builtinLookup_eq_fast]; kernel_rfl
theorem zAb.none : zAb ψ .none := ⟨⟨"NoneType", fun s _ => rfl, set_none⟩, fun _ => rfl⟩
theorem zAb.str {x : Str} {t : Tok} : zAb ψ (.str x t) := ⟨⟨"str", fun s _ => rfl, set_str⟩, fun _ => rfl⟩
theorem zAb.int {x : Int} {t : Tok} : zAb ψ (.int x t) := ⟨⟨"int", fun s _ => rfl, set_int⟩, fun _ => rfl⟩
theorem zAb.ref {a : Addr} {o : Obj} {T : String} (h : ψ a = some o) (hc : o.cls = .type T) (ht : typeLookup (.type T) "__set_name__" = pure Option.none) : zAb ψ (.ref a) := ⟨⟨T, fun s hs => ⟨_, hs _ _ h, hc⟩, ht⟩, fun _ => rfl⟩
theorem new_ob : classOwn (.type "object") "__new__" = pure (some (.builtin "object.__new__")) := by show pure (builtinOwn _ _) = _; kernel_rfl
theorem ends_ob : "object.__new__".endsWith ".__new__" = true := by decide +kernel
theorem zGt {M : Model} {K : Addr} {kvs : List (Str × Value)} {o : Obj} {Q : Unit → Shared → Prop} (T : KAt s.heap K kvs) (h : s.heap.get? K = some o) (h4 : (o.slots[4]?).join = some (.builtin "object.__new__")) (hn : kvs.lookup ("__new__" : Str) = none) (q : Q () s) : wpAny M A (Bind.refreshMaker K) Q E s := by
  unfold Bind.refreshMaker
  refine zIt (zDp h h4 ?_)
  refine zJ (by decide) ?_
  refine zIt (T.look (fun _ => new_ob) (fun v e => by rw [hn] at e; cases e) ?_)
  dsimp only
  exact zJ (by rw [ends_ob]; decide) (zIu q)
theorem zIC {M : Model} {K : Addr} {h : Heap} (hs : Sub ψ h) (hno : zD ψ cStatics "thirdparty.any" none) : Looks M h (opaqueClassAbove (.ref K)) none := fun A Q E s' k q => by
  have hs' : Sub ψ s'.heap := fun x o e => k x o (hs x o e)
  obtain ⟨mg, ng, hmg⟩ := hno.ns hs'
  unfold opaqueClassAbove anyOpaqueLoaded
  dsimp only
  refine zIt (zIt (wpAny_nsGet ng ?_))
  rw [hmg]
  exact zIu (zS rfl (zIu q))
noncomputable abbrev kvF (md : Addr) (kvs : List (Str × Value)) : List (Str × Value) := zt "__doc__" .none (zt "obj" (.ref md) (zA3 "__qualname__" kvs))
theorem zIa : Builtin.notOverATurnedClass [.type "object"] = pure () := by kernel_rfl
theorem ext_ob : Builtin.extendedBase [.type "object"] = pure (.type "object") := by kernel_rfl
theorem zDJ : isSubtype (.type "tuple") (.type "tuple") = pure true := by rw [isSubtype_type]; kernel_rfl
theorem zES : isSubtype (.type "dict") (.type "dict") = pure true := by rw [isSubtype_type]; kernel_rfl
theorem zGm : Builtin.mroHook? (.type "type") = pure none := by kernel_rfl
theorem lin_ob : Builtin.linearize [.type "object"] mroOf = pure [.type "object"] := by kernel_rfl
theorem made_ob : Bind.madeBy (.type "object") = pure (some "object.__new__") := by kernel_rfl
section
variable {M : Model} {β γ : Type} {f : β → Sem γ} {Q : γ → Shared → Prop}
theorem S.bGetV {a : Addr} {o : Obj} {kvs : List (Str × Value)} {x : Str} {r : Option Value} {f : Option Value → Sem γ} (Y : S X m ψ ω s) (h : ω a = some o) (hd : DI o kvs) (hr : kvs.lookup x = r) (q : wpAny M A (f r) Q E s) : wpAny M A (PySem.nsGet a x >>= f) Q E s := zIt (Y.getV h hd hr q)
theorem S.bSetSlot {a : Addr} {o o' : Obj} {i : Nat} {v : Option Value} {f : Unit → Sem γ} (Y : S X m ψ (put ω a o) s) (hi : i < 6) (e : { o with slots := (o.slots ++ Array.replicate (i + 1 - o.slots.size) none).setIfInBounds i v } = o')
    (q : ∀ s', S X m ψ (put ω a o') s' → wpAny M A (f ()) Q E s') : wpAny M A (setSlotAt a i v >>= f) Q E s :=
  zIt (Y.setSlot (zA _ _ _) hi fun s' Y' => q s' (by rw [zA7, e] at Y'; exact Y'))
theorem S.bUpdCls {a : Addr} {o o' : Obj} {c : ClassData} {g : ClassData → ClassData} {f : Unit → Sem γ} (Y : S X m ψ (put ω a o) s) (hd : o.data = .cls c) (hp : (Data.cls (g c)).pastItsLine = none) (e : ({ o with data := .cls (g c) } : Obj) = o')
    (q : ∀ s', S X m ψ (put ω a o') s' → wpAny M A (f ()) Q E s') : wpAny M A (PySem.updateCls a g >>= f) Q E s :=
  zIt (Y.updCls (zA _ _ _) hd hp fun s' Y' => q s' (by rw [zA7, e] at Y'; exact Y'))
theorem S.bDelD {a b : Addr} {o p : Obj} {kvs kvs' : List (Str × Value)} {x : Str} {f : Bool → Sem γ} (Y : S X m ψ (put (put ω a o) b p) s) (hab : a ≠ b) (hd : DI o kvs) (e : (if (kvs.lookup x).isSome then zA3 x kvs else kvs) = kvs') (q : ∀ s' o', DI o' kvs' → S X m ψ (put (put ω a o') b p) s' → wpAny M A (f (kvs.lookup x).isSome) Q E s') : wpAny M A (PySem.nsDel a x >>= f) Q E s :=
  zIt (Y.delD (by rw [zC hab]; exact zA _ _ _) hd fun s' o' D' Y' => q s' o' (e ▸ D') (by rw [zCN hab] at Y'; exact Y'))
theorem S.bSetD {a b : Addr} {o p : Obj} {kvs : List (Str × Value)} {x : Str} {v : Value} {f : Unit → Sem γ} (Y : S X m ψ (put (put ω a o) b p) s) (hab : a ≠ b) (hd : DI o kvs) (q : ∀ s' o', DI o' (zt x v kvs) → S X m ψ (put (put ω a o') b p) s' → wpAny M A (f ()) Q E s') : wpAny M A (PySem.nsSet a x v >>= f) Q E s :=
  zIt (Y.setD (by rw [zC hab]; exact zA _ _ _) hd fun s' o' D' Y' => q s' o' D' (by rw [zCN hab] at Y'; exact Y'))
end
theorem tnew_ok {g ns sl : Addr} {tn tk : Tok} {ln : Nat} {oD : Obj} {kvs : List (Str × Value)} {Q : Fin → Shared → Prop} (Y : S X m ψ ω s) (hg : ψ g = some (zFW [.type "object"])) (hn : ω ns = some oD) (D : DI oD kvs) (hmods : ∃ o, ψ sysModules = some o) (hmod : (kvs.lookup ("__module__" : Str)).isSome) (hs : kvs.lookup ("__slots__" : Str) = some (.ref sl)) (ho : kvs.lookup ("obj" : Str) = none) (hsl : ψ sl = some (lst [.str "obj" tk] ln)) (hq : ∃ tq, kvs.lookup ("__qualname__" : Str) = some (.str qK tq)) (hdoc : kvs.lookup ("__doc__" : Str) = none) (hlen : kvs.length < 100) (hnone : kvs.lookup ("__new__" : Str) = none ∧ kvs.lookup ("__init_subclass__" : Str) = none ∧ kvs.lookup ("__class_getitem__" : Str) = none ∧ kvs.lookup ("__classcell__" : Str) = none ∧ kvs.lookup ("__classdictcell__" : Str) = none ∧ kvs.lookup ("__del__" : Str) = none) (heq : (kvs.lookup ("__eq__" : Str)).isSome = true) (hhash : (kvs.lookup ("__hash__" : Str)).isSome = true) (hns : ∀ kv ∈ kvs, zAb ψ kv.2) (hany : zD ψ cStatics "thirdparty.any" none) (q : ∀ K n2 d md tk tq ψ' s', Le ψ ψ' → ψ' K = some (kO g tn tq qK n2 [.ref K, .type "object"] false ["obj"] [some (.builtin "object.__new__"), some (.bool false)]) → ψ' n2 = some d → DI d (kvF md kvs) → ψ' md = some (mdO K tk) → S X m ψ' ω s' → Q (.done (.ret (.ref K))) s') : wpAny (model prog w) A (Builtin.«type.__new__» ⟨[.type "type", .str "K" tn, .ref g, .ref ns], []⟩) Q E s := by
  obtain ⟨hc, es, ep, hd, hall⟩ := id D
  have Hg : s.heap.get? g = some (zFW [.type "object"]) := Y.sub _ _ hg
  have Hn : s.heap.get? ns = some oD := (Y.own _ _ hn).1
  have Tg : s.TypeIs (.ref g) "tuple" := ⟨_, Hg, rfl⟩
  have Tn : s.TypeIs (.ref ns) "dict" := ⟨_, Hn, hc⟩
  have h1 := zDJ
  have h2 := zES
  have h3 := zGS
  have hnm : (ns == sysModules) = false := by
    rw [beq_eq_false_iff_ne]
    intro q
    obtain ⟨o, ho⟩ := hmods
    have := (Y.own _ _ hn).2.1
    rw [q, ho] at this; cases this
  have hlen2 : es.toList.length = kvs.length := hall.length.symm
  have D2 : DI ({ cls := .type "dict", data := .dict es } : Obj) kvs := ⟨rfl, _, _, rfl, hall⟩
  obtain ⟨tq, hq⟩ := hq
  have hmd := KVs.any hall "__module__"
  rw [hmod] at hmd
  have hdel := KVs.any hall "__del__"
  rw [hnone.2.2.2.2.2] at hdel
  have hsz : sizeOk (.dict es) := by show es.size ≤ sizeLine + 1; rw [sizeLine_eq, ← Array.length_toList]; omega
  have hqd : (if (kvs.lookup ("__qualname__" : Str)).isSome then zA3 "__qualname__" kvs else kvs) = zA3 "__qualname__" kvs := by rw [hq]; rfl
  have ldel : ∀ {x : Str} {r : Option Value}, x ≠ ("__qualname__" : Str) → kvs.lookup x = r → (zA3 "__qualname__" kvs).lookup x = r := fun h e => (zAQ h).trans e
  have hfil : ∀ K : Addr, List.filter (fun x => x != Value.ref K) [.ref K, .type "object"] = [.type "object"] := fun K => by simp
  unfold Builtin.«type.__new__»
  refine bEq (some "K") rfl ?_
  refine bIs Tg h1 (zJ (by decide) ?_)
  refine bIs Tn h2 (zJ (by decide) ?_)
  refine bSeq Hg rfl ?_
  refine zJ (by decide) ?_
  refine zIt (zBV (zIt (zIu (zJ (by decide) (zIu ⟨_, rfl, ?_⟩)))))
  refine zIt (zBV (zIt (wpAny_of_eq (a := .type "type") (by rfl) (zIt (wpAny_of_eq (a := true) h3 (zS rfl (zIu ⟨_, rfl, ?_⟩)))))))
  refine zJ (by decide) ?_
  refine bEq () zIa ?_
  refine bEq (.type "object") (by show Builtin.extendedBase [.type "object"] = _; exact ext_ob) ?_
  refine zJ (by rw [hnm]; decide) ?_
  refine zIt (wpAny_dictEntries Hn hd (zIt (wpAny_specialOf Tn PySem.F.slot_dict_iter.lookup ?_)))
  refine zS (by simp) (zIt (zIu ?_))
  refine zIt (zIw (zG8 hall hs ho (Y.sub _ _ hsl) fun h' hk => ?_))
  refine (Y.kept (tk := s.toks) hk).bNewObj (by rfl) hsz fun n2 s2 F2 Y2 => ?_
  refine zJ (by show ¬ (!(es.any fun x => x.key.isStr ("__module__" : Str))) = true; rw [hmd]; decide) ?_
  refine zIt (zJ (by decide +kernel) (zIu ?_))
  refine zJ (by decide +kernel) ?_
  refine Y2.bGetV (zA _ _ _) D2 hq ?_
  refine Y2.bGetV (zA _ _ _) D2 hq ?_
  refine bEq (some qK) rfl ?_
  refine zFn ?_
  refine Y2.bGetV (zA _ _ _) D2 hdoc ?_
  refine Y2.bAlloc (by rfl) fun K s3 F3 Y3 => ?_
  have hK2 : K ≠ n2 := fun q => by have := F3.o; rw [q, zA] at this; cases this
  have gn : ∀ {d o : Obj}, put (put ω n2 d) K o n2 = some d := fun {d o} => by rw [zC (Ne.symm hK2)]; exact zA _ _ _
  have gK : ∀ {d o : Obj}, put (put ω n2 d) K o K = some o := fun {d o} => zA _ _ _
  refine zS rfl ?_
  refine Y3.bSetSlot (by decide) rfl fun s4 Y4 => ?_
  refine Y4.bSetSlot (by decide) rfl fun s5 Y5 => ?_
  refine Y5.bSetSlot (o' := kO g tn tq qK n2 [] true [] []) (by decide) (by kernel_rfl) fun s6 Y6 => ?_
  refine Y6.bDelD (Ne.symm hK2) D2 hqd fun s7 d7 D7 Y7 => ?_
  refine Y7.bGetV gn D7 (ldel (by decide) hnone.1) ?_
  refine zIt ?_
  refine for2 ?_ ?_ ?_
  · exact Y7.bGetV gn D7 (ldel (by decide) hnone.2.1) (zIu ⟨rfl, rfl⟩)
  · exact Y7.bGetV gn D7 (ldel (by decide) hnone.2.2.1) (zIu ⟨rfl, rfl⟩)
  refine Y7.bGetV gn D7 (ldel (by decide) hnone.2.2.2.1) ?_
  refine Y7.bGetV gn D7 (ldel (by decide) hnone.2.2.2.2.1) ?_
  refine bEq none zGm ?_
  refine bEq [.type "object"] (by show Builtin.linearize [.type "object"] mroOf = _; exact lin_ob) ?_
  refine zFn ?_
  refine bEq false (by rw [hfil K]; kernel_rfl) ?_
  refine Y7.bUpdCls (o' := kO g tn tq qK n2 [.ref K, .type "object"] true [] []) rfl (by rfl) (by unfold kO; simp only [hdel]; rfl) fun s8 Y8 => ?_
  refine bEq (some "object.__new__") made_ob ?_
  refine Y8.bSetSlot (o' := kO g tn tq qK n2 [.ref K, .type "object"] true [] [some (.builtin "object.__new__")]) (by decide) (by kernel_rfl) fun s9 Y9 => ?_
  have T9 : KAt s9.heap K (zA3 "__qualname__" kvs) := ⟨⟨_, _, d7, (Y9.own _ _ gK).1, rfl, rfl, rfl, rfl, ⟨rfl, rfl⟩, (Y9.own _ _ gn).1, D7⟩⟩
  refine zIt (zGt T9 (Y9.own _ _ gK).1 (by rfl) ((zAQ (by decide)).trans hnone.1) ?_)
  have hne2 : n2 ≠ K := Ne.symm hK2
  refine zIt (zHG Y9 gK gn D7 ((zAQ (by decide)).trans ho) (Nat.lt_of_le_of_lt len_del hlen) hne2 fun s10 md tk10 d10 ψ1 l1 hmd D10 Y10 => ?_)
  rw [zCN hne2, zA7] at Y10
  refine bEq false gw_ob ?_
  refine Y10.bSetSlot (o' := kO g tn tq qK n2 [.ref K, .type "object"] false ["obj"] [some (.builtin "object.__new__"), some (.bool false)]) (by decide) (by kernel_rfl) fun s11 Y11 => ?_
  refine zJ (by decide) ?_
  refine zJ (by decide) ?_
  refine Y11.bGetV gn D10 ((zAC (by decide)).trans (ldel (by decide) hdoc)) ?_
  refine zS rfl ?_
  refine Y11.bSetD hne2 D10 fun s12 d12 D12 Y12 => ?_
  refine Y12.bGetV gn D12 (r := kvs.lookup ("__eq__" : Str)) (by rw [zAC (by decide), zAC (by decide), zAQ (by decide)]) ?_
  refine zS heq ?_
  refine Y12.bGetV gn D12 (r := kvs.lookup ("__hash__" : Str)) (by rw [zAC (by decide), zAC (by decide), zAQ (by decide)]) ?_
  refine zJ (by rw [Option.isNone_eq_false_iff.mpr hhash]; decide) ?_
  refine zIt (zBV ?_)
  refine bEq _ (noteOb K) (zIu ⟨_, rfl, ?_⟩)
  obtain ⟨hc12, es12, ep12, hd12, hall12⟩ := id D12
  have Hn12 := (Y12.own _ _ gn).1
  have T12 : KAt s12.heap K (kvF md kvs) := ⟨⟨_, _, d12, (Y12.own _ _ gK).1, rfl, rfl, rfl, rfl, ⟨rfl, rfl⟩, Hn12, D12⟩⟩
  have hN : ∀ kv ∈ kvF md kvs, zAb ψ1 kv.2 := fun kv hkv => by
    rcases zFZ hkv with hkv | hkv
    · rcases zFZ hkv with hkv | hkv
      · exact (hns kv (mem_del hkv)).le l1
      · rw [hkv]; exact zAb.ref hmd rfl set_md
    · rw [hkv]; exact zAb.none
  have hKψ := (Y12.own _ _ gK).2.1
  have hnψ := (Y12.own _ _ gn).2.1
  refine zIt (wpAny_tryCatch (zIw ?_))
  refine zIt (wpAny_dictEntries Hn12 hd12 ?_)
  refine zIt (zE2 (fun e he => ?_) ?_)
  · obtain ⟨kv, hkv, ⟨tk, hk⟩, hv⟩ := KVs.mem hall12 e he
    rw [hk]; exact zIt (zIu (zJ (by simp) (zIu ⟨rfl, rfl⟩)))
  refine zJ (by decide) ?_
  refine zIt (wpAny_dictEntries Hn12 hd12 ?_)
  refine zIt (zE2 (fun e he => ?_) ?_)
  · obtain ⟨kv, hkv, ⟨tk, hk⟩, hv⟩ := KVs.mem hall12 e he
    have hN1 := hN kv hkv
    rw [hk, hv]
    refine zJ (by show ¬ (Builtin.heldUnderItsOwnName kv.1 kv.2 = true); rw [hN1.2]; decide) ?_
    obtain ⟨⟨T, hT, hl⟩, _⟩ := hN1
    refine zIt (wpAny_specialOf (hT _ Y12.sub) hl ?_)
    exact zIu ⟨rfl, rfl⟩
  refine zIt ?_
  refine zIv (init_sub (Q := fun v s' => ∃ h' tk, (∀ b o, s12.heap.get? b = some o → h'.get? b = some o) ∧ s' = { s12 with heap := h', toks := tk }) T12 (fun h' k => zIC (fun x o e => k _ _ (Y12.sub x o e)) (hany.le l1)) ((zAC (by decide)).trans ((zAC (by decide)).trans ((zAQ (by decide)).trans hnone.2.1))) fun h' tk k => ⟨h', tk, k, rfl⟩) (fun sup s13 z => ?_) fun _ _ e => e
  refine zIt (zIv z (fun f s14 z => ?_) fun _ _ e => e)
  refine zIt (zIv z (fun v s15 z => ?_) fun _ _ e => e)
  obtain ⟨h', tk15, hk15, rfl⟩ := z
  refine zIu ?_
  refine zIu ?_
  have Y15 := Y12.kept (tk := tk15) hk15
  have lK := zL (o := kO g tn tq qK n2 [.ref K, .type "object"] false ["obj"] [some (.builtin "object.__new__"), some (.bool false)]) hKψ
  have Y16 := (Y15.freeze (zA _ _ _)).forget (ω' := put ω n2 d12) fun b ob e => by
    have hb : b ≠ K := fun z => by
      rw [z, zC hK2] at e
      have := F3.o
      rw [zC hK2] at this; rw [this] at e; cases e
    simp only [if_neg hb]
    rw [zC hb]; exact e
  have hn2 : put ψ1 K (kO g tn tq qK n2 [.ref K, .type "object"] false ["obj"] [some (.builtin "object.__new__"), some (.bool false)]) n2 = none := by rw [zC hne2]; exact hnψ
  have Y17 := (Y16.freeze (zA _ _ _)).forget (ω' := ω) fun b ob e => by
    have hb : b ≠ n2 := F2.ne e
    simp only [if_neg hb]
    rw [zC hb]; exact e
  have ln := zL (o := d12) hn2
  exact q K n2 d12 md tk10 tq _ _ (l1.trans (lK.trans ln)) (ln _ _ (zA _ _ _)) (zA _ _ _) D12 ((lK.trans ln) _ _ hmd) Y17
def CB (X : Fix) (m : Str → Option Value) (ω : PM) (ns P1 : Addr) (kvs : List (Str × Value)) (ps : Array Value) (ψ : PM) (s : Shared) : Prop := ∃ oD, DI oD kvs ∧ S X m ψ (put (put ω ns oD) P1 (tabObj ps)) s
noncomputable abbrev zBv (as : List Arg) : Arguments := { posonlyargs := [], args := as, vararg := none, kwonlyargs := [], kw_defaults := [], kwarg := none, defaults := [] }
theorem zCa {ns P1 c1 fr : Addr} {kvs : List (Str × Value)} {ps : Array Value} {cl : List (Str × Addr)} {qual x : Str} {v : Value} {Q : Unit → Shared → Prop} (b : CB X m ω ns P1 kvs ps ψ s) (hnP : ns ≠ P1) (hk : scope.kind = .class) (hx : scope.names.lookup x = some .local) (q : ∀ s', CB X m ω ns P1 (zt x v kvs) ps ψ s' → Q () s') : wpAny (model prog w) A (storeName (zCL scope ns cl qual c1 fr) x v) Q E s := by
  obtain ⟨oD, D, Y⟩ := b
  refine Y.storeC hk (.inl hx) (by rw [zC hnP]; exact zA _ _ _) D fun s' o' D' Y' => ?_
  rw [zCN hnP] at Y'
  exact q s' ⟨o', D', Y'⟩
theorem c_store {ns P1 c1 fr : Addr} {kvs : List (Str × Value)} {ps : Array Value} {cl : List (Str × Addr)} {qual x : Str} {v : Value} {Q : Unit → Shared → Prop} (b : CB X m ω ns P1 kvs ps ψ s) (hnP : ns ≠ P1) (hk : scope.kind = .class) (hx : scope.names.lookup x = some .local) (q : ∀ s', CB X m ω ns P1 (zt x v kvs) ps ψ s' → Q () s') : wpAny (model prog w) A (bindName (zCL scope ns cl qual c1 fr) x v) Q E s := wpAny_bindName (zCa b hnP hk hx q)
theorem zHE {ns P1 c1 fr : Addr} {kvs : List (Str × Value)} {ps : Array Value} {cl clos : List (Str × Addr)} {qual name bind : Str} {as : List Arg} {body : List Stmt} {pos : Pos} {Q : Flow → Shared → Prop} (b : CB X m ω ns P1 kvs ps ψ s) (hnP : ns ≠ P1) (hk : scope.kind = .class) (hT : zB6 ψ) (C : zX ψ c1 P1) (hx : scope.names.lookup bind = some .local) (hann : ∀ e, annotationsOf as e = []) (hcl : closureFor sc (zCL scope ns cl qual c1 fr) = pure clos) (ht : TriplesOk ps.toList) (hnf : codeAmong pos ps.toList = none) (hdoc : docOf body = none) (q : ∀ f c' ct pm ψ' s', Le ψ ψ' → ψ' f = some { cls := .type "function", data := .func (fnD name (qual ++ "." ++ name) (zBv as) (.stmts body) sc clos pm (.ref c') ct) } → zEg ψ' (.ref c') (qual ++ "." ++ name) →
      CB X m ω ns P1 (zt bind (.ref f) kvs) (ps ++ #[rawInt pos.line, rawInt pos.col, .ref c']) ψ' s' → Q .next s') :
    wpAny (model prog w) A (exec (.FunctionDef name (zBv as) body [] none [] sc none bind pos) (zCL scope ns cl qual c1 fr)) Q E s := by
  obtain ⟨oD, D, Y⟩ := b
  have e : exec (.FunctionDef name (zBv as) body [] none [] sc none bind pos) (zCL scope ns cl qual c1 fr) =
    defStmt name bind (zBv as) body sc pos (zCL scope ns cl qual c1 fr) [] none [] [] ([], []) (fun e => annotationsOf (as ++ [] ++ [] ++ [] ++ []) e ++ []) (.FunctionDef name (zBv as) body [] none [] sc none bind pos) := rfl
  rw [e]
  unfold defStmt
  refine zJ (by simp) ?_
  refine zIt (zIu ?_)
  refine zIt (wpAny_standAt ?_)
  have hq : qualnameIn (zCL scope ns cl qual c1 fr) name bind = qual ++ "." ++ name := by
    unfold qualnameIn
    show (if (scope.names.lookup bind == some .globalExplicit) = true then _ else _) = _
    rw [hx]; rfl
  have hke : (zCL scope ns cl qual c1 fr).globals = mainGlobals := rfl
  refine zIt (zIw (zIt (zIu (zIt (zIw (zIu (zIw ?_)))))))
  dsimp only
  rw [show annotationsOf (as ++ [] ++ [] ++ [] ++ []) (zCL scope ns cl qual c1 fr) = [] from by simp only [List.append_nil]; exact hann _]
  refine zIt (zIu ?_)
  rw [hq]
  refine Y.mkFunO (c := c1) hT hcl hke rfl C (zA _ _ _) ht hnf hdoc fun f c' s' ct pm ψ' l' hf hck hnw hfr Y' => ?_
  rw [zA7] at Y'
  refine zIt (zIu ?_)
  refine zIt (wpAny_standAt ?_)
  refine zIt (c_store (s := s') ⟨oD, D, Y'⟩ hnP hk hx fun s2 b2 => zIu ?_)
  exact q f c' ct pm ψ' s2 l' hf hck b2
theorem c_str {ns P1 c1 fr : Addr} {kvs : List (Str × Value)} {ps : Array Value} {cl : List (Str × Addr)} {qual x y : Str} {px cp pos : Pos} {kd : Nat} {Q : Flow → Shared → Prop} (b : CB X m ω ns P1 kvs ps ψ s) (hnP : ns ≠ P1) (hk : scope.kind = .class) (hx : scope.names.lookup x = some .local) (q : ∀ tk s', CB X m ω ns P1 (zt x (.str y tk) kvs) ps ψ s' → Q .next s') : wpAny (model prog w) A (exec (.Assign [.Name x px] (.Constant (.str y) kd cp) pos) (zCL scope ns cl qual c1 fr)) Q E s := by
  refine wpAny_Assign_Name ?_ (by rfl)
  rw [arm_eval_Constant]
  obtain ⟨oD, D, Y⟩ := b
  refine wpAny_mkText ?_
  have Y1 := Y.tok (tk := s.toks + 1)
  exact zCa ⟨oD, D, Y1⟩ hnP hk hx fun s' b' => q _ s' b'
theorem c_none {ns P1 c1 fr : Addr} {kvs : List (Str × Value)} {ps : Array Value} {cl : List (Str × Addr)} {qual x : Str} {px cp pos : Pos} {kd : Nat} {Q : Flow → Shared → Prop} (b : CB X m ω ns P1 kvs ps ψ s) (hnP : ns ≠ P1) (hk : scope.kind = .class) (hx : scope.names.lookup x = some .local) (q : ∀ s', CB X m ω ns P1 (zt x .none kvs) ps ψ s' → Q .next s') : wpAny (model prog w) A (exec (.Assign [.Name x px] (.Constant .none kd cp) pos) (zCL scope ns cl qual c1 fr)) Q E s := by
  refine wpAny_Assign_Name ?_ (by rfl)
  rw [arm_eval_Constant]
  exact zIu (zCa b hnP hk hx fun s' b' => q s' b')
theorem c_list1 {ns P1 c1 fr : Addr} {kvs : List (Str × Value)} {ps : Array Value} {cl : List (Str × Addr)} {qual x y : Str} {px cp lp pos : Pos} {kd : Nat} {Q : Flow → Shared → Prop} (b : CB X m ω ns P1 kvs ps ψ s) (hnP : ns ≠ P1) (hk : scope.kind = .class) (hx : scope.names.lookup x = some .local) (q : ∀ a tk ψ' s', Le ψ ψ' → ψ' a = some (lst [.str y tk] 0) → CB X m ω ns P1 (zt x (.ref a) kvs) ps ψ' s' → Q .next s') : wpAny (model prog w) A (exec (.Assign [.Name x px] (.List [.Constant (.str y) kd cp] lp) pos) (zCL scope ns cl qual c1 fr)) Q E s := by
  refine wpAny_Assign_Name ?_ (by rfl)
  rw [arm_eval_List]
  obtain ⟨oD, D, Y⟩ := b
  refine zIt (wpAny_standAt ?_)
  refine zIt ?_
  rw [zI rfl]
  show wpAny _ _ (spliced ((false, if (false = true) then _ else eval (.Constant (.str y) kd cp) (zCL scope ns cl qual c1 fr)) :: [])) _ _ _
  unfold spliced
  simp only [Bool.false_eq_true, if_false]
  rw [arm_eval_Constant]
  refine zIt (wpAny_mkText ?_)
  have Y1 := Y.tok (tk := s.toks + 1)
  refine zIt (zIu ?_)
  refine zIt (zIw (zIu (zIu ?_)))
  refine Y1.newFrozen (c := "list") (by rfl) (by show 1 ≤ sizeLine; decide) fun a s2 F2 Y2 => ?_
  exact zCa ⟨oD, D, Y2⟩ hnP hk hx fun s' b' => q a s.toks _ s' (zL F2.p) (zA _ _ _) b'
noncomputable def zDx : Stmt → Str | .FunctionDef n _ _ _ _ _ _ _ _ _ => n | _ => ""
noncomputable def dArgs : Stmt → List Arg | .FunctionDef _ a _ _ _ _ _ _ _ _ => a.args | _ => []
noncomputable def zGy : Stmt → List Stmt | .FunctionDef _ _ b _ _ _ _ _ _ _ => b | _ => []
noncomputable def zg : Stmt → Scope | .FunctionDef _ _ _ _ _ _ sc _ _ _ => sc | _ => { kind := .function, names := [], isGenerator := false, isCoroutine := false }
inductive FK (ψ : PM) (clos : List (Str × Addr)) (d : Stmt) (f : Addr) : Prop
  | mk (pm : _) (cd : _) (ct : _) (h1 : ψ f = some { cls := .type "function", data := .func (fnD (zDx d) (qK ++ "." ++ zDx d) (zBv (dArgs d)) (.stmts (zGy d)) (zg d) clos pm cd ct) }) (h2 : zEg ψ cd (qK ++ "." ++ zDx d)) : FK ψ clos d f
theorem FK.le {clos : List (Str × Addr)} {d : Stmt} {f : Addr} (h : FK φ clos d f) (l : Le φ ψ) : FK ψ clos d f := let ⟨pm, cd, ct, a, b⟩ := h; ⟨pm, cd, ct, l _ _ a, b.le l⟩
noncomputable abbrev kvB (pm t1 t2 : Tok) (fl : Int) (sl f0 f1 f2 f3 f4 f5 : Addr) : List (Str × Value) :=
  [("__module__", .str "cpy313.functools" pm), ("__qualname__", .str qK t1), ("__firstlineno__", .int fl t2), ("__slots__", .ref sl), ("__init__", .ref f0), ("__lt__", .ref f1), ("__gt__", .ref f2), ("__eq__", .ref f3), ("__le__", .ref f4), ("__ge__", .ref f5), ("__hash__", .none)]
inductive BdK (ds : Nat → Stmt) (c : Addr) (ψ : PM) (kvs : List (Str × Value)) : Prop
  | mk (pm : _) (t1 : _) (t2 : _) (fl : _) (sl : _) (f0 : _) (f1 : _) (f2 : _) (f3 : _) (f4 : _) (f5 : _) (tks : _) (h1 : kvs = kvB pm t1 t2 fl sl f0 f1 f2 f3 f4 f5) (h2 : ψ sl = some (lst [.str "obj" tks] 0)) (h3 : FK ψ [] (ds 0) f0) (h4 : FK ψ [("mycmp", c)] (ds 1) f1) (h5 : FK ψ [("mycmp", c)] (ds 2) f2) (h6 : FK ψ [("mycmp", c)] (ds 3) f3) (h7 : FK ψ [("mycmp", c)] (ds 4) f4) (h8 : FK ψ [("mycmp", c)] (ds 5) f5) : BdK ds c ψ kvs
theorem BdK.le {ds : Nat → Stmt} {c : Addr} {kvs : List (Str × Value)} (h : BdK ds c φ kvs) (l : Le φ ψ) : BdK ds c ψ kvs := by
  obtain ⟨pm, t1, t2, fl, sl, f0, f1, f2, f3, f4, f5, tks, h0, h1, a0, a1, a2, a3, a4, a5⟩ := h
  exact ⟨pm, t1, t2, fl, sl, f0, f1, f2, f3, f4, f5, tks, h0, l _ _ h1, a0.le l, a1.le l, a2.le l, a3.le l, a4.le l, a5.le l⟩
inductive zCb (ds : Nat → Stmt) (c : Addr) (ψ : PM) (K : Addr) : Prop
  | mk (g : _) (tn : _) (tq : _) (n2 : _) (d : _) (md : _) (tk : _) (st : _) (sts : _) (kvs : _) (h1 : ψ K = some (kO g tn tq qK n2 [.ref K, .type "object"] false ["obj"] [some (.builtin "object.__new__"), some (.bool false)])) (h2 : ψ n2 = some d) (h3 : DI d (kvF md (zt "__static_attributes__" (.ref st) kvs))) (h4 : ψ md = some (mdO K tk)) (h5 : ψ st = some (zFW sts)) (h6 : BdK ds c ψ kvs) : zCb ds c ψ K
theorem zCb.le {ds : Nat → Stmt} {c K : Addr} (h : zCb ds c φ K) (l : Le φ ψ) : zCb ds c ψ K := by
  obtain ⟨g, tn, tq, n2, d, md, tk, st, sts, kvs, h1, h2, h3, h4, h5, h6⟩ := h
  exact ⟨g, tn, tq, n2, d, md, tk, st, sts, kvs, l _ _ h1, l _ _ h2, h3, l _ _ h4, l _ _ h5, h6.le l⟩
theorem newK {ds : Nat → Stmt} {c g ns st : Addr} {tn : Tok} {sts : List Value} {oD : Obj} {kvs : List (Str × Value)} {Q : Value → Shared → Prop} (Y : S X m ψ ω s) (hg : ψ g = some (zFW [.type "object"])) (hn : ω ns = some oD) (hmods : ∃ o, ψ sysModules = some o) (hany : zD ψ cStatics "thirdparty.any" none) (D : DI oD (zt "__static_attributes__" (.ref st) kvs)) (hb : BdK ds c ψ kvs) (hst : ψ st = some (zFW sts)) (q : ∀ K ψ' s', Le ψ ψ' → zCb ds c ψ' K → S X m ψ' ω s' → Q (.ref K) s') : wpAny (model prog w) A (call (.type "type") [.str "K" tn, .ref g, .ref ns]) Q E s := by
  have hb0 := hb
  obtain ⟨pm, t1, t2, fl, sl, f0, f1, f2, f3, f4, f5, tks, rfl, h1, a0, a1, a2, a3, a4, a5⟩ := hb
  have fnS : ∀ {cl d f}, FK ψ cl d f → zAb ψ (.ref f) := fun h => let ⟨_, _, _, a, _⟩ := h; zAb.ref a rfl set_fn
  refine zHQ (tnew_ok Y hg hn D hmods (by rfl) (by rfl) (by rfl) h1 ⟨t1, by rfl⟩ (by rfl) (by show (12 : Nat) < 100; decide) ⟨by rfl, by rfl, by rfl, by rfl, by rfl, by rfl⟩ (by rfl) (by rfl) ?_ hany ?_)
  · intro kv hkv
    rcases zFZ hkv with h | h
    · simp only [List.mem_cons, List.not_mem_nil, or_false] at h
      rcases h with rfl | rfl | rfl | rfl | rfl | rfl | rfl | rfl | rfl | rfl | rfl
      · exact zAb.str
      · exact zAb.str
      · exact zAb.int
      · exact zAb.ref h1 rfl set_list
      · exact fnS a0
      · exact fnS a1
      · exact fnS a2
      · exact fnS a3
      · exact fnS a4
      · exact fnS a5
      · exact zAb.none
    · rw [h]; exact zAb.ref hst rfl zIQ
  · intro K n2 d md tk tq ψ' s' l k1 k2 k3 k4 Y'
    exact ⟨K, rfl, ⟨_, Y'.sub _ _ k1, rfl⟩, q K ψ' s' l ⟨_, _, _, _, _, _, _, _, _, _, k1, k2, k3, k4, l _ _ hst, hb0.le l⟩ Y'⟩
theorem cls_ok {ds : Nat → Stmt} {c : Addr} {bd : List Stmt} {statics : List Str} {px pos : Pos} {cc P : Addr} {clos : List (Str × Addr)} {Q : Flow → Shared → Prop} (Y : S X m ψ ω s) (cx : CX ⟨k, n⟩ X) (hobj : BN ψ "object" (.type "object")) (hko : X.env.scope.names.lookup ("object" : Str) = some .globalImplicit) (hbc : zD ψ builtinsNs "__build_class__" (some (.builtin "__build_class__"))) (hqual : qualnameIn X.env "K" "K" = qK) (hany : zD ψ cStatics "thirdparty.any" none) (hmods : ∃ o, ψ sysModules = some o) (hcc : (scope.names.lookup ("__class__" : Str) == some NameKind.cell) = false) (hcd : (scope.names.lookup ("__classdict__" : Str) == some NameKind.cell) = false) (hsk : scope.kind = .class) (hcode : X.env.code = .ref cc) (C : zX ψ cc P) (hP : (P, tabObj #[]) ∈ X.tb) (hT : zB6 ψ) (hcl : closureFor scope X.env = pure clos) (hlim : zD ψ cStatics "sys.recursionlimit" none) (hdep : X.A.depth + 20 < 1000) (hnm1 : scope.names.lookup ("__name__" : Str) = none) (hnm2 : scope.names.lookup ("__module__" : Str) = some NameKind.local) (hnm3 : scope.names.lookup ("__qualname__" : Str) = none) (hnm4 : scope.names.lookup ("__firstlineno__" : Str) = none) (hnm5 : scope.names.lookup ("__static_attributes__" : Str) = none) (hbody : ∀ (R : Result → Shared → Prop) ns c1 P1 fr ψ' s' pm t1 t2, Le ψ ψ' → ns ≠ P1 → zX ψ' c1 P1 →
      CB (X.setTb P (tabObj #[rawInt pos.line, rawInt pos.col, .ref c1])) m ω ns P1 [("__module__", pm), ("__qualname__", .str qK t1), ("__firstlineno__", .int pos.line t2)] #[] ψ' s' →
      (∀ ψ2 kvs2 ps2 s2, Le ψ' ψ2 → BdK ds c ψ2 kvs2 → CB (X.setTb P (tabObj #[rawInt pos.line, rawInt pos.col, .ref c1])) m ω ns P1 kvs2 ps2 ψ2 s2 → R (.ok .next) s2) →
      codeAny (model prog w) (X.A.mark none) (.body bd (zCL scope ns clos qK c1 fr)) R s')
    (hst : zK X "K")
    (q : ∀ K c1 ψ' s', Le ψ ψ' → zCb ds c ψ' K → S (X.setTb P (tabObj #[rawInt pos.line, rawInt pos.col, .ref c1])) (fun y => if y = "K" then some (.ref K) else m y) ψ' ω s' → Q .next s') :
    wpAny (model prog w) X.A (exec (.ClassDef "K" [.Name "object" px] [] bd [] [] scope none "K" statics pos) X.env) Q E s := by
  have e : exec (.ClassDef "K" [.Name "object" px] [] bd [] [] scope none "K" statics pos) X.env = (do
      let decos ← evalAll (evalEach [] X.env)
      standAt pos
      buildClassGuard X.env
      let c ← holding decos do
        let a ← evalArgs (.builtin "__build_class__") false (backTo pos (starEach [.Name "object" px] X.env)) (backToKw pos (keywordEach [] X.env))
        standAt pos
        holding (a.pos ++ a.kw.map (·.2)) (buildClass "K" (qualnameIn X.env "K" "K") a.pos a.kw bd scope statics (firstLineOf [] pos) X.env pos none)
      let c ← decorate (decos.zip (([] : List Expr).map (·.pos))).reverse c
      standAt pos
      bindName X.env "K" c
      pure .next) := rfl
  rw [e]
  refine zIt (zIu ?_)
  refine zIt (wpAny_standAt ?_)
  unfold buildClassGuard
  obtain ⟨mb, nb, hmb⟩ := hbc.ns Y.sub
  rw [show X.env.builtins = builtinsNs from Y.fram.bi]
  refine zIt (zIt (wpAny_nsGet nb ?_))
  rw [hmb]
  refine zIu ?_
  refine zIt (zIw ?_)
  unfold evalArgs
  have hEv : EvA prog w ⟨k, n⟩ X.env.scope [] ψ [.Name "object" px] [zT (.type "object")] := EvA.cons (ev_b hobj hko) EvA.nil rfl
  refine zIt ?_
  refine zIt ?_
  refine zAE rfl hEv (Y.cx cx) (Le.refl _) Y.fram Typ.nil fun vs ψ1 s1 g1 p1 => ?_
  obtain ⟨v, rfl, hv⟩ : ∃ v, vs = [v] ∧ v = .type "object" := by
    cases p1 with
    | cons h t => cases t with | nil => exact ⟨_, rfl, h⟩
  subst hv
  have Y1 := Y.grow cx g1
  have l1 := g1.le
  refine zIt (zIu ?_)
  dsimp only
  refine zIw ?_
  refine zS rfl ?_
  refine zIt (zIu ?_)
  refine zIt (zIu ?_)
  refine zIu ?_
  refine zIt (wpAny_standAt ?_)
  refine zIw ?_
  rw [hqual]
  show wpAny _ _ (buildClass "K" qK [.type "object"] [] bd scope statics pos.line X.env pos none) _ _ _
  have fin : ∀ K c1 ψ2 s2, Le ψ ψ2 → zCb ds c ψ2 K → S (X.setTb P (tabObj #[rawInt pos.line, rawInt pos.col, .ref c1])) m ψ2 ω s2 →
      wpAny (model prog w) X.A (do
        let c ← decorate (([] : List Value).zip (([] : List Expr).map (·.pos))).reverse (.ref K)
        standAt pos
        bindName X.env "K" c
        pure Flow.next) Q E s2 := fun K c1 ψ2 s2 l2 hK Y2 => by
    refine zIt (zIu ?_)
    refine zIt (wpAny_standAt ?_)
    refine zIt (wpAny_bindName ?_)
    exact Y2.store (X := X.setTb P (tabObj #[rawInt pos.line, rawInt pos.col, .ref c1])) hst fun s3 Y3 => zIu (q K c1 ψ2 s3 l2 hK Y3)
  refine build_ok (BdK ds c) (fun _ _ _ l h => h.le l) Y1 (let ⟨o, h⟩ := hmods; ⟨o, l1 _ _ h⟩) hcc hcd hsk hcode (C.le l1) hP (hT.le l1) hcl (hlim.le l1) hdep hnm1 hnm2 hnm3 hnm4 hnm5 ?_ ?_
  · intro R ns c1 P1 fr ψ' oD s' pm t1 t2 l' hn1 hn2 hne hC D Y' hR
    exact hbody R ns c1 P1 fr ψ' s' pm t1 t2 (l1.trans l') hne hC ⟨oD, D, Y'⟩ fun ψ2 kvs2 ps2 s2 l2 hb b2 => let ⟨oD2, D2, Y2⟩ := b2; hR ψ2 oD2 kvs2 ps2 s2 l2 D2 hb Y2
  · intro c1 g ns tn st sts oD kvs ψ' s' l' hg hn D hb hst' Y'
    refine newK Y' hg (zA _ _ _) (let ⟨o, h⟩ := hmods; ⟨o, l' _ _ (l1 _ _ h)⟩) (hany.le (l1.trans l')) D hb hst' fun K ψ2 s2 l2 hK Y2 => ?_
    exact fin K c1 ψ2 s2 (l1.trans (l'.trans l2)) hK (Y2.forget (zL hn))
theorem cf_go {y : Str} {c : Addr} {env : Env} (hc : env.cells.lookup y = some c) : ∀ (names : List (Str × NameKind)) (acc : List (Str × Addr)), (names.all fun p => !(p.2 == .free) || p.1 == y) = true → (forIn names acc (fun p r => if (p.2 == NameKind.free) = true then (do let a ← cellOf env p.1; pure (ForInStep.yield ((p.1, a) :: r))) else pure (ForInStep.yield r)) : Sem (List (Str × Addr))) = pure (((names.filter (·.2 == .free)).map (fun p => (p.1, c))).reverse ++ acc)
  | [], acc, _ => rfl
  | (x, k) :: r, acc, h => by
    rw [List.all_cons, Bool.and_eq_true] at h
    have ih := fun acc => cf_go hc r acc h.2
    rw [List.forIn_cons]
    by_cases q : (k == NameKind.free) = true
    · have hx : x = y := by
        have := h.1; rw [q] at this; simpa using this
      subst hx
      have hcell : cellOf env x = pure c := by unfold cellOf; rw [hc]
      simp only [q, if_true, hcell, pure_bind, List.filter_cons, List.map_cons, List.reverse_cons, List.append_assoc, List.singleton_append]
      exact ih _
    · simp only [q, if_false, pure_bind, List.filter_cons]
      exact ih _
theorem zn {y : Str} {c : Addr} {env : Env} {scope : Scope} (hc : env.cells.lookup y = some c) (h : (scope.names.all fun p => !(p.2 == .free) || p.1 == y) = true) (hn : (scope.names.filter (·.2 == .free)).map (·.1) = [y]) : closureFor scope env = pure [(y, c)] := by
  have h1 := cf_go hc scope.names [] h
  have h2 : (scope.names.filter (·.2 == .free)).map (fun p => (p.1, c)) = [(y, c)] := by
    have := congrArg (List.map (fun x => (x, c))) hn
    simpa [List.map_map] using this
  rw [h2] at h1
  unfold closureFor
  show (forIn scope.names ([] : List (Str × Addr)) (fun p r => if (p.2 == NameKind.free) = true then (do let a ← cellOf env p.1; pure (ForInStep.yield ((p.1, a) :: r))) else pure (ForInStep.yield r)) >>= pure : Sem (List (Str × Addr))) = _
  rw [h1]; rfl
theorem zCi {env : Env} {scope : Scope} (h : (scope.names.all fun p => !(p.2 == .free)) = true) : closureFor scope env = pure [] := by
  unfold closureFor
  have go : ∀ (names : List (Str × NameKind)) (acc : List (Str × Addr)), (names.all fun p => !(p.2 == .free)) = true → (forIn names acc (fun p r => if (p.2 == NameKind.free) = true then (do let a ← cellOf env p.1; pure (ForInStep.yield ((p.1, a) :: r))) else pure (ForInStep.yield r)) : Sem (List (Str × Addr))) = pure acc := by
    intro names
    induction names with
    | nil => intro acc _; rfl
    | cons p r ih =>
      intro acc h
      rw [List.all_cons, Bool.and_eq_true] at h
      rw [List.forIn_cons]
      have q : (p.2 == NameKind.free) = false := by have := h.1; simpa using this
      simp only [q, Bool.false_eq_true, if_false, pure_bind]
      exact ih _ h.2
  show (forIn scope.names ([] : List (Str × Addr)) (fun p r => if (p.2 == NameKind.free) = true then (do let a ← cellOf env p.1; pure (ForInStep.yield ((p.1, a) :: r))) else pure (ForInStep.yield r)) >>= pure : Sem (List (Str × Addr))) = _
  rw [go _ _ h]; rfl
inductive ClsP (ds : Nat → Stmt) (PF : VP) (ψ : PM) (v : Value) : Prop
  | mk (K c : Addr) (o : Obj) (fv : Value) (e : v = .ref K) (h1 : zCb ds c ψ K) (h2 : ψ c = some o) (h3 : o.data = .cell (some fv)) (h4 : PF.p ψ fv)
noncomputable def vCls (ds : Nat → Stmt) (PF : VP) : VP := ⟨fun ψ v => ClsP ds PF ψ v, fun l h => by obtain ⟨K, c, o, fv, a, b, d, e, f⟩ := h; exact ⟨K, c, o, fv, a, b.le l, l _ _ d, e, PF.mono l f⟩⟩
def SpecT (prog : Program) (w : World) (μ : Md) (φ : PM) (f : Value) (P : Addr) (Ps : List VP) (R : VP) : Prop :=
  ∀ A ψ s vs (Q : Value → Shared → Prop) (E : Value → Shared → Prop), Cx μ A ψ s → Le φ ψ → zO (fun (P : VP) v => P.p ψ v) Ps vs → s.heap.get? P = some (tabObj #[]) → ψ P = none → P ∉ frs A →
    (∀ v ψ' s' ps, zQ (P :: frs A) ψ s ψ' s' → s'.heap.get? P = some (tabObj ps) → ψ' P = none → R.p ψ' v → Q v s') → wpAny (model prog w) A (call f vs) Q E s
theorem zCb.at {ds : Nat → Stmt} {c K : Addr} {h : Heap} (x : zCb ds c ψ K) (hs : Sub ψ h) : ∃ md st kvs, KAt h K (kvF md (zt "__static_attributes__" (.ref st) kvs)) ∧ BdK ds c ψ kvs ∧ (∃ tk, ψ md = some (mdO K tk)) := by
  obtain ⟨g, tn, tq, n2, d, md, tk, st, sts, kvs, h1, h2, h3, h4, h5, h6⟩ := x
  exact ⟨md, st, kvs, ⟨⟨_, _, d, hs _ _ h1, rfl, rfl, rfl, rfl, ⟨rfl, rfl⟩, hs _ _ h2, h3⟩⟩, h6, tk, h4⟩
theorem zCb.makes {ds : Nat → Stmt} {c K : Addr} {h : Heap} (x : zCb ds c ψ K) (hs : Sub ψ h) : Makes (model prog w) h K := by
  obtain ⟨md, st, kvs, T, -, -⟩ := x.at hs
  obtain ⟨g, tn, tq, n2, d, md', tk, st', sts, kvs', h1, h2, h3, h4, h5, h6⟩ := x
  have hK := hs _ _ h1
  have hT : ∀ s : Shared, (∀ b o, h.get? b = some o → s.heap.get? b = some o) → s.TypeIs (.ref K) "type" := fun s k => ⟨_, k _ _ hK, rfl⟩
  have made : Looks (model prog w) h (Bind.madeBy (.ref K)) (some "object.__new__") := fun A Q E s k q => by
    unfold Bind.madeBy
    refine zIt ((T.keeps k).mro ?_)
    refine zIt ?_
    rw [List.forIn_cons]
    refine zIt ?_
    refine zIt (zDp (k _ _ hK) (r := some (.builtin "object.__new__")) (by rfl) ?_)
    exact zIu (zIu (zIu q))
  refine ⟨⟨_, _, _, _, hK, rfl, rfl, rfl⟩, made, fun A Q E s k q => ?_, fun A Q E s k q => ?_, fun A Q E s k q => ?_, fun A Q E s k q => ?_, fun A Q E s k q => ?_⟩
  · unfold Bind.staticBase
    refine zIt ((T.keeps k).mro ?_)
    refine zIt ?_
    rw [List.forIn_cons]
    refine zIt ?_
    refine zIt (made _ _ _ _ k ?_)
    exact zIu (zIu (zIu q))
  · exact (T.keeps k).sub (by simpa using q)
  · exact (T.keeps k).sub (by simpa using q)
  · exact wpAny_specialOf (hT s k) PySem.F.lookup_type_call q
  · exact wpAny_isInstance (hT s k) zGS q
theorem nsIn_of {F : Frag} {n2 : Addr} {d : Obj} {kvs : List (Str × Value)} {x : Str} (h : F.lookup n2 = some d) (D : DI d kvs) : nsIn F n2 x = some (kvs.lookup x) := by
  obtain ⟨hc, es, ep, hd, hall⟩ := D
  obtain ⟨c, dd, dt, sl⟩ := d
  dsimp only at hd
  subst hd
  obtain ⟨h1, h2⟩ := zBF (x := x) hall
  unfold nsIn
  rw [h]
  dsimp only
  cases q : es.toList.find? (·.key.isStr x) with
  | some e => rw [q] at h1; rw [← h1]; rfl
  | none => rw [q] at h1; rw [← h1]; simp only [Option.map_none]; rw [if_neg (by rw [h2]; decide)]
structure KFg (F : Frag) (K : Addr) (md : Addr) (kvs : List (Str × Value)) : Prop where
  cls : ∃ cd oK, clsIn F K = some cd ∧ F.lookup K = some oK ∧ cd.mro = [.ref K, .type "object"] ∧ cd.slotNames = (["obj"] : List Str) ∧ cd.hasDict = false ∧ ∀ x, nsIn F cd.ns x = some (kvs.lookup x)
  rec_ : ∃ tk, recIn F md "member_descriptor" = some [.str "obj" tk, .ref K, .builtin "proto.slot", .builtin "proto.slot#set", rawInt 0]
  typ : typeIn F (.ref md) = some (.type "member_descriptor")
theorem zCb.frag {ds : Nat → Stmt} {c K : Addr} (x : zCb ds c ψ K) : ∃ F md st kvs, KFg F K md (kvF md (zt "__static_attributes__" (.ref st) kvs)) ∧ BdK ds c ψ kvs ∧ ∀ h, Sub ψ h → Frag.In F h := by
  obtain ⟨g, tn, tq, n2, d, md, tk, st, sts, kvs, h1, h2, h3, h4, h5, h6⟩ := x
  have e1 : K ≠ n2 := fun q => by
    rw [q, h2] at h1
    have := h3.cls
    rw [Option.some.inj h1] at this
    exact absurd (show Value.type "type" = Value.type "dict" from this) (by decide)
  have e2 : K ≠ md := fun q => by rw [q, h4] at h1; exact absurd (show Value.type "member_descriptor" = Value.type "type" from congrArg Obj.cls (Option.some.inj h1)) (by decide)
  have e3 : n2 ≠ md := fun q => by
    rw [q, h4] at h2
    have := h3.cls
    rw [← Option.some.inj h2] at this
    exact absurd (show Value.type "member_descriptor" = Value.type "dict" from this) (by decide)
  have b1 : (n2 == K) = false := by simpa using Ne.symm e1
  have b2 : (md == K) = false := by simpa using Ne.symm e2
  have b3 : (md == n2) = false := by simpa using Ne.symm e3
  let kk := kO g tn tq qK n2 [.ref K, .type "object"] false ["obj"] [some (.builtin "object.__new__"), some (.bool false)]
  have lK : List.lookup K [(K, kk), (n2, d), (md, mdO K tk)] = some kk := by simp [List.lookup_cons]
  have ln : List.lookup n2 [(K, kk), (n2, d), (md, mdO K tk)] = some d := by simp [List.lookup_cons, b1]
  have lm : List.lookup md [(K, kk), (n2, d), (md, mdO K tk)] = some (mdO K tk) := by simp [List.lookup_cons, b2, b3]
  refine ⟨[(K, kk), (n2, d), (md, mdO K tk)], md, st, kvs, ⟨⟨_, kk, by unfold clsIn; rw [lK]; rfl, lK, rfl, rfl, rfl, fun x => nsIn_of ln h3⟩, ⟨tk, by unfold recIn; rw [lm]; rfl⟩, by show (List.lookup md [(K, kk), (n2, d), (md, mdO K tk)]).map (·.cls) = _; rw [lm]; rfl⟩, h6, fun h hs a o e => ?_⟩
  simp only [List.lookup_cons] at e
  split at e
  · rename_i q; cases e; rw [eq_of_beq q]; exact hs _ _ h1
  · split at e
    · rename_i q; cases e; rw [eq_of_beq q]; exact hs _ _ h2
    · split at e
      · rename_i q; cases e; rw [eq_of_beq q]; exact hs _ _ h4
      · cases e
theorem KFg.own {F : Frag} {K md : Addr} {kvs : List (Str × Value)} {x : Str} (f : KFg F K md kvs) : ownIn F x (.ref K) = some (kvs.lookup x) := by
  obtain ⟨cd, oK, h1, h2, h3, h4, h5, h6⟩ := f.cls
  unfold clsIn at h1
  show (match F.lookup K with | some ⟨_, _, .cls cd, _⟩ => nsIn F cd.ns x | _ => none) = _
  rw [h2] at h1 ⊢
  obtain ⟨c, dd, dt, sl⟩ := oK
  cases dt <;> first | (cases h1; exact h6 x) | cases h1
theorem KFg.find {F : Frag} {K md : Addr} {kvs : List (Str × Value)} {x : Str} {r : Option Value} (f : KFg F K md kvs) (h : kvs.lookup x = none → fastBuiltinOwn "object" x = r) (h' : ∀ v, kvs.lookup x = some v → r = some v) : findIn F (.ref K) x = some r := by
  have ho := f.own (x := x)
  obtain ⟨cd, oK, h1, h2, h3, h4, h5, h6⟩ := f.cls
  have e : findIn F (.ref K) x = alongIn F x cd.mro := by
    show (match F.lookup K with | some ⟨_, _, .cls cd, _⟩ => alongIn F x cd.mro | _ => none) = _
    unfold clsIn at h1
    rw [h2] at h1 ⊢
    obtain ⟨c, dd, dt, sl⟩ := oK
    cases dt <;> first | (cases h1; rfl) | cases h1
  rw [e, h3]
  unfold alongIn
  rw [ho]
  cases z : kvs.lookup x with
  | some v => rw [h' v z]
  | none =>
    show alongIn F x [.type "object"] = _
    have e2 : ownIn F x (.type "object") = some r := by show some (fastBuiltinOwn "object" x) = _; rw [h z]
    unfold alongIn
    rw [e2]
    cases r <;> rfl
theorem zFA {h : Heap} {F : Frag} {K md : Addr} {kvs : List (Str × Value)} (f : KFg F K md kvs) : slotIn F md K = some 0 := by
  obtain ⟨cd, oK, h1, h2, h3, h4, h5, h6⟩ := f.cls
  obtain ⟨tk, hr⟩ := f.rec_
  unfold slotIn
  rw [hr, h1]
  dsimp only [rawInt]
  rw [h3, h4]
  simp
open PySem.Builtin PySem.Builtin.ObjectAttr PySem.Builtin.Getset_descriptor in
theorem slot_put {ox : Obj} {od : Option Obj} {F : Frag} {x C p : Addr} {v : Value} {R : Result → Shared → Prop} (X : F.In s.heap) (I : InstAt s.heap x ox C od) (hp : slotIn F p C = some 0) (h : R (.ok (.ret .none)) { s with heap := s.heap.update x fun o => { o with slots := (o.slots ++ Array.replicate (0 + 1 - o.slots.size) none).setIfInBounds 0 (some v) } }) :
    codeAny (model prog w) A (.call (.builtin "member_descriptor.__set__") ⟨[.ref p, .ref x, v], []⟩) R s := by
  obtain ⟨n, tn, owner, behind, tb, d, sl, cd, ho, hc, hm, hb, hi⟩ := slot_of X hp
  obtain ⟨hh, g, dr, t, os⟩ := s
  have L0 := I.type (M := model prog w)
  have L1 := looks_mroIn (M := model prog w) X hm
  have L2 : Looks (model prog w) hh (Builtin.Slots.slotNamesOf (.ref C)) cd.slotNames := (looks_clsIn X hc).andThen .now
  have hx := I.at_
  dsimp only at ho hx L0 L1
  have f0 := looks_field (M := model prog w) ho 0 (v := .str n tn) rfl
  have f1 := looks_field (M := model prog w) ho 1 (v := owner) rfl
  have f3 := looks_field (M := model prog w) ho 3 (v := .builtin "proto.slot#set") rfl
  have f4 := looks_field (M := model prog w) ho 4 (v := .int behind tb) rfl
  refine codeAny_call_builtin KF.slot_mset.plain KF.entry_mset (KF.slot_mset.check _ _ _ _ _ _ _ _ ⟨_, ho, rfl⟩ (KF.args_mset _ _ _) ?_)
  unfold Builtin.«member_descriptor.__set__» descrSet descrStoreThrough descrCheckInstance descrNameAndClass isInstance
  have f5 : Looks (model prog w) hh (descrItself (.ref p)) [.ref p] := ((Looks.ld (part := none) ho).andThen .now).andThen (Looks.of_pure (by kernel_rfl))
  repeat lk
  refine ⟨Code.quiet_builtin _ (by decide +kernel), codeAny_builtin KF.entry_slotset ?_⟩
  unfold Builtin.«proto.slot#set» Builtin.Slots.target
  repeat lk
  rw [if_neg hb]
  refine zIu (zIt ?_)
  unfold setSlotAt
  dsimp only
  rw [if_neg (by rw [sizeLine_eq, ← hi]; omega), ← hi]
  exact wpAny_updatePart hx (zIu h)
noncomputable def inO (K dx : Addr) (v : Value) : Obj := { cls := .ref K, dict := some dx, data := .plain, slots := #[some v] }
theorem zCb.setObj {ds : Nat → Stmt} {c K x dx : Addr} {v : Value} {Q : Unit → Shared → Prop} (hK : zCb ds c ψ K) (hs : Sub ψ s.heap) (hx : s.heap.get? x = some (instObj K dx)) (hd : s.heap.get? dx = some emptyDict) (q : ∀ tk, Q () { s with heap := s.heap.update x fun o => { o with slots := (o.slots ++ Array.replicate (0 + 1 - o.slots.size) none).setIfInBounds 0 (some v) }, toks := tk }) : wpAny (model prog w) A (setAttr (.ref x) "obj" v) Q E s := by
  obtain ⟨F, md, st, kvs, f, hb, hin⟩ := hK.frag
  obtain ⟨pm, t1, t2, fl, sl, f0, f1, f2, f3, f4, f5, tks, rfl, -⟩ := hb
  have X := hin _ hs
  have I : InstAt s.heap x (instObj K dx) K (some emptyDict) := ⟨hx, rfl, rfl, hd⟩
  have hset : findIn F (.ref K) "__setattr__" = some (some (.builtin "object.__setattr__")) := f.find (fun _ => by kernel_rfl) (fun v e => by cases e)
  refine set_plain X I hset ?_
  obtain ⟨cd, oK, h1, h2, h3, h4, h5, h6⟩ := f.cls
  have hpo : plainOver F K = true := by unfold plainOver; rw [h1]; show onlyObject cd.mro = true; rw [h3]; rfl
  have hobj : findIn F (.ref K) "obj" = some (some (.ref md)) := f.find (fun e => by cases e) (fun v e => by cases e; rfl)
  have htk : takesIn F (.ref md) = some true := by
    unfold takesIn specialIn
    rw [f.typ]
    kernel_rfl
  have htaker : takerIn F K "obj" = some (some (.ref md)) := by unfold takerIn; rw [hobj]; show (takesIn F (.ref md)).map _ = _; rw [htk]; rfl
  refine osa_descr (s := { s with toks := s.toks + 1 }) KF.slot_mset (by exact X) (by exact I) hpo htaker f.typ ?_
  exact slot_put (s := { s with toks := s.toks + 1 }) (by exact X) (by exact I) (zFA (h := s.heap) f) (q _)
theorem FK.fnK {cl : List (Str × Addr)} {d : Stmt} {f : Addr} (h : FK ψ cl d f) (hlim : zD ψ cStatics "sys.recursionlimit" none) (hk : (zg d).kind = .function) (hco : (zg d).isCoroutine = false) (hg : (zg d).isGenerator = false) : ∃ pm cd ct, FnK ψ f (fnD (zDx d) (qK ++ "." ++ zDx d) (zBv (dArgs d)) (.stmts (zGy d)) (zg d) cl pm cd ct) := by
  obtain ⟨pm, cd, ct, ho, c, oc, vs, tq, rfl, h1, h2, h3⟩ := h
  exact ⟨pm, _, ct, ⟨_, ho, rfl⟩, rfl, rfl, hk, hco, hg, ⟨c, oc, vs, tq, rfl, h1, h2, h3⟩, hlim⟩
theorem zEP {C : Addr} {vs : List Value} {kw : List (Str × Value)} : frs (A.under (.builtin "type.__call__" ⟨.ref C :: vs, kw⟩)) = frs A := by
  obtain ⟨hd, d, fr, gs, u⟩ := A
  cases fr <;> rfl
theorem Cx.crea {C : Addr} {vs : List Value} {kw : List (Str × Value)} (c : Cx ⟨k + 1, n⟩ A ψ s) : Cx ⟨k, n⟩ (A.under (.builtin "type.__call__" ⟨.ref C :: vs, kw⟩)) ψ s := by
  have hd := depth_under_kw A C vs kw
  refine ⟨?_, ?_, c.none, c.hand, ?_, ?_, c.sub⟩
  · have := c.depth; simp at *; omega
  · have := c.units
    have hu : (A.under (.builtin "type.__call__" ⟨.ref C :: vs, kw⟩)).units = A.units + 1 := by
      obtain ⟨hd, d, fr, gs, u⟩ := A
      first | rfl | (show u + _ = u + 1; kernel_rfl)
    rw [hu]; simp at *; omega
  · obtain ⟨fr, e, k⟩ := c.stk
    refine ⟨fr, ?_, k⟩
    obtain ⟨hd, d, fr', gs, u⟩ := A
    cases fr' with
    | none => cases e
    | some l => exact e
  · intro b hb; rw [zEP] at hb; exact c.off b hb
theorem zDO.less {F : List Addr} {x b : Addr} {o : Obj} {r : Option Obj} (h : zDO (x :: F) b o r) (hb : b ≠ x) : zDO F b o r := by
  rcases h with ⟨sl, e, h⟩ | ⟨hF, h⟩
  · refine .inl ⟨sl, e, h.imp id fun ⟨hF, h⟩ => ⟨?_, h⟩⟩
    rcases List.mem_cons.mp hF with q | q
    · exact absurd q hb
    · exact q
  · refine .inr ⟨?_, h⟩
    rcases List.mem_cons.mp hF with q | q
    · exact absurd q hb
    · exact q
inductive KIn (ds : Nat → Stmt) (PF P : VP) (ψ : PM) (v : Value) : Prop
  | mk (x K dx : Addr) (u : Value) (c : Addr) (o : Obj) (fv : Value) (e : v = .ref x) (h1 : ψ x = some (inO K dx u)) (h2 : ψ dx = some emptyDict) (h3 : P.p ψ u) (h4 : zCb ds c ψ K) (h5 : ψ c = some o) (h6 : o.data = .cell (some fv)) (h7 : PF.p ψ fv)
noncomputable def vK (ds : Nat → Stmt) (PF P : VP) : VP := ⟨fun ψ v => KIn ds PF P ψ v,
  fun l h => by obtain ⟨x, K, dx, u, c, o, fv, a, b, b2, d, e, f, g, h⟩ := h; exact ⟨x, K, dx, u, c, o, fv, a, l _ _ b, l _ _ b2, P.mono l d, e.le l, l _ _ f, g, PF.mono l h⟩⟩
noncomputable def vKat (K : Addr) (ds : Nat → Stmt) (PF P : VP) : VP := ⟨fun ψ v => (vK ds PF P).p ψ v ∧ ∃ x dx u, v = .ref x ∧ ψ x = some (inO K dx u), fun l h => by obtain ⟨h, x, dx, u, e, hx⟩ := h; exact ⟨(vK ds PF P).mono l h, x, dx, u, e, l _ _ hx⟩⟩
theorem spec_K {k : Nat} {ds : Nat → Stmt} {c K : Addr} {PF P : VP} {oc : Obj} {fv : Value} (hK : zCb ds c φ K) (hc : φ c = some oc) (hoc : oc.data = .cell (some fv)) (hfv : PF.p φ fv) (hlim : zD φ cStatics "sys.recursionlimit" none) (hsk : (zg (ds 0)).kind = .function) (hco : (zg (ds 0)).isCoroutine = false) (hgn : (zg (ds 0)).isGenerator = false) (hsc : (zg (ds 0)).names = ([("self", NameKind.local), ("obj", NameKind.local)] : List (Str × NameKind))) (hb0 : ∃ p1 p2 p3 p4, zGy (ds 0) = [.Assign [.Attribute (.Name "self" p1) "obj" p2] (.Name "obj" p3) p4]) (hbind : ∀ pm cd ct a b, bindArgs (fnD (zDx (ds 0)) (qK ++ "." ++ zDx (ds 0)) (zBv (dArgs (ds 0))) (.stmts (zGy (ds 0))) (zg (ds 0)) [] pm cd ct) ⟨[a, b], []⟩ = pure ([("self", a), ("obj", b)] : List (Str × Value))) : zj prog w ⟨k + 6, n⟩ φ (.ref K) [P] (vKat K ds PF P) := by
  intro A ψ s vs cx l hv
  obtain ⟨v, rfl, hv1⟩ : ∃ v, vs = [v] ∧ P.p ψ v := by
    cases hv with
    | cons h t => cases t with | nil => exact ⟨_, rfl, h⟩
  have hK1 := hK.le l
  obtain ⟨md, st, kvs, T, hb, -⟩ := hK1.at cx.sub
  obtain ⟨pm, t1, t2, fl, sl, f0, f1, f2, f3, f4, f5, tks, rfl, h1, a0, a1, a2, a3, a4, a5⟩ := id hb
  have Y := hK1.makes (prog := prog) (w := w) cx.sub
  obtain ⟨pm0, cd0, ct0, FN⟩ := a0.fnK (hlim.le l) hsk hco hgn
  obtain ⟨of0, hof0, hfd0⟩ := id FN.obj
  have hi : Looks (model prog w) s.heap (typeLookup (.ref K) "__init__") (some (.ref f0)) := fun A Q E s' k q => (T.keeps k).look (fun e => by cases e) (fun v e => by cases e; rfl) q
  have hbs : ∀ self, Looks (model prog w) s.heap (bindSpecial (.ref f0) self) (.ref f0, [self]) := fun self A Q E s' k q => by
    obtain ⟨_, _, _, hfo, _⟩ := a0
    unfold bindSpecial
    exact zIt (wpAny_typeOf ⟨_, k _ _ (cx.sub _ _ hfo), rfl⟩ (zS (by decide) (zIu q)))
  obtain ⟨h, g, d, t, os⟩ := s
  refine wpAny_call (make_core (h := h) Y hi hbs (.inl rfl) ?_)
  have hdx : ((h.push emptyDict).push (instObj K h.objs.size)).get? h.objs.size = some emptyDict := by heap_get
  have hx : ((h.push emptyDict).push (instObj K h.objs.size)).get? (h.objs.size + 1) = some (instObj K h.objs.size) := by heap_get
  have kp : ∀ b o, h.get? b = some o → ((h.push emptyDict).push (instObj K h.objs.size)).get? b = some o := fun b o e => Heap.get?_push_of_some _ (Heap.get?_push_of_some _ e)
  have hn0 : h.get? h.objs.size = none := zF _
  have hn1 : h.get? (h.objs.size + 1) = none := Heap.get?_none_of_le (Nat.le_succ _)
  have hψ0 : ψ h.objs.size = none := zE cx.sub hn0
  have hψ1 : ψ (h.objs.size + 1) = none := zE cx.sub hn1
  have hne : h.objs.size + 1 ≠ h.objs.size := Nat.succ_ne_self _
  generalize (h.push emptyDict).push (instObj K h.objs.size) = h2 at hdx hx kp ⊢
  generalize h.objs.size + 1 = x at hx hn1 hψ1 hne ⊢
  generalize h.objs.size = dx at hdx hx hn0 hψ0 hne ⊢
  have hfx : x ∉ frs A := fun hm => by obtain ⟨ob, hob⟩ := zBf cx.stk hm; have : h.get? x = some ob := hob; rw [hn1] at this; cases this
  have ld : Le ψ (put ψ dx emptyDict) := zL hψ0
  have hsub2 : Sub (put ψ dx emptyDict) h2 := fun b ob e => by
    by_cases z : b = dx
    · subst z; rw [zA] at e; cases e; exact hdx
    · rw [zC z] at e; exact kp b ob (cx.sub b ob e)
  have g2 : zQ (frs A) ψ ⟨h, g, d, t, os⟩ (put ψ dx emptyDict) ⟨h2, g, d, t, os⟩ := ⟨Ext.of_keeps kp, ld, hsub2, fun b ob e => by
    by_cases z : b = dx
    · subst z; exact .inr hn0
    · rw [zC z] at e; exact .inl e⟩
  have cx2 : Cx ⟨k + 5, n⟩ (A.under (.builtin "type.__call__" ⟨[.ref K, v], []⟩)) (put ψ dx emptyDict) ⟨h2, g, d, t, os⟩ := (cx.grow g2).crea
  obtain ⟨p1, p2, p3, p4, hbody⟩ := hb0
  have hψx : put ψ dx emptyDict x = none := by rw [zC hne]; exact hψ1
  refine codeAny_mono (zDu (k := k + 4) (tb := [(x, instObj K dx)]) (binds := [("self", .ref x), ("obj", v)]) (E := fun _ _ => False)
    (Q := fun r s' => r = .none ∧ ∃ ψ', zQ (frs A) ψ ⟨h, g, d, t, os⟩ ψ' s' ∧ (vKat K ds PF P).p ψ' (.ref x)) (fun p hp => by rw [List.mem_singleton] at hp; subst hp; exact ⟨hx, hψx, by rw [zEP]; exact hfx⟩) cx2 (FN.le ld) rfl rfl (BindsTo.of_eq (hbind _ _ _ _ _)) (by show List.all _ _ = true; dsimp only [fnD]; rw [hsc]; rfl) (by dsimp only [fnD]; rw [hsc]; rfl) (decide_eq_true (by show (List.map _ (cellsFrom 0 (zg (ds 0)).names [])).Nodup; rw [hsc]; decide)) fun env s' he hcd Y' => ?_) fun r s' z => ?_
  · rw [hbody]
    have hks : zu (env.scope.names.lookup ("self" : Str)) = true := by rw [he]; show zu ((zg (ds 0)).names.lookup _) = true; rw [hsc]; rfl
    have hko : zu (env.scope.names.lookup ("obj" : Str)) = true := by rw [he]; show zu ((zg (ds 0)).names.lookup _) = true; rw [hsc]; rfl
    refine wpAny_execs_cons ?_
    refine plainObj_wpAny_Assign_Attribute ?_ (by rfl)
    refine wpAny_Name (zBN Y'.fram hko (v := v) (by rfl) ?_ (by rfl)) (by rfl)
    refine wpAny_Name (zBN Y'.fram hks (v := .ref x) (by rfl) ?_ (by rfl)) (by rfl)
    have htb := Y'.tab (x, instObj K dx) (List.mem_singleton.mpr rfl)
    refine (hK1.le ld).setObj Y'.sub htb.1 (Y'.sub _ _ (zA _ _ _)) fun tk => ?_
    refine wpAny_execs_nil ?_
    have hup := Heap.get?_update_self (h := s'.heap) (fun o => { o with slots := (o.slots ++ Array.replicate (0 + 1 - o.slots.size) none).setIfInBounds 0 (some v) }) htb.1 (by rfl)
    have hin : ({ (instObj K dx) with slots := ((instObj K dx).slots ++ Array.replicate (0 + 1 - (instObj K dx).slots.size) none).setIfInBounds 0 (some v) } : Obj) = inO K dx v := by kernel_rfl
    have hup2 := hup.trans (congrArg some hin)
    have hoth : ∀ b, b ≠ x → (s'.heap.update x fun o => { o with slots := (o.slots ++ Array.replicate (0 + 1 - o.slots.size) none).setIfInBounds 0 (some v) }).get? b = s'.heap.get? b := fun b hb => Heap.get?_update_other _ _ (Ne.symm hb)
    have lx := zL (o := inO K dx v) hψx
    have lf := l.trans (ld.trans lx)
    refine ⟨rfl, put (put ψ dx emptyDict) x (inO K dx v), ⟨⟨?_, fun b o e => ?_⟩, ld.trans lx, fun b ob e => ?_, fun b ob e => ?_⟩, ⟨⟨x, K, dx, v, c, oc, fv, rfl, zA _ _ _, lx _ _ (zA _ _ _), P.mono (ld.trans lx) hv1, hK.le lf, lf _ _ hc, hoc, PF.mono lf hfv⟩, x, dx, v, rfl, zA _ _ _⟩⟩
    · obtain ⟨h3, tk3, e3⟩ := Y'.ext.rest
      subst e3
      exact ⟨_, _, rfl⟩
    · have hb : b ≠ x := fun z => by subst z; have e' : h.get? b = some o := e; rw [hn1] at e'; cases e'
      have kb := Y'.ext.kept b o (kp b o e)
      have hF : (Fix.F ⟨A.under (.builtin "type.__call__" ⟨[.ref K, v], []⟩), (A.under (.builtin "type.__call__" ⟨[.ref K, v], []⟩)).deeper env, put ψ dx emptyDict, ⟨h2, g, d, t, os⟩, env.locals :: env.cells.map (·.2), env, none, [(x, instObj K dx)]⟩) = x :: frs A := by
        show x :: frs (A.under _) = _; rw [zEP]
      rw [hF] at kb
      show zDO (frs A) b o (Heap.get? _ b)
      rw [hoth b hb]
      exact kb.less hb
    · show Heap.get? _ b = some ob
      by_cases z : b = x
      · subst z; rw [zA] at e; cases e; exact hup2
      · rw [zC z] at e; rw [hoth b z]; exact Y'.sub b ob e
    · by_cases z : b = x
      · subst z; exact .inr hn1
      · rw [zC z] at e; exact g2.new b ob e
  · rcases r with e | (_ | _ | _ | r) <;> first | exact z.elim | exact ⟨z.1, z.2⟩
theorem vK_get {ds : Nat → Stmt} {K x dx c : Addr} {u : Value} {expr : Bool} {Q : Value → Shared → Prop} (hK : zCb ds c ψ K) (hs : Sub ψ s.heap) (hx : ψ x = some (inO K dx u)) (hd : ψ dx = some emptyDict) (hh : handedIn u = true) (q : Q u { s with toks := s.toks + 1 }) : wpAny (model prog w) A (getAttr (.ref x) "obj" expr) Q E s := by
  obtain ⟨F, md, st, kvs, f, hb, hin⟩ := hK.frag
  obtain ⟨pm, t1, t2, fl, sl, f0, f1, f2, f3, f4, f5, tks, rfl, -⟩ := hb
  have X := hin _ hs
  have I : InstAt s.heap x (inO K dx u) K (some emptyDict) := ⟨hs _ _ hx, rfl, rfl, hs _ _ hd⟩
  have hga : findIn F (.ref K) "__getattribute__" = some (some (.builtin "object.__getattribute__")) := f.find (fun _ => by kernel_rfl) (fun v e => by cases e)
  have hg2 : findIn F (.ref K) "__getattr__" = some none := f.find (fun _ => by kernel_rfl) (fun v e => by cases e)
  have hobj : findIn F (.ref K) "obj" = some (some (.ref md)) := f.find (fun e => by cases e) (fun v e => by cases e; rfl)
  have htk : takesIn F (.ref md) = some true := by
    unfold takesIn specialIn
    rw [f.typ]
    kernel_rfl
  have hsp : specialIn F (.ref md) "__get__" = some (some (.builtin "member_descriptor.__get__")) := by
    unfold specialIn
    rw [f.typ]
    kernel_rfl
  have hcl : (clsIn F K).isSome = true := by obtain ⟨cd, oK, h1, _⟩ := f.cls; rw [h1]; rfl
  exact get_bind X I hga (findObj_data hcl hobj hsp htk) hg2 (wpAny_call (slot_get (s := { s with toks := s.toks + 1 }) (by exact X) (by exact I) (zFA (h := s.heap) f) (by rfl) (handed_on hh q)))
theorem ev_obj {ds : Nat → Stmt} {PF P : VP} {x : Str} {px pos : Pos} (hx : Γ.lookup x = some (vK ds PF P)) (hv : zu (sc.names.lookup x) = true) (hd : (x == ("__debug__" : Str) || x == ("__classdict__" : Str)) = false) (hH : ∀ ψ v, P.p ψ v → handedIn v = true) : Ev prog w μ sc Γ φ (.Attribute (.Name x px) "obj" pos) P := by
  intro A env m ψ s he c l f t
  obtain ⟨v, hm, hp⟩ := t x _ hx
  obtain ⟨xa, K, dx, u, cc, o, fv, rfl, h1, h2, h3, h4, h5, h6, h7⟩ := hp
  simp only [Bool.or_eq_false_iff] at hd
  unfold zBJ
  rw [arm_eval_Attribute, zy]
  refine zIt (wpAny_Name (zBN f (by rw [he]; exact hv) hm ?_ hd.2) hd.1)
  refine zIt (wpAny_standAt ?_)
  refine zIt (zIw ?_)
  refine vK_get h4 c.sub h1 h2 (hH _ _ h3) ?_
  refine zIt (zIu ?_)
  exact zIu ⟨ψ, zb c.sub, h3⟩
theorem spec_clo {a cc : Addr} {fd : FuncData} {o : Obj} {fv : Value} {y : Str} {e : Expr} {rp : Pos} {names : List Str} {Ps : List VP} {PF R : VP} (K : FnK φ a fd) (hb : fd.body = .stmts [.Return (some e) rp]) (hcl : fd.closure = [(y, cc)]) (hcell : φ cc = some o) (ho : o.data = .cell (some fv)) (hfv : PF.p φ fv) (hlen : names.length = Ps.length) (hbind : ∀ vs : List Value, vs.length = names.length → bindArgs fd ⟨vs, []⟩ = pure (names.zip vs)) (hnd : decide (names.Nodup) = true) (hloc : (names.all fun x => fd.scope.names.lookup x == some .local) = true) (hnc : (fd.scope.names.all fun x => x.2 != .cell) = true) (hfree : ∀ x, fd.scope.names.lookup x = some .free → x = y) (hy : fd.scope.names.lookup y = some .free) (hyn : names.contains y = false) (h : Ev prog w ⟨k, n⟩ fd.scope ((y, PF) :: names.zip Ps) φ e R) : zj prog w ⟨k + 1, n⟩ φ (.ref a) Ps R := by
  intro A ψ s vs c l hv
  have hl : vs.length = names.length := by rw [hlen, hv.length]
  refine zEB (tb := []) (mc := fun _ => some fv) (fun p hp => by cases hp) c (K.le l) hb (BindsTo.of_eq (hbind vs hl)) ?_ hnc (fun x hx => ?_) (fun x z c' h1 h2 => ?_) (fun x c' h1 => ?_) fun env s' he hcd x' => ?_
  · rw [List.all_eq_true] at hloc ⊢
    intro z hz
    exact hloc z.1 (List.of_mem_zip hz).1
  · have := hfree x hx; subst this
    exact ⟨cc, o, by rw [hcl]; simp [List.lookup_cons], l _ _ hcell, ho⟩
  · rw [hcl, List.lookup_cons] at h1 h2
    split at h1
    · rename_i q1
      split at h2
      · rename_i q2; rw [eq_of_beq q1, eq_of_beq q2]
      · cases h2
    · cases h1
  · rw [hcl, List.lookup_cons] at h1
    split at h1
    · cases h1; exact ⟨o, l _ _ hcell⟩
    · cases h1
  · have cX : CX ⟨k, n⟩ ⟨A, A.deeper env, ψ, s, [env.locals], env, none, []⟩ := CX.of c rfl
    have bX : B ⟨A, A.deeper env, ψ, s, [env.locals], env, none, []⟩ ((y, PF) :: names.zip Ps) ψ (fun _ => none) s' := by
      refine ⟨_, x', fun x R' hx => ?_⟩
      rw [List.lookup_cons] at hx
      split at hx
      · rename_i q
        cases hx
        have := eq_of_beq q; subst this
        exact ⟨fv, by rw [if_neg (by rw [hy]; decide)], PF.mono l hfv⟩
      · have hT : Typ (names.zip Ps) ψ (fun x => (names.zip vs).reverse.lookup x) := by
          refine zAZ ?_ ?_
          · refine zO.of_get (by simp [hl, hlen]) fun i a b ha hb => ?_
            rw [List.getElem?_zip_eq_some] at ha hb
            refine ⟨by have := ha.1.symm.trans hb.1; exact Option.some.inj this, ?_⟩
            obtain ⟨v, hv', hp⟩ := hv.get ha.2
            rw [hb.2] at hv'; cases hv'
            exact hp
          · have : (names.zip Ps).map (·.1) = names := by rw [List.map_fst_zip (by omega)]
            rw [this]; exact hnd
        obtain ⟨v, h1, h2⟩ := hT x R' hx
        have hxn : x ∈ names := (List.of_mem_zip (mem_of_lookup hx)).1
        have hxl := List.all_eq_true.mp hloc x hxn
        exact ⟨v, by rw [if_pos (by simpa using hxl)]; exact h1, h2⟩
    refine zBC bX (zBi.pure cX (by rw [show env.scope = fd.scope from he]; exact fun A env m ψ' s he c l' f t => h A env m ψ' s he c (l.trans l') f t)) fun v ψ3 s3 l3 p3 b3 => ⟨ψ3, b3.toGrow, p3⟩
theorem EvA.le {es : List Expr} {Ps : List VP} (h : EvA prog w μ sc Γ φ es Ps) (l : Le φ ψ) : EvA prog w μ sc Γ ψ es Ps := h.imp fun e P z => ⟨z.1, fun A env m χ s he c l' f t => z.2 A env m χ s he c (l.trans l') f t⟩
theorem ev_callv {x : Str} {px pos : Pos} {args : List Expr} {PF : VP} {Ps : List VP} {R : VP} (hx : Γ.lookup x = some PF) (hv : zu (sc.names.lookup x) = true) (hd : (x == ("__debug__" : Str) || x == ("__classdict__" : Str)) = false) (ha : EvA prog w μ sc Γ φ args Ps) (hP : ∀ ψ v, PF.p ψ v → zw ψ v ∧ zj prog w μ ψ v Ps R) : Ev prog w μ sc Γ φ (.Call (.Name x px) args [] pos) R := by
  intro A env m ψ s he c l f t
  rw [arm_eval_Call_Name']
  refine zBJ.bind ((zFM hx hv hd : Ev prog w μ sc Γ φ (.Name x px) PF) A env m ψ s he c l f t) fun v ψ1 s1 g1 p1 => ?_
  obtain ⟨hk, hs⟩ := hP _ _ p1
  exact zBd (Fs := []) he (ha.le (l.trans g1.le)) hk hs (c.grow g1) (Le.refl _) (f.ext g1.ext) (t.le g1.le) .nil
theorem zw.le {f : Value} (h : zw φ f) (l : Le φ ψ) : zw ψ f := fun M hp hs => h M hp fun a o e => hs a o (l a o e)
noncomputable def vFn (prog : Program) (w : World) (μ : Md) {α : Type} (P : α → VP) (cmp : α → α → Int) : VP := ⟨fun ψ v => zw ψ v ∧ ∀ a b, zj prog w μ ψ v [P a, P b] (vInt (cmp a b)), fun l h => ⟨h.1.le l, fun a b => (h.2 a b).le l⟩⟩
theorem zCw {α : Type} {ds : Nat → Stmt} {d : Stmt} {f cc : Addr} {o : Obj} {fv : Value} {op : CmpOp} {Q : α → VP} {cmp : α → α → Int} {a b : α} {r : Bool} (hF : FK φ [("mycmp", cc)] d f) (hcell : φ cc = some o) (ho : o.data = .cell (some fv)) (hlim : zD φ cStatics "sys.recursionlimit" none) (hfv : (vFn prog w ⟨k, n⟩ Q cmp).p φ fv) (hH : ∀ z ψ v, (Q z).p ψ v → handedIn v = true) (hsk : (zg d).kind = .function) (hco : (zg d).isCoroutine = false) (hgn : (zg d).isGenerator = false) (hsc : (zg d).names = ([("self", NameKind.local), ("other", NameKind.local), ("mycmp", NameKind.free)] : List (Str × NameKind))) (hbd : ∃ p1 p2 p3 p4 p5 p6 p7 p8 p9, zGy d = [.Return (some (.Compare (.Call (.Name "mycmp" p1) [.Attribute (.Name "self" p2) "obj" p3, .Attribute (.Name "other" p4) "obj" p5] [] p6) [op] [.Constant (.int 0) 0 p7] p8)) p9]) (hbind : ∀ pm cd ct a b, bindArgs (fnD (zDx d) (qK ++ "." ++ zDx d) (zBv (dArgs d)) (.stmts (zGy d)) (zg d) [("mycmp", cc)] pm cd ct) ⟨[a, b], []⟩ = pure ([("self", a), ("other", b)] : List (Str × Value))) (hop : Op2 prog w ⟨k, n⟩ φ (compareOp op) (vInt (cmp a b)) (vInt 0) (zN r)) (hm : ∀ p, behindInMarks op (.Constant (.int 0) 0 p) = false) : zj prog w ⟨k + 1, n⟩ φ (.ref f) [vK ds (vFn prog w ⟨k, n⟩ Q cmp) (Q a), vK ds (vFn prog w ⟨k, n⟩ Q cmp) (Q b)] (zN r) := by
  obtain ⟨pm, cd, ct, FN⟩ := hF.fnK hlim hsk hco hgn
  obtain ⟨p1, p2, p3, p4, p5, p6, p7, p8, p9, hbd⟩ := hbd
  refine spec_clo (y := "mycmp") (cc := cc) (names := ["self", "other"]) (PF := vFn prog w ⟨k, n⟩ Q cmp) FN (by dsimp only [fnD]; rw [hbd]) rfl hcell ho hfv rfl (fun vs h => by obtain ⟨u, v, rfl⟩ := zZ h; exact hbind _ _ _ _ _) (by decide +kernel) (by dsimp only [fnD]; rw [hsc]; rfl) (by dsimp only [fnD]; rw [hsc]; rfl) (fun x hx => ?_) (by dsimp only [fnD]; rw [hsc]; rfl) (by decide +kernel) ?_
  · dsimp only [fnD] at hx
    rw [hsc] at hx
    simp only [List.lookup_cons] at hx
    split at hx
    · cases hx
    · split at hx
      · cases hx
      · split at hx
        · rename_i q; exact eq_of_beq q
        · cases hx
  · have hself : zu ((zg d).names.lookup ("self" : Str)) = true := by rw [hsc]; rfl
    have hoth : zu ((zg d).names.lookup ("other" : Str)) = true := by rw [hsc]; rfl
    have hmy : zu ((zg d).names.lookup ("mycmp" : Str)) = true := by rw [hsc]; rfl
    show Ev prog w ⟨k, n⟩ (zg d) [("mycmp", vFn prog w ⟨k, n⟩ Q cmp), ("self", vK ds (vFn prog w ⟨k, n⟩ Q cmp) (Q a)), ("other", vK ds (vFn prog w ⟨k, n⟩ Q cmp) (Q b))] φ _ _
    refine ev_cmp (P := vInt (cmp a b)) (Q := vInt 0) (ev_callv (PF := vFn prog w ⟨k, n⟩ Q cmp) (Ps := [Q a, Q b]) (by rfl) hmy (by rfl) (a2 (ev_obj (by rfl) hself (by rfl) (hH a)) (ev_obj (by rfl) hoth (by rfl) (hH b))) (fun ψ v h => ⟨h.1, h.2 a b⟩)) ev_int hop (hm _)
theorem zHu {K x f : Addr} {kvs : List (Str × Value)} {ox of : Obj} {name : Str} {args : List Value} {Q : Option Value → Shared → Prop} (T : KAt s.heap K kvs) (hx : s.heap.get? x = some ox) (hc : ox.cls = .ref K) (hl : kvs.lookup name = some (.ref f)) (hf : s.heap.get? f = some of) (hfc : of.cls = .type "function") (h : wpAny (model prog w) A (call (.ref f) (.ref x :: args)) (fun v => Q (some v)) E s) : wpAny (model prog w) A (callSpecialIfBound? (.ref x) name args) Q E s := by
  have ht : wpAny (model prog w) A (typeOf (.ref f)) (fun t s' => t = .type "function" ∧ s' = s) E s := wpAny_typeOf ⟨_, hf, hfc⟩ ⟨rfl, rfl⟩
  have hb : ∀ {Q' : Value × List Value → Shared → Prop} {E'}, Q' (.ref f, [.ref x]) s → wpAny (model prog w) A (bindSpecial (.ref f) (.ref x)) Q' E' s := fun {Q'} {E'} q => by
    unfold bindSpecial
    exact zIt (wpAny_typeOf ⟨_, hf, hfc⟩ (zS (by decide) (zIu q)))
  simp only [callSpecialIfBound?, bindSpecialIfBound?]
  refine zIw (zIt (zIt ?_))
  have fin : wpAny (model prog w) A (call (.ref f) ([.ref x] ++ args) >>= fun v => pure (some v)) Q E s :=
    zIt (zIv h (fun v s' h' => zIu h') fun _ _ h' => h')
  unfold specialOf
  refine zIt ?_
  show wpAny _ _ (do return (← load x).cls) _ _ _
  refine zIt (wpAny_load hx (zIu ?_))
  rw [hc]
  refine T.look (r := some (.ref f)) (fun e => by rw [hl] at e; cases e) (fun v e => by rw [hl] at e; exact e) ?_
  dsimp only
  refine zIt (wpAny_askSetting (wpAny_ite ?_))
  split
  · exact zIt (hb (zIu fin))
  · exact wpAny_tryCatch (zIt (hb (zIu fin)))
theorem op_K {α : Type} {ds : Nat → Stmt} {op : CmpOp} {sym : String} {nm rf : Str} {Q : α → VP} {PF : VP} {a b : α} {r : Bool} (hi : cmpInfo op = (sym, nm, rf)) (hco : ∀ u v, compareOp op u v = richCompare op u v) (hm : ∀ {ψ c K}, Le φ ψ → zCb ds c ψ K → (∃ o fv, ψ c = some o ∧ o.data = .cell (some fv) ∧ PF.p ψ fv) → ∀ {md st kvs}, BdK ds c ψ kvs → ∃ f of, (kvF md (zt "__static_attributes__" (.ref st) kvs)).lookup nm = some (.ref f) ∧ ψ f = some of ∧ of.cls = .type "function" ∧ zj prog w ⟨k, n⟩ ψ (.ref f) [vK ds PF (Q a), vK ds PF (Q b)] (zN r)) : Op2 prog w ⟨k, n⟩ φ (compareOp op) (vK ds PF (Q a)) (vK ds PF (Q b)) (zN r) := by
  intro A ψ s u v c l hu hv
  have hu0 := hu
  have hv0 := hv
  obtain ⟨x, K, dx, ux, cc, o, fv, rfl, h1, h2, h3, h4, h5, h6, h7⟩ := hu
  obtain ⟨y, K', dy, uy, cc', o', fv', rfl, j1, j2, j3, j4, j5, j6, j7⟩ := hv
  obtain ⟨md, st, kvs, T, hb, -⟩ := h4.at c.sub
  obtain ⟨md', st', kvs', T', hb', -⟩ := j4.at c.sub
  obtain ⟨f, of, e1, e2, e3, hs⟩ := hm (md := md) (st := st) l h4 ⟨o, fv, h5, h6, h7⟩ hb
  have hx := c.sub _ _ h1
  have hy := c.sub _ _ j1
  have hcU : A.units < cLine := by have := c.units; simp at this; show _ < 9900; omega
  unfold zBJ
  rw [hco]
  unfold richCompare
  rw [hi]
  refine zIw (zIt (wpAny_cRoomFor hcU ?_))
  rw [show oneThing? op (.ref x) (.ref y) = none from oneThing_ref ..]
  dsimp only
  have try1 : wpAny (model prog w) A (tryCompare (.ref x) nm (.ref y)) (fun q s' => q = some (.bool r) ∧ ∃ ψ', zQ (frs A) ψ s ψ' s') (fun _ _ => False) s := by
    unfold tryCompare
    refine zIt (zHu T hx rfl e1 (c.sub _ _ e2) e3 ?_)
    refine zIv (hs A ψ s [.ref x, .ref y] c (Le.refl _) (.cons hu0 (.cons hv0 .nil))) (fun v s' z => ?_) fun _ _ z => z
    obtain ⟨ψ', g, p⟩ := z
    cases p
    exact zIu ⟨rfl, ψ', g⟩
  refine zIt (show wpAny _ _ (do return (← load x).cls) _ _ _ from zIt (wpAny_load hx (zIu ?_)))
  refine zIt (show wpAny _ _ (do return (← load y).cls) _ _ _ from zIt (wpAny_load hy (zIu ?_)))
  by_cases hKK : K = K'
  · refine zJ (by show ¬ ((Value.ref K != Value.ref K') = true); simp [hKK]) ?_
    refine zIt (zIu ?_)
    refine zJ (by decide) ?_
    refine zIt (zIv try1 (fun q s' z => ?_) fun _ _ z => z)
    obtain ⟨rfl, ψ', g⟩ := z
    exact zIu ⟨ψ', g, rfl⟩
  · refine zS (by show (Value.ref K != Value.ref K') = true; simp [hKK]) ?_
    refine zIt (T'.sub ?_)
    refine zJ (by show ¬ ([Value.ref K', .type "object"].contains (Value.ref K) = true); simp [hKK]) ?_
    refine zIt (zIv try1 (fun q s' z => ?_) fun _ _ z => z)
    obtain ⟨rfl, ψ', g⟩ := z
    exact zIu ⟨ψ', g, rfl⟩
theorem S.growT {P : Addr} {ps : Array Value} {ψ' : PM} (Y : S X m ψ ω s) (cx : CX μ X) (hP : (P, tabObj #[]) ∈ X.tb) (g : zQ (P :: frs X.A) ψ s ψ' s') (ht : s'.heap.get? P = some (tabObj ps)) (hψ : ψ' P = none) : S (X.setTb P (tabObj ps)) m ψ' ω s' := by
  have hPt := Y.tab _ hP
  have hn : ∀ c oc, s.heap.get? c = some oc → ψ c = none → ψ' c = none := fun c oc hoc hc => by
    cases q : ψ' c with
    | none => rfl
    | some o =>
      rcases g.new c o q with z | z
      · rw [hc] at z; cases z
      · rw [hoc] at z; cases z
  have hPF : P ∈ X.F := List.mem_append_left _ (List.mem_map.mpr ⟨_, hP, rfl⟩)
  refine ⟨?_, Y.le.trans g.le, fun b o e => ?_, g.sub, Y.fram.ext g.ext, Y.link, (fun e he => (Y.hnd e he).le g.le), Y.loc, fun c hc => ?_, fun c hc => ?_, Y.fre, fun a o e => ?_, fun p hp => ?_⟩
  · rw [zAi]
    exact Y.ext.trans_new g.ext fun b hb => by
      rcases List.mem_cons.mp hb with rfl | hb
      · exact .inl hPF
      · exact Y.frs_new cx b hb
  · rcases g.new b o e with z | z
    · exact Y.new b o z
    · exact .inr (Y.ext.none z)
  · obtain ⟨o, ho⟩ := Y.there c hc
    exact g.ext.there ho
  · obtain ⟨o, ho⟩ := Y.there c hc
    exact ⟨hn c o ho (Y.off c hc).1, (Y.off c hc).2⟩
  · obtain ⟨h1, h2, h3, h4⟩ := Y.own a o e
    refine ⟨g.ext.keep_off h1 fun hm => ?_, hn a o h1 h2, h3, h4⟩
    rcases List.mem_cons.mp hm with rfl | hm
    · rw [hPt.2.2.2.1] at e; cases e
    · obtain ⟨fr, ee, _⟩ := cx.stk
      rcases Y.link.frs ee hm with rfl | hm
      · exact h4 Y.loc
      · obtain ⟨ob, hob⟩ := zBf cx.stk hm
        rw [h3] at hob; cases hob
  · obtain ⟨p0, hp0, rfl⟩ := List.mem_map.mp hp
    obtain ⟨h1, h2, h3, h4, h5, h6⟩ := Y.tab p0 hp0
    by_cases q : p0.1 = P
    · rw [if_pos q]
      rw [q] at h2 h3 h4 h5 h6
      exact ⟨ht, hψ, h3, h4, h5, h6⟩
    · rw [if_neg q]
      refine ⟨g.ext.keep_off h1 fun hm => ?_, hn p0.1 p0.2 h1 h2, h3, h4, h5, h6⟩
      rcases List.mem_cons.mp hm with z | hm
      · exact q z
      · obtain ⟨fr, ee, _⟩ := cx.stk
        rcases Y.link.frs ee hm with z | hm
        · exact h3 (z ▸ Y.loc)
        · exact h5 hm
theorem S.wext {s' : Shared} (x : S X m ψ ω s) (hr : ∃ h' tk, s' = { s with heap := h', toks := tk }) (hs : ∀ b o, s.heap.get? b = some o → s'.heap.get? b = some o) : S X m ψ ω s' := by
  have y := x.wmove (wr := []) (fun b hb => nomatch hb) hr fun b o _ e => hs b o e
  have e : zAS ω [] s'.heap = ω := by funext b; unfold zAS; simp
  rw [e] at y; exact y
theorem zE8 {wr : List Addr} {h h' : Heap} (k : ∀ b ∈ wr, h'.get? b = h.get? b) : zAS ω wr h = zAS ω wr h' := by
  funext b
  unfold zAS
  by_cases q : b ∈ wr
  · simp [q, k b q]
  · simp [q]
theorem zHV {I : Addr} {fp wr fz : List Addr} {nn : Nat} {Pt : Nat → Array Value → Prop} {St : Nat → Heap → Prop} {Mid : Nat → Addr → Heap → Prop} {P1 P2 : Nat → VP} {x y : Str} {px py pt : Pos} {kk : Nat} (hh : A.handled = none) (W : WalksT prog w A I fp wr nn Pt St Mid) (hfp : ∀ b ∈ fp, b ∈ wr ∨ b ∈ fz) (hlive : ∀ i h, St i h → ∀ b ∈ wr, ∃ o, h.get? b = some o) (hfz : ∀ b ∈ fz, ∃ o, ψ b = some o) (hv : ∀ i vals, i < nn → Pt i vals → ∃ u v, vals = #[u, v] ∧ (P1 i).p ψ u ∧ (P2 i).p ψ v) : zCU prog w A ψ (.Tuple [.Name x px, .Name y py] kk pt) (.ref I) wr fz nn (fun i => [(y, P2 i), (x, P1 i)]) St := by
  refine ⟨fun i h h' hs hk => W.frame i h h' hs fun b hb o e => hk b (hfp b hb) o e, hlive, W.self, ?_, ?_⟩
  · intro i X m ψ' ω s Q E hi Y l hst hw hk q
    refine W.item i s _ _ hi hst fun T vals h1 tk hPt hT hIsT hMid hkeep => ⟨.ref T, rfl, W.go _ _ _ i T _ _ _ hMid fun h2 hst2 hkeep2 => ?_⟩
    have hTw := W.apart _ _ _ hMid
    obtain ⟨u, v, rfl, pu, pv⟩ := hv i vals hi hPt
    have Y1 := Y.wmove (s' := { s with heap := h2, toks := tk }) hw ⟨h2, tk, rfl⟩ fun b o hb e => hkeep2 b o hb (hkeep b o hb e)
    have hT2 : h2.IsTuple T #[u, v] := hIsT.at fun o e => hkeep2 T o hTw e
    refine wpAny_assign_Tuple hh hT2 rfl rfl fun h3 hx3 => ?_
    replace hx3 : Heap.ExtBut h2.objs.size h2 h3 := hx3
    have k23 : ∀ b o, h2.get? b = some o → h3.get? b = some o := fun b o e => hx3 b o (Nat.ne_of_lt (Heap.lt_size e)) e
    have Y2 := Y1.wext (s' := { s with heap := h3, toks := tk }) ⟨h3, tk, rfl⟩ k23
    show wpAny _ A (do holding [v] (assign (.Name x px) X.env u); do holding [] (assign (.Name y py) X.env v); pure ()) _ _ _
    refine zIt (zIw (wpAny_assign_Name (Y2.store (hk (x, P1 i) (.tail _ (.head _))) fun s4 Y4 => ?_)))
    refine zIt (zIw (wpAny_assign_Name (Y4.store (hk (y, P2 i) (.head _)) fun s5 Y5 => zIu ?_)))
    have key : ∀ b ∈ wr, s5.heap.get? b = h2.get? b := fun b hb => by
      obtain ⟨o, ho⟩ := hlive _ _ hst2 b hb
      rw [ho]
      exact (Y5.own b o (by rw [zBD hb]; exact ho)).1
    rw [zE8 key] at Y5
    refine q _ s5 Y5 (fun Γ t => ?_) (W.frame _ _ _ hst2 fun b hb o ho => ?_)
    · exact (t.cons ((P1 i).mono l pu)).cons ((P2 i).mono l pv)
    · rcases hfp b hb with z | z
      · rw [key b z]; exact ho
      · obtain ⟨o', ho'⟩ := hfz b z
        have h1 : h2.get? b = some o' := Y1.sub b o' (l _ _ ho')
        rw [ho] at h1; cases h1
        exact Y5.sub b o (l _ _ ho')
  · intro X m ψ' ω s Q E Y l hst hw q
    exact W.done s _ _ hst fun h' tk hkeep => q _ (Y.wmove (s' := { s with heap := h', toks := tk }) hw ⟨h', tk, rfl⟩ hkeep)
theorem zA4 {x : Str} {px pos : Pos} {args : List Expr} {fv : Value} {Ps : List VP} {Q : Value → Shared → Prop} (he : env.scope = sc) (hf : EV prog w μ sc Γ φ (.Name x px) (zT fv)) (hk : zw φ fv) (ha : EA prog w μ sc Γ φ args Ps) (c : Cx μ A ψ s) (l : Le φ ψ) (f : zCl env m s.heap) (t : Typ Γ ψ m) (q : ∀ vs ψ' s', zQ (frs A) ψ s ψ' s' → zO (fun (P : VP) v => P.p ψ' v) Ps vs → wpAny (model prog w) A (call fv vs) Q E s') : wpAny (model prog w) A (eval (.Call (.Name x px) args [] pos) env) Q E s := by
  rw [arm_eval_Call_Name']
  refine zIt ((hf.go A env m ψ s he c l f t).use fun v ψ1 s1 g1 p1 => ?_)
  cases p1
  refine callWith_of (P := fun h => ∃ k, (k = Keeper.frame ∨ k = Keeper.machine ∨ k = Keeper.boundFrame) ∧ Looks (model prog w) h (keeperOf fv) k) (by rw [zBw ha.go]; rfl) (fun _ x => x) ?_
  refine zCm he ha.go (c.grow g1) (l.trans g1.le) (f.ext g1.ext) (t.le g1.le) fun vs ψ' s' g p => ?_
  exact ⟨hk _ _ (fun a o e => g.sub a o (g.le _ _ (g1.le _ _ (l _ _ e)))), q vs ψ' s' (g1.trans g) p⟩
structure Wk (F : List Addr) (ψ₀ : PM) (s₀ : Shared) (ψ ω : PM) (s : Shared) : Prop where
  g : zQ F ψ₀ s₀ ψ s
  own : ∀ a o, ω a = some o → s.heap.get? a = some o ∧ ψ a = none ∧ s₀.heap.get? a = none
section
variable {F : List Addr} {ψ₀ : PM} {s₀ : Shared}
theorem Wk.start (h : Sub ψ s.heap) : Wk F ψ s ψ (fun _ => none) s := ⟨zQ.refl h, fun _ _ e => nomatch e⟩
theorem Wk.keeps {tk : Nat} {h' : Heap} (x : Wk F ψ₀ s₀ ψ ω s) (hk : ∀ b o, s.heap.get? b = some o → h'.get? b = some o) : Wk F ψ₀ s₀ ψ ω { s with heap := h', toks := tk } :=
  ⟨⟨x.g.ext.trans (Ext.of_keeps hk), x.g.le, fun a o e => hk a o (x.g.sub a o e), x.g.new⟩, fun a o e => ⟨hk a o (x.own a o e).1, (x.own a o e).2⟩⟩
theorem Wk.lay {a : Addr} {o : Obj} (x : Wk F ψ₀ s₀ ψ ω s) (h1 : s.heap.get? a = some o) (h2 : s₀.heap.get? a = none) (h3 : ψ a = none) : Wk F ψ₀ s₀ ψ (put ω a o) s :=
  ⟨x.g, fun b z e => by
    by_cases q : b = a
    · subst q; rw [zA] at e; cases e; exact ⟨h1, h3, h2⟩
    · rw [zC q] at e; exact x.own b z e⟩
theorem Wk.set {a : Addr} {o o' : Obj} {h' : Heap} {tk : Nat} (x : Wk F ψ₀ s₀ ψ ω s) (ha : ω a = some o) (he : h'.get? a = some o') (hk : ∀ b, b ≠ a → h'.get? b = s.heap.get? b) : Wk F ψ₀ s₀ ψ (put ω a o') { s with heap := h', toks := tk } := by
  obtain ⟨h1, h2, h3⟩ := x.own a o ha
  refine ⟨⟨?_, x.g.le, fun b z e => ?_, x.g.new⟩, fun b z e => ?_⟩
  · obtain ⟨g, t, rfl⟩ := x.g.ext.rest
    refine ⟨⟨h', tk, rfl⟩, fun b z e => ?_⟩
    have hb : b ≠ a := fun q => by rw [q, h3] at e; cases e
    have := x.g.ext.kept b z e
    show zDO F b z (h'.get? b)
    rw [hk b hb]; exact this
  · have hb : b ≠ a := fun q => by rw [q, h2] at e; cases e
    exact (hk b hb).trans (x.g.sub b z e)
  · by_cases q : b = a
    · subst q; rw [zA] at e; cases e; exact ⟨he, h2, h3⟩
    · rw [zC q] at e
      obtain ⟨k1, k2⟩ := x.own b z e
      exact ⟨(hk b q).trans k1, k2⟩
theorem Wk.call {μ : Md} {ψ' : PM} (x : Wk (frs A) ψ₀ s₀ ψ ω s) (st : Stk A s₀.heap) (g : zQ (frs A) ψ s ψ' s') : Wk (frs A) ψ₀ s₀ ψ' ω s' := by
  refine ⟨x.g.trans g, fun a o e => ?_⟩
  obtain ⟨h1, h2, h3⟩ := x.own a o e
  refine ⟨g.ext.keep_off h1 fun hm => ?_, ?_, h3⟩
  · obtain ⟨o', ho'⟩ := zBf st hm
    rw [h3] at ho'; cases ho'
  · cases q : ψ' a with
    | none => rfl
    | some o' =>
      rcases g.new a o' q with z | z
      · rw [h2] at z; cases z
      · rw [h1] at z; cases z
theorem Wk.freeze {a : Addr} {o : Obj} (x : Wk F ψ₀ s₀ ψ ω s) (ha : ω a = some o) : zQ F ψ₀ s₀ (put ψ a o) s := by
  obtain ⟨h1, h2, h3⟩ := x.own a o ha
  refine ⟨x.g.ext, x.g.le.trans (zL h2), x.g.sub.put h1, fun b z e => ?_⟩
  by_cases q : b = a
  · subst q; exact .inr h3
  · rw [zC q] at e; exact x.g.new b z e
end
noncomputable def zh {α : Type} (lt : Nat → Nat → Bool) : KasT α → α
  | .ret a => a
  | .ask i j k => zh lt (k (lt i j))
inductive zx (n : Nat) {α : Type} : KasT α → (α → Prop) → Prop
  | ret {a : α} {R : α → Prop} : R a → zx n (.ret a) R
  | ask {i j : Nat} {k : Bool → KasT α} {R : α → Prop} : i < n → j < n → (∀ b, zx n (k b) R) → zx n (.ask i j k) R
theorem zx.bind {n : Nat} {α β : Type} {t : KasT α} {f : α → KasT β} {R : α → Prop} {R' : β → Prop} (h : zx n t R) (k : ∀ a, R a → zx n (f a) R') : zx n (t.bind f) R' := by
  induction h with
  | ret h => exact k _ h
  | ask h1 h2 _ ih => exact .ask h1 h2 fun b => ih b k
theorem zx.run {n : Nat} {α : Type} {lt : Nat → Nat → Bool} {t : KasT α} {R : α → Prop} (h : zx n t R) : R (zh lt t) := by
  induction h with
  | ret h => exact h
  | ask _ _ _ ih => exact ih _
def Sm (n : Nat) (p : Array Nat) : Prop := p.size = n ∧ ∀ x ∈ p, x < n
theorem Sm.get {n : Nat} {p : Array Nat} (h : Sm n p) (hn : 0 < n) (k : Nat) : p.getD k 0 < n := by
  unfold Array.getD
  split
  · exact h.2 _ (Array.getElem_mem _)
  · exact hn
theorem Sm.perm {n : Nat} {p q : Array Nat} (h : Sm n p) (e : q.Perm p) : Sm n q := ⟨e.size_eq.trans h.1, fun x hx => h.2 x (e.mem_iff.mp hx)⟩
theorem Sm.rev {n : Nat} {p : Array Nat} (h : Sm n p) (i j : Nat) : Sm n (kas_rev p i j) := h.perm (mirror_perm _ _ _ _)
theorem zDy {n : Nat} {p : Array Nat} (h : Sm n p) (hn : 0 < n) : ∀ f k, zx n (kas_asc p f k) fun _ => True
  | 0, _ => .ret trivial
  | f + 1, k => .ask (h.get hn _) (h.get hn _) fun b => by
    cases b
    · exact zDy h hn f (k + 1)
    · exact .ret trivial
theorem zBx {n : Nat} (hn : 0 < n) : ∀ f p k q, Sm n p → zx n (kas_desc f p k q) fun r => Sm n r.1
  | 0, _, _, _, h => .ret h
  | f + 1, p, k, q, h => .ask (h.get hn _) (h.get hn _) fun b => by
    cases b
    · refine .ask (h.get hn _) (h.get hn _) fun d => ?_
      cases d
      · exact zBx hn f p (k + 1) (q + 1) h
      · exact .ret h
    · show zx n (if q > 0 then _ else _) _
      split
      · exact zBx hn f _ (k + 1) 0 (h.rev _ _)
      · exact zBx hn f p (k + 1) 0 h
theorem zDt {n : Nat} {p : Array Nat} (h : Sm n p) (hn : 0 < n) (a b : Nat) : zx n (kas_tail3 a b p) fun r => Sm n r.2 :=
  zx.bind (zDy (h.rev _ _) hn _ _) fun _ _ => .ret (h.rev _ _)
theorem zBn {n : Nat} {p : Array Nat} (h : Sm n p) (hn : 0 < n) (a b : Nat) : zx n (kas_descPart a b p) fun r => Sm n r.2 := by
  refine zx.bind (zBx hn _ _ _ _ h) fun r hr => ?_
  show zx n (if r.2.2 > 0 then _ else _) _
  split
  · exact zDt (hr.rev _ _) hn _ _
  · exact zDt hr hn _ _
theorem zGn {n : Nat} {p : Array Nat} (h : Sm n p) (hn : 0 < n) (a : Nat) : zx n (kas_count a p) fun r => Sm n r.2 := by
  refine zx.bind (zDy h hn _ _) fun r _ => ?_
  show zx n (if (r == a) = true then _ else if r > 1 then _ else _) _
  split
  · exact .ret h
  · split
    · refine .ask (h.get hn _) (h.get hn _) fun b => ?_
      cases b
      · exact zBn (h.rev _ _) hn _ _
      · exact .ret h
    · exact zBn h hn _ _
theorem zB9 {n : Nat} {p : Array Nat} (h : Sm n p) (hn : 0 < n) (k : Nat) : ∀ f l r, zx n (kas_place p k f l r) fun _ => True
  | 0, _, _ => .ret trivial
  | f + 1, l, r => by
    show zx n (if l ≥ r then _ else _) _
    split
    · exact .ret trivial
    · refine .ask (h.get hn _) (h.get hn _) fun b => ?_
      cases b
      · exact zB9 h hn k f _ _
      · exact zB9 h hn k f _ _
theorem zGI {n : Nat} (hn : 0 < n) : ∀ f p k, Sm n p → zx n (kas_bin f p k) (Sm n)
  | 0, _, _, h => .ret h
  | f + 1, p, k, h => zx.bind (zB9 h hn k _ _ _) fun l _ => zGI hn f _ _ (h.perm (bubble_perm _ _ _))
theorem zDC {n : Nat} (hn : 0 < n) : zx n (kas_sort n) (Sm n) := by
  refine zx.bind (zGn ⟨by simp, fun x hx => ?_⟩ hn _) fun r hr => ?_
  · simpa using hx
  · show zx n (if r.1 < n then _ else _) _
    split
    · exact zGI hn _ _ _ hr
    · exact .ret hr
theorem run_kas {n : Nat} {α : Type} {lt : Nat → Nat → Bool} {cmp : Nat → Nat → (Bool → Shared → Prop) → Shared → Prop} {I : Shared → Prop} (hc : ∀ i j s (C : Bool → Shared → Prop), i < n → j < n → I s → (∀ s', I s' → C (lt i j) s') → cmp i j C s) {t : KasT α} {R : α → Prop} (h : zx n t R) : ∀ {s : Shared} {Q : α → Shared → Prop}, I s → (∀ s', I s' → Q (zh lt t) s') → t.kasWp cmp Q s := by
  induction h with
  | ret _ => intro s Q i q; exact q s i
  | ask h1 h2 _ ih => intro s Q i q; exact hc _ _ s _ h1 h2 i fun s' i' => ih _ i' q
def OpLtK (κ : SortKind) (prog : Program) (w : World) (μ : Md) (φ : PM) (P Q : VP) (r : Bool) : Prop :=
  ∀ A ψ s u v, Cx μ A ψ s → Le φ ψ → P.p ψ u → Q.p ψ v → wpAny (model prog w) A (keyLt' κ u v) (fun b s' => b = r ∧ ∃ ψ', zQ (frs A) ψ s ψ' s') (fun _ _ => False) s
section
variable {ψ₀ : PM} {s₀ : Shared}
theorem zH3 {κ : SortKind} {nn : Nat} {it : Array Keyed} {Pk : Nat → VP} {lt : Nat → Nat → Bool} (h2 : 2 ≤ nn) (h64 : nn < 64) (hit : it.size = nn) (c₀ : Cx μ A ψ₀ s₀) (lφ : Le φ ψ) (x : Wk (frs A) ψ₀ s₀ ψ ω s) (hk : ∀ i < nn, (Pk i).p ψ (kas_item it i).1) (hlt : ∀ i < nn, ∀ j < nn, OpLtK κ prog w μ φ (Pk i) (Pk j) (lt i j)) : wpAny (model prog w) A (sortRuns'.run (SortSt.mk' κ it #[] 7 none)) (fun r s' => arrOf r.2 = (zh lt (kas_sort nn)).map (kas_item it) ∧ failedOf r.2 = none ∧ (zh lt (kas_sort nn)).size = nn ∧ Sm nn (zh lt (kas_sort nn)) ∧ ∃ ψ', Le ψ ψ' ∧ Wk (frs A) ψ₀ s₀ ψ' ω s') E s := by
  have hn : 0 < nn := by omega
  have est : SortSt.mk' κ it #[] 7 none = kas_st κ it (List.toArray (List.range nn)) := by
    have e := kas_range it
    rw [hit] at e
    show SortSt.mk' κ it #[] 7 none = SortSt.mk' κ ((List.toArray (List.range nn)).map (kas_item it)) #[] 7 none
    rw [e]
  rw [est]
  have hs := zDC hn
  refine kas_runs (E := E) (Q := fun _ st' s' => arrOf st' = (zh lt (kas_sort nn)).map (kas_item it) ∧ failedOf st' = none ∧ (zh lt (kas_sort nn)).size = nn ∧ Sm nn (zh lt (kas_sort nn)) ∧ ∃ ψ', Le ψ ψ' ∧ Wk (frs A) ψ₀ s₀ ψ' ω s')
    (G := fun p s' => p = zh lt (kas_sort nn) ∧ ∃ ψ', Le ψ ψ' ∧ Wk (frs A) ψ₀ s₀ ψ' ω s') h2 h64 (fun p' st' s' a1 a2 a3 a4 => ?_) ?_
  · obtain ⟨rfl, hx⟩ := a4
    exact ⟨a2, a3, a1, hs.run, hx⟩
  · refine run_kas (lt := lt) (I := fun s' => ∃ ψ', Le ψ ψ' ∧ Wk (frs A) ψ₀ s₀ ψ' ω s') (fun i j s1 C hi hj hI q => ?_) hs ⟨ψ, Le.refl _, x⟩ fun s' h => ⟨rfl, h⟩
    obtain ⟨ψ1, l1, x1⟩ := hI
    refine zIv (hlt i hi j hj A ψ1 s1 _ _ (c₀.grow x1.g) (lφ.trans l1) ((Pk i).mono l1 (hk i hi)) ((Pk j).mono l1 (hk j hj))) (fun b s2 h => ?_) fun _ _ e => e
    obtain ⟨rfl, ψ2, g⟩ := h
    exact q s2 ⟨ψ2, l1.trans g.le, x1.call (μ := μ) c₀.stk g⟩
end
noncomputable def zB5 {α : Type} (lt : α → α → Bool) (d : α) (xs : List α) : List α :=
  if xs.length < 2 then xs else (zh (fun i j => lt (xs.getD i d) (xs.getD j d)) (kas_sort xs.length)).toList.map (xs.getD · d)
theorem zEy {ps : List VP} {vs : List Value} (h : zO (fun (P : VP) v => P.p ψ v) ps vs) {i : Nat} (hi : i < ps.length) {D : VP} : (ps.getD i D).p ψ (vs.getD i Value.none) := by
  have h1 : ps[i]? = some ps[i] := List.getElem?_eq_getElem hi
  obtain ⟨v, e, p⟩ := h.get h1
  rw [List.getD_eq_getElem?_getD, List.getD_eq_getElem?_getD, h1, e]
  exact p
theorem zFD {α : Type} {P : α → VP} {xs : List α} {d : α} {vs : List Value} (h : zO (fun (P : VP) v => P.p ψ v) (xs.map P) vs) : ∀ (l : List Nat), (∀ i ∈ l, i < xs.length) → zO (fun (P : VP) v => P.p ψ v) ((l.map (xs.getD · d)).map P) (l.map fun i => vs.getD i Value.none)
  | [], _ => .nil
  | i :: l, hl => by
    have hi : i < xs.length := hl i (.head _)
    refine .cons ?_ (zFD h l fun j hj => hl j (.tail _ hj))
    have := zEy h (i := i) (D := P d) (by simpa using hi)
    rw [List.getD_eq_getElem?_getD, List.getElem?_map] at this
    show (P (xs.getD i d)).p ψ _
    rw [List.getD_eq_getElem?_getD]
    have e : xs[i]? = some xs[i] := List.getElem?_eq_getElem hi
    rw [e] at this ⊢
    exact this
section
variable {ψ₀ : PM} {s₀ : Shared}
def zIE (prog : Program) (w : World) (φ : PM) (κ : SortKind) (ps : List VP) : Prop :=
  ∀ A (E : Value → Shared → Prop) (Q : SortKind → Shared → Prop) ψ (s : Shared) vs, Le φ ψ → Sub ψ s.heap → 2 ≤ ps.length → zO (fun (P : VP) v => P.p ψ v) ps vs → Q κ s → wpAny (model prog w) A (keyKind' vs.toArray) Q E s
theorem zEi {κ : SortKind} {α : Type} {P : α → VP} {lt : α → α → Bool} {d : α} {xs : List α} {vs : List Value} {a : Addr} {j : Nat} {Q : PySem.Fin → Shared → Prop} (h64 : xs.length < 64) (c₀ : Cx μ A ψ₀ s₀) (lφ : Le φ ψ) (x : Wk (frs A) ψ₀ s₀ ψ ω s) (ha : ω a = some (lst vs j)) (hall : zO (fun (P : VP) v => P.p ψ v) (xs.map P) vs) (hK : zIE prog w φ κ (xs.map P)) (hlt : ∀ x y, OpLtK κ prog w μ φ (P x) (P y) (lt x y)) (q : ∀ ψ' s' us j', Le ψ ψ' → Wk (frs A) ψ₀ s₀ ψ' (put ω a (lst us j')) s' → zO (fun (P : VP) v => P.p ψ' v) ((zB5 lt d xs).map P) us → Q (.done (.ret .none)) s') : wpAny (model prog w) A (Builtin.«list.sort» ⟨[.ref a], []⟩) Q E s := by
  have hlen : vs.length = xs.length := by rw [← hall.length, List.length_map]
  obtain ⟨ho, hψa, h0a⟩ := x.own a _ ha
  replace ho : s.heap.get? a = some (seqObj "list" vs.toArray j) := ho
  have s1 := Heap.SameBut.update s.heap a (Obj.mapSeq fun _ => (#[] : Array Value))
  obtain ⟨e1, ho1⟩ : ∃ e1, (s.heap.update a (Obj.mapSeq fun _ => (#[] : Array Value))).get? a = some (seqObj "list" #[] e1) := ⟨_, get?_update_seq ho fun _ => #[]⟩
  have hline : sizeLine = 16777216 := rfl
  rw [list_sort_plain]
  refine zIt (listItems_at ho rfl ?_)
  refine zIt (listUpdate_at ho rfl ?_ (by rw [List.size_toArray]; omega) (Nat.zero_le _))
  refine zIt (seqEpoch_at ho1 rfl ?_)
  refine zIt (wpAny_newTuple ?_ (by show vs.length ≤ _; omega))
  refine zIt (wpAny_newList ?_ (Nat.zero_le _))
  refine zIw ?_
  have x1 : Wk (frs A) ψ₀ s₀ ψ (put ω a (lst [] e1)) { s with heap := s.heap.update a (Obj.mapSeq fun _ => (#[] : Array Value)), toks := s.toks } := x.set ha ho1 fun b hb => s1.2 b hb
  have x3 := x1.keeps (tk := s.toks) (h' := ((s.heap.update a (Obj.mapSeq fun _ => (#[] : Array Value))).push (seqObj "tuple" vs.toArray 0)).push (seqObj "list" #[] 0)) fun b o e => Heap.get?_push_of_some _ (Heap.get?_push_of_some _ e)
  show wpAny (model prog w) A _ Q E { s with heap := ((s.heap.update a (Obj.mapSeq fun _ => (#[] : Array Value))).push (seqObj "tuple" vs.toArray 0)).push (seqObj "list" #[] 0) }
  generalize hs3 : ({ s with heap := ((s.heap.update a (Obj.mapSeq fun _ => (#[] : Array Value))).push (seqObj "tuple" vs.toArray 0)).push (seqObj "list" #[] 0) } : Shared) = s3
  replace x3 : Wk (frs A) ψ₀ s₀ ψ (put ω a (lst [] e1)) s3 := by rw [← hs3]; exact x3
  clear hs3
  have zA7 : ∀ us j', put (put ω a (lst [] e1)) a (lst us j') = put ω a (lst us j') := fun us j' => by funext b; unfold put; split <;> rfl
  have fin : ∀ ψ' s' (out : Array Value) (us : List Value), out = us.toArray → Le ψ ψ' → Wk (frs A) ψ₀ s₀ ψ' (put ω a (lst [] e1)) s' → us.length = xs.length → zO (fun (P : VP) v => P.p ψ' v) ((zB5 lt d xs).map P) us → wpAny (model prog w) A (do
      let t ← seqEpoch a
      Builtin.List.listUpdate (.ref a) fun _ => out
      if (t != e1) = true then do
        rule "list.sort.modified"
        raiseErrorWords "ValueError" "list modified during sort"
        ret .none
      else ret .none) Q E s' := fun ψ' s' out us hout l' x' hus hall' => by
    subst hout
    obtain ⟨hoa, _⟩ := x'.own a _ (zA _ _ _)
    refine zIt (seqEpoch_at hoa rfl ?_)
    have s2 := Heap.SameBut.update s'.heap a (Obj.mapSeq fun _ => us.toArray)
    obtain ⟨c2, hc2⟩ : ∃ c2, (s'.heap.update a (Obj.mapSeq fun _ => us.toArray)).get? a = some (seqObj "list" us.toArray c2) := ⟨_, get?_update_seq (n := e1) hoa fun _ => us.toArray⟩
    refine zIt (listUpdate_at hoa rfl ?_ (Nat.zero_le _) (by rw [List.size_toArray]; omega))
    simp only [bne_self_eq_false, Bool.false_eq_true, if_false]
    have y := x'.set (tk := s'.toks) (zA _ _ _) hc2 fun b hb => s2.2 b hb
    refine zIu (q ψ' _ us c2 l' ?_ hall')
    have := zA7 us c2
    rw [← this]; exact y
  dsimp only
  by_cases h2 : vs.toArray.size < 2
  · rw [if_pos h2, if_pos h2]
    refine zIt (zIu ?_)
    rw [StateT.run_pure]
    refine zIt (zIu ?_)
    dsimp only
    refine fin ψ s3 _ vs ?_ (Le.refl _) x3 hlen ?_
    · apply Array.toList_inj.mp
      rw [Array.toList_map]
      show List.map (·.2) (vs.toArray.zip vs.toArray).toList = vs
      rw [Array.toList_zip, List.map_snd_zip (Nat.le_refl _)]
    · have : xs.length < 2 := by rw [List.size_toArray] at h2; omega
      unfold zB5
      rw [if_pos this]; exact hall
  · rw [if_neg h2, if_neg h2]
    rw [List.size_toArray] at h2
    refine zIt (hK A E _ ψ s3 vs lφ x3.g.sub (by rw [List.length_map]; omega) hall ?_)
    · refine zIt (zIv (zH3 (it := pairsOf vs) (nn := vs.length) (Pk := fun i => P (xs.getD i d)) (lt := fun i j => lt (xs.getD i d) (xs.getD j d)) (by omega) (by omega) (pairsOf_size vs) c₀ lφ x3 (fun i hi => ?_) (fun i _ j _ => hlt _ _)) (fun r s' hr => ?_) fun _ _ e => e)
      · rw [kas_item_eq]
        have h1 := zEy hall (i := i) (D := P d) (by rw [List.length_map]; omega)
        have h2 : xs[i]? = some xs[i] := List.getElem?_eq_getElem (by omega)
        rw [List.getD_eq_getElem?_getD, List.getElem?_map, h2] at h1
        show (P (xs.getD i d)).p ψ (vs.getD i Value.none)
        rw [List.getD_eq_getElem?_getD, h2]
        exact h1
      · obtain ⟨⟨⟩, st'⟩ := r
        obtain ⟨har, hf, hsz, hsm, ψ', l', x'⟩ := hr
        dsimp only at har hf ⊢
        rw [hf]
        refine fin ψ' s' _ ((zh (fun i j => lt (xs.getD i d) (xs.getD j d)) (kas_sort vs.length)).toList.map fun i => vs.getD i Value.none) ?_ l' x' ?_ ?_
        · apply Array.toList_inj.mp
          rw [har, Array.map_map, Array.toList_map]
          exact List.map_congr_left fun i _ => by show (kas_item (pairsOf vs) i).2 = _; rw [kas_item_eq]
        · rw [List.length_map, Array.length_toList, hsz, hlen]
        · have hne : ¬ xs.length < 2 := by omega
          unfold zB5
          rw [if_neg hne, ← hlen]
          exact zFD (hall.imp fun (P : VP) v y => P.mono l' y) _ fun i hi => by have := hsm.2 i (by simpa using hi); omega
end
theorem zFG {κ : SortKind} {α : Type} {P : α → VP} {lt : α → α → Bool} {d : α} {xs : List α} (h64 : xs.length < 64) (hK : zIE prog w φ κ (xs.map P)) (hlt : ∀ x y, OpLtK κ prog w ⟨k, n⟩ φ (P x) (P y) (lt x y)) : zj prog w ⟨k + 2, n⟩ φ (.builtin "sorted") [zB (xs.map P)] (zB ((zB5 lt d xs).map P)) := by
  intro A ψ s vs c l h
  obtain ⟨v, rfl, a, vs, j, rfl, ho, hall⟩ := za h
  have hlen : vs.length = xs.length := by rw [← hall.length, List.length_map]
  have hl : s.heap.IsList a vs.toArray := ⟨_, c.sub _ _ ho, rfl, j, rfl⟩
  have hline : sizeLine = 16777216 := rfl
  refine Calls.call_function_entry kind_sorted plain_sorted entry_sorted (args_sorted1 _) ?_
  unfold Builtin.«sorted»
  refine zIt (m := checkCount "sorted" 1 1 _) (zIu ?_)
  refine zIt (collect_list hl ?_ (by omega))
  refine zIt (wpAny_newList ?_ (by omega))
  have hsz : ((s.heap.push (seqObj "list" #[] 0)).update s.heap.objs.size (Obj.mapSeq (· ++ vs.toArray))).objs.size = s.heap.objs.size + 1 := by
    rw [Heap.size_update, size_push']
  have hoL : (((s.heap.push (seqObj "list" #[] 0)).update s.heap.objs.size (Obj.mapSeq (· ++ vs.toArray))).push (seqObj "list" vs.toArray 0)).get? (s.heap.objs.size + 1) = some (seqObj "list" vs.toArray 0) := by
    rw [← hsz]; exact Heap.get?_push_size _ rfl
  have keep : ∀ b o, s.heap.get? b = some o → (((s.heap.push (seqObj "list" #[] 0)).update s.heap.objs.size (Obj.mapSeq (· ++ vs.toArray))).push (seqObj "list" vs.toArray 0)).get? b = some o := fun b o q => by
    have hlt : b < s.heap.objs.size := Heap.lt_size q
    rw [Heap.get?_push_ne _ _ _ (by rw [hsz]; exact Nat.ne_of_lt (Nat.lt_succ_of_lt hlt)), Heap.get?_update_ne _ _ _ _ (Nat.ne_of_lt hlt), Heap.get?_push_ne _ _ _ (Nat.ne_of_lt hlt)]
    exact q
  show wpAny _ _ _ _ _ { s with heap := ((s.heap.push (seqObj "list" #[] 0)).update s.heap.objs.size (Obj.mapSeq (· ++ vs.toArray))).push (seqObj "list" vs.toArray 0) }
  rw [hsz]
  have hn1 : s.heap.get? (s.heap.objs.size + 1) = none := Heap.get?_none_of_le (Nat.le_succ _)
  have x := ((Wk.start (F := frs A) c.sub).keeps (tk := s.toks) keep).lay hoL hn1 (zE c.sub hn1)
  refine zIt (zIw (wpAny_call_entry slot_list_sort ⟨_, hoL, rfl⟩ entry_list_sort ?_ (args_list_sort _)))
  refine zEi (d := d) (A := A.in1.in1) (vs := vs) (j := 0) h64 (c.in1.in1) l x (zA _ _ _) hall hK hlt fun ψ' s' us j' l' x' hall' => ?_
  refine ⟨_, rfl, zIu ⟨_, rfl, put ψ' (s.heap.objs.size + 1) (lst us j'), x'.freeze (zA _ _ _), _, us, j', rfl, zA _ _ _, hall'.imp fun P v y => P.mono (zL (x'.own _ _ (zA _ _ _)).2.1) y⟩⟩
theorem zCP {α : Type} {lt : α → α → Bool} {d : α} (xs : List α) : (zB5 lt d xs).length = xs.length := by
  unfold zB5
  split
  · rfl
  · rw [List.length_map, Array.length_toList]
    exact (zDC (n := xs.length) (by omega)).run.1
def zDG (prog : Program) (w : World) (μ : Md) (φ : PM) (P Q : VP) (r : Bool) : Prop :=
  ∀ A ψ s u v, Cx μ A ψ s → Le φ ψ → P.p ψ u → Q.p ψ v → wpAny (model prog w) A (eqBool u v) (fun b s' => b = r ∧ ∃ ψ', zQ (frs A) ψ s ψ' s') (fun _ _ => False) s
noncomputable def isFl : Value → Bool
  | .float .. => true
  | _ => false
theorem zFs {P Q : VP} {r : Bool} (h : Op2 prog w μ φ (compareOp .Eq) P Q (zN r)) (hs : ∀ ψ v, P.p ψ v → Q.p ψ v → r = true) (hf : ∀ ψ v, P.p ψ v → isFl v = false) : zDG prog w μ φ P Q r := by
  intro A ψ s u v c l pu pv
  unfold eqBool
  refine zIw ?_
  by_cases e : (u == v) = true
  · rw [if_pos e]
    have e' : u = v := by simpa using e
    subst e'
    exact zIt (wpAny_rule (zIu ⟨(hs ψ u pu pv).symm, ψ, zQ.refl c.sub⟩))
  · rw [if_neg e]
    have hu := hf ψ u pu
    have key : wpAny (model prog w) A (do let x ← richCompare .Eq u v; truthOfDropped x) (fun b s' => b = r ∧ ∃ ψ', zQ (frs A) ψ s ψ' s') (fun _ _ => False) s := by
      refine zIt (zIv (h A ψ s u v c l pu pv) (fun x s' hx => ?_) fun _ _ e => e)
      obtain ⟨ψ', g, rfl⟩ := hx
      exact wpAny_truthy_bool ⟨rfl, ψ', g⟩
    cases u <;> first | exact key | (exfalso; revert hu; exact fun h => nomatch h)
noncomputable def zDf (prog : Program) (w : World) (A : Around) (R : Result → Shared → Prop) : PySem.Fin → Shared → Prop := fun fin s' => match fin with | .done f => R (.ok f) s' | .again c' => c'.quiet = true ∧ codeAny (model prog w) A c' R s'
section
variable {α : Type} {P : α → VP} {Qx : VP} {eq : α → Bool} {vs : List Value} {l : Addr} {R : Result → Shared → Prop} {ys : List α} {x : Value}
theorem zEH (lφ : Le φ ψ) (hl : ∃ o n, ψ l = some o ∧ o.cls = .type "list" ∧ o.data = .seq vs.toArray n) (hall : zO (fun (P : VP) v => P.p ψ v) (ys.map P) vs) (hx : Qx.p ψ x) (he : ∀ y, zDG prog w ⟨k, n⟩ φ (P y) Qx (eq y)) : ∀ (m i : Nat), vs.length - i = m → ∀ A ψ1 s, Cx ⟨k + 1, n⟩ A ψ1 s → Le ψ ψ1 → (∀ ψ' s', zQ (frs A) ψ1 s ψ' s' → R (.ok (.ret (.bool ((ys.drop i).any eq)))) s') →
      wpAny (model prog w) A.in1 (Builtin.«list.__contains__.loop» ⟨[.ref l, x, rawInt i], []⟩) (zDf prog w A R) (fun e s' => R (.error e) s') s := by
  have hlen : vs.length = ys.length := by rw [← hall.length, List.length_map]
  obtain ⟨⟨cls, dd, data, sl⟩, n0, hψ, hc, hd⟩ := hl
  simp only at hc hd
  subst hc hd
  intro m
  induction m with
  | zero =>
    intro i hk A ψ1 s c l1 q
    have hl := c.sub _ _ (l1 _ _ hψ)
    have q1 := q ψ1 s (zQ.refl c.sub)
    obtain ⟨hp, g, d, tk, os⟩ := s
    wp_walk using wpAny_loadPart' hl
    have hi : vs.toArray[((i : Nat) : Int).toNat]? = none := by simp; omega
    have hd : ys.drop i = [] := List.drop_eq_nil_of_le (by omega)
    rw [hd] at q1
    rw [hi]
    wp_walk
    exact q1
  | succ m ih =>
    intro i hk A ψ1 s c l1 q
    have hl := c.sub _ _ (l1 _ _ hψ)
    have hlt : i < vs.length := by omega
    have hlt' : i < ys.length := by omega
    have he0 : wpAny (model prog w) A.in1 (eqBool vs[i] x) (fun b s' => b = eq ys[i] ∧ ∃ ψ', zQ (frs A) ψ1 s ψ' s') (fun _ _ => False) s := by
      obtain ⟨P0, e0, p0⟩ := hall.get' (List.getElem?_eq_getElem hlt)
      rw [List.getElem?_map, List.getElem?_eq_getElem hlt'] at e0
      cases e0
      exact he _ A.in1 ψ1 s _ _ c.in1 (lφ.trans l1) ((P _).mono l1 p0) (Qx.mono l1 hx)
    obtain ⟨hp, g, d, tk, os⟩ := s
    wp_walk using wpAny_loadPart' hl
    have hi : vs.toArray[((i : Nat) : Int).toNat]? = some vs[i] := by simp [hlt]
    have hd : ys.drop i = ys[i] :: ys.drop (i + 1) := List.drop_eq_getElem_cons hlt'
    rw [hd, List.any_cons] at q
    rw [hi]
    refine zIt (zIv he0 (fun b s' hb => ?_) fun _ _ e => e.elim)
    obtain ⟨rfl, ψ2, g2⟩ := hb
    cases hb : eq ys[i] with
    | true =>
      rw [hb] at q
      wp_walk
      exact q ψ2 s' g2
    | false =>
      rw [hb] at q
      have hc : ((i : Int) + 1) = ((i + 1 : Nat) : Int) := by push_cast; rfl
      wp_walk
      rw [hc]
      refine ⟨plainId_quiet MeetsSeq.plain_contains_loop _, codeAny_builtin MeetsSeq.entry_contains_loop ?_⟩
      rw [Around.under_plainId MeetsSeq.plain_contains_loop _]
      exact ih (i + 1) (by omega) A ψ2 s' (c.grow g2) (l1.trans g2.le) fun ψ3 s3 g3 => q ψ3 s3 (g2.trans g3)
end
theorem zEI {T : String} {name : Str} {id : String} {Bu : Builtin} {self : Value} {rest : List Value} {Q : Value → Shared → Prop} (slot : Slot T name id) (hT : s.TypeIs self T) (entry : entryFor table id = some Bu) (args : argsOk id ⟨self :: rest, []⟩) (h : wpAny (model prog w) A.in1 (Bu ⟨self :: rest, []⟩) (zDf prog w A (wants Q E)) (fun e s' => wants Q E (.error e) s') s) : wpAny (model prog w) A (call (.builtin id) (self :: rest)) Q E s :=
  call_meetsIn (S := fun A R s => wpAny (model prog w) A.in1 (Bu ⟨self :: rest, []⟩) (zDf prog w A R) (fun e s' => R (.error e) s') s) slot hT entry args (fun _ _ _ h => h) h
section
variable {α : Type} {P : α → VP} {Qx : VP} {eq : α → Bool} {ys : List α}
theorem zEO {Q : Value → Shared → Prop} {l : Addr} {x : Value} (c : Cx ⟨k + 1, n⟩ A ψ s) (lφ : Le φ ψ) (hl : (zB (ys.map P)).p ψ (.ref l)) (hx : Qx.p ψ x) (he : ∀ y, zDG prog w ⟨k, n⟩ φ (P y) Qx (eq y)) (q : ∀ ψ' s', zQ (frs A) ψ s ψ' s' → Q (.bool (ys.any eq)) s') : wpAny (model prog w) A (call (.builtin "list.__contains__") [.ref l, x]) Q E s := by
  obtain ⟨_, vs, j, hr, ho, hall⟩ := hl
  cases hr
  refine zEI PySem.F.slot_list_contains ⟨_, c.sub _ _ ho, rfl⟩ PySem.F.entry_list_contains (PySem.F.args_list_contains_2 _ _) ?_
  have h := zEH (prog := prog) (w := w) (k := k) (n := n) (eq := eq) (R := wants Q E) lφ ⟨_, _, ho, rfl, rfl⟩ hall hx he _ 0 rfl A ψ s c (Le.refl _) fun ψ' s' g => by exact q ψ' s' g
  have hl := c.sub _ _ ho
  have hl0 := hl
  obtain ⟨hp, g, d, tk, os⟩ := s
  wp_walk using wpAny_loadPart' hl
  refine ⟨plainId_quiet MeetsSeq.plain_contains_loop _, codeAny_builtin MeetsSeq.entry_contains_loop ?_⟩
  rw [Around.under_plainId MeetsSeq.plain_contains_loop _]
  exact h
theorem op_notIn (he : ∀ y, zDG prog w ⟨k, n⟩ φ (P y) Qx (eq y)) : Op2 prog w ⟨k + 1, n⟩ φ (compareOp .NotIn) Qx (zB (ys.map P)) (zN (!ys.any eq)) := by
  intro A ψ s x lv c l hx hl
  have hl' := hl
  obtain ⟨a, vs, j, rfl, ho, hall⟩ := hl'
  show wpAny _ A (do return Value.bool (!(← contains (.ref a) x)) : Sem Value) _ _ s
  refine zIt (wpAny_contains_slot (T := "list") ⟨_, c.sub _ _ ho, rfl⟩ PySem.F.slot_list_contains (zEO c l hl hx he fun ψ' s' g => ?_))
  exact wpAny_truthy_bool (zIu ⟨ψ', g, rfl⟩)
end
theorem entry_fk : entryFor table "dict.fromkeys" = some Builtin.«dict.fromkeys» := entryFor_of_tree (by kernel_rfl)
theorem zHa : entryFor table "dict.fromkeys.loop" = some Builtin.«dict.fromkeys.loop» := entryFor_of_tree (by kernel_rfl)
theorem zEc : plainId "dict.fromkeys.loop" = true := by decide +kernel
theorem plain_fk : plainId "dict.fromkeys" = true := by decide +kernel
theorem check_fk (a : Value) : checkBoundCall "dict.fromkeys" ⟨[.type "dict", a], []⟩ = pure () := by first | kernel_rfl | rfl
theorem zDA : checkTypeCall "dict" ⟨[], []⟩ = pure () := by kernel_rfl
theorem zDK : checkBuiltinCall "dict.__new__" ⟨[.type "dict"], []⟩ = pure () := by kernel_rfl
theorem zDH {Q₁ : Value → Shared → Prop} (h : Q₁ (.ref s.heap.objs.size) { s with heap := s.heap.push { cls := .type "dict", data := .dict #[] } }) :
    codeAny (model prog w) A (.call (.builtin "dict.__new__") ⟨[.type "dict"], []⟩) (wants Q₁ E) s := by
  refine codeAny_call_builtin PySem.F.kt_plain_dict_new PySem.F.kt_entry_dict_new (wpAny_of_eq zDK ?_)
  have hsub := PySem.F.kt_sub_dict
  have hmro := PySem.F.kt_mro_dict
  obtain ⟨hp, g, d, tk, os⟩ := s
  unfold Builtin.«dict.__new__»
  wp_walk
  exact h
theorem zCx {Q : Value → Shared → Prop} (h : Q (.ref s.heap.objs.size) { s with heap := s.heap.push { cls := .type "dict", data := .dict #[] } }) :
    wpAny (model prog w) A (call (.type "dict") []) Q E s := by
  refine callType_codes (Q₁ := fun obj s₁ => obj = .ref s.heap.objs.size ∧ s₁ = { s with heap := s.heap.push { cls := .type "dict", data := .dict #[] } }) PySem.F.kt_called_dict zDA PySem.F.entry_dict_init (zDH ⟨rfl, rfl⟩) ?_
  rintro obj s₁ ⟨rfl, rfl⟩
  have hT : Shared.TypeIs { s with heap := s.heap.push { cls := .type "dict", data := .dict #[] } } (.ref s.heap.objs.size) "dict" := ⟨_, Heap.get?_push_size _ rfl, rfl⟩
  refine ⟨hT, PySem.F.args_dict_init_1 _, ?_⟩
  unfold Builtin.«dict.__init__»
  refine zIt ?_
  unfold Builtin.Dict.selfAndRest
  refine zIt (wpAny_notOrdered_dict hT ?_)
  show wpAny _ _ (pure (s.heap.objs.size, ([] : List Value))) _ _ _
  refine zIu ?_
  show wpAny _ _ (Builtin.Dict.addKeywords s.heap.objs.size [] >>= fun _ => ret Value.none) _ _ _
  exact zIt (zIu (zIu ⟨rfl, h⟩))
theorem keep_bnd {id T : String} {x : Addr} (ho : φ x = some (zIB id T)) : zw φ (.ref x) := by
  intro M h hs
  refine ⟨.machine, .inr (.inl rfl), fun A Q E s k q => ?_⟩
  unfold keeperOf
  refine zIt (wpAny_load (k _ _ (hs _ _ ho)) ?_)
  exact zIu q
theorem zIN {a : Addr} {fd : FuncData} {body : List Stmt} {Ps : List VP} {R : VP} {Γ₀ : List (Str × VP)} (K : FnK φ a fd) (hb : fd.body = .stmts body) (hcl : fd.closure = []) (hbind : ∀ ψ (s : Shared) vs, Sub ψ s.heap → Le φ ψ → zO (fun (P : VP) v => P.p ψ v) Ps vs → ∃ binds, BindsTo s fd ⟨vs, []⟩ binds ∧ zO (fun (g : Str × VP) (b : Str × Value) => g.1 = b.1 ∧ g.2.p ψ b.2) Γ₀ binds) (hnd : decide ((Γ₀.map (·.1)).Nodup) = true) (hkind : (Γ₀.all fun y => fd.scope.names.lookup y.1 == some .local || fd.scope.names.lookup y.1 == some .cell) = true) (hfree : (fd.scope.names.all fun x => x.2 != .free) = true) (hnd' : decide (((cellsFrom 0 fd.scope.names []).map (·.1)).Nodup) = true) (h : zGM prog w k n φ fd.scope Γ₀ body R) : zj prog w ⟨k + 1, n⟩ φ (.ref a) Ps R := by
  intro A ψ s vs c l hv
  obtain ⟨binds, hB, hG⟩ := hbind ψ s vs c.sub l hv
  refine zo (tb := []) (fun p hp => by cases hp) c (K.le l) hb hcl hB ?_ hfree hnd' fun env s' he hcd x' => ?_
  · rw [List.all_eq_true] at hkind ⊢
    intro y hy
    obtain ⟨i, hi⟩ := List.getElem?_of_mem hy
    obtain ⟨g, hg, hgb⟩ := hG.get' hi
    rw [← hgb.1]
    exact hkind g (List.mem_of_getElem? hg)
  · exact h ⟨A, A.deeper env, ψ, s, env.locals :: env.cells.map (·.2), env, none, []⟩ ψ s' _ he (CX.of c rfl) l (fun c hc => List.mem_cons_of_mem _ hc) ⟨rfl, x'.dp rfl rfl⟩ ⟨_, x', zAZ hG hnd⟩
noncomputable def itO (l : Addr) : Obj := { cls := .type "list_iterator", data := .fields #[.ref l, .int 0 0] }
theorem y_iter {x : Str} {px pos ip cp : Pos} {e : Expr} {ps : List VP} (hsc : X.env.scope = sc) (b : B X Γ ψ ω s) (c : CX ⟨k, n⟩ X) (hg : BN ψ ("iter" : Str) (.builtin "iter")) (hkd : sc.names.lookup ("iter" : Str) = some NameKind.globalImplicit) (h : EV prog w ⟨k, n⟩ sc Γ ψ e (zB ps)) (hk : zK X x) (q : ∀ I l vs j ψ' s', Le ψ ψ' → ω I = none → ψ' I = none → ψ' l = some (lst vs j) → zO (fun (P : VP) v => P.p ψ' v) ps vs → B X ((x, zT (.ref I)) :: Γ) ψ' (put ω I (itO l)) s' → Ex prog w X rest Q E s') (hn : autoParam (zM e = true) au0) (hs : autoParam (swapsWith (.Call (.Name "iter" ip) [e] [] cp) (some (.Name x px)) pos.line X.env = pure false) au0) : Ex prog w X (.Assign [.Name x px] (.Call (.Name "iter" ip) [e] [] cp) pos :: rest) Q E s := by
  constructor
  refine wpAny_execs_cons (wpAny_Assign_Name ?_ hs)
  obtain ⟨m, Y, t⟩ := b
  refine zA4 (Ps := [zB ps]) hsc ⟨zq hg hkd rfl⟩ zA5 (e1 h hn) (Y.cx c) (Le.refl _) Y.fram t fun us ψ1 s1 g1 p1 => ?_
  obtain ⟨v, rfl, l, vs, j, rfl, ho, hall⟩ := za p1
  have Y1 := Y.grow c g1
  have hl : s1.heap.IsList l vs.toArray := ⟨_, g1.sub _ _ ho, rfl, j, rfl⟩
  refine call_function_entry (by decide +kernel) (by decide +kernel) kdk_entry_iter (kdk_args_iter _) ?_
  unfold Builtin.«iter»
  refine zIt (m := someArgs "iter" 1 2 _) (wpAny_of_eq (a := [Value.ref l]) (by first | rfl | kernel_rfl!) ?_)
  show wpAny _ _ (pyIter (.ref l) >>= _) _ _ _
  refine zIt (wpAny_pyIter_list hl ?_)
  refine zIu ⟨_, rfl, ?_⟩
  have Y2 := Y1.lay (itO l) rfl s1.toks
  have hω : ω s1.heap.objs.size = none := by
    cases z : ω s1.heap.objs.size with
    | none => rfl
    | some o => have := (Y1.own _ _ z).1; rw [zF] at this; cases this
  refine Y2.store hk fun s3 Y3 => (q s1.heap.objs.size l vs j ψ1 s3 g1.le hω (zE g1.sub (zF _)) ho hall ⟨_, Y3, (t.le g1.le).cons rfl⟩).go
theorem zHC {A : Around} {I : Addr} {wr fz : List Addr} {Pv : Nat → Value → Prop} {St : Nat → Heap → Prop} {x : Str} {px : Pos} {items : List VP} (hitem : ∀ i v, i < items.length → Pv i v → ∃ Q, items[i]? = some Q ∧ Q.p ψ v) (V : Walk prog w A I wr fz items.length Pv St) (hfz : ∀ b ∈ fz, ∃ o, ψ b = some o) : zCU prog w A ψ (.Name x px) (.ref I) wr fz items.length (zA8 x items) St := by
  obtain ⟨⟨fp, W, hfp⟩, hlive⟩ := V
  refine ⟨fun i h h' hs hk => W.frame i h h' hs fun b hb o e => hk b (hfp b hb) o e, hlive, W.self, ?_, ?_⟩
  · intro i X m ψ' ω s Q E hi x3 le' hst3 hw hk q
    refine W.item i s _ _ hi hst3 fun v h' tk hPv hst' hkeep => ⟨v, rfl, zIu ?_⟩
    obtain ⟨Q', hQ', hq'⟩ := hitem i v hi hPv
    have x4 := x3.wmove (s' := { s with heap := h', toks := tk }) hw ⟨h', tk, rfl⟩ hkeep
    refine wpAny_assign_Name (x4.store (hk _ (List.mem_singleton.mpr rfl)) fun s5 x5 => ?_)
    have key : ∀ b ∈ wr, s5.heap.get? b = h'.get? b := fun b hb => by
      obtain ⟨o, ho⟩ := hlive _ _ hst' b hb
      rw [ho]
      exact (x5.own b o (by rw [zBD hb]; exact ho)).1
    rw [zE8 key] at x5
    refine q _ s5 x5 (fun Γ t => ?_) (W.frame _ _ _ hst' fun b hb o ho => ?_)
    · have : zA8 x items i = [(x, Q')] := by unfold zA8; rw [hQ']; rfl
      rw [this]
      exact t.cons (Q'.mono le' hq')
    · rcases hfp b hb with z | z
      · rw [key b z]; exact ho
      · obtain ⟨o', ho'⟩ := hfz b z
        have h1 : h'.get? b = some o' := x4.sub b o' (le' _ _ ho')
        rw [ho] at h1; cases h1
        exact x5.sub b o (le' _ _ ho')
  · intro X m ψ' ω s Q E x le' hst3 hw q
    exact W.done s _ _ hst3 fun h' tk hkeep => q _ (x.wmove (s' := { s with heap := h', toks := tk }) hw ⟨h', tk, rfl⟩ hkeep)
theorem bs_iter {x y : Str} {px yp : Pos} {I l : Addr} {vs : List Value} {j : Nat} {ps : List VP} (hsc : X.env.scope = sc) (c : CX ⟨k, true⟩ X) (b : B X Γ ψ (put ω I (itO l)) s) (hω : ω I = none) (hl : ψ l = some (lst vs j)) (hall : zO (fun (P : VP) v => P.p ψ v) ps vs) (hx : Γ.lookup x = some (zT (.ref I))) (hk : zu (sc.names.lookup x) = true) (hd : (x == ("__debug__" : Str) || x == ("__classdict__" : Str)) = false) : BS prog w X Γ ψ ω s (.Name x px) (.Name y yp) ps.length (zA8 y ps) := by
  constructor
  have b0 := b
  obtain ⟨m, Y, t⟩ := b0
  obtain ⟨hI, hψI, hI0, hIf⟩ := Y.own I _ (zA _ _ _)
  have hne : l ≠ I := fun q => by rw [q, hψI] at hl; cases hl
  refine b.eval c (P := zT (.ref I)) (by rw [hsc]; exact zFM hx hk hd) fun v ψ1 s1 l1 p1 b1 => ?_
  cases p1
  obtain ⟨m1, Y1, t1⟩ := b1
  obtain ⟨hI1, hψI1, hI01, hIf1⟩ := Y1.own I _ (zA _ _ _)
  have hl1 : s1.heap.IsList l vs.toArray := ⟨_, Y1.sub _ _ (l1 _ _ hl), rfl, j, rfl⟩
  have W := Walks.list (prog := prog) (w := w) (A := X.A) ((Y1.cx c).none rfl) I l hne vs.toArray
  have e : vs.toArray.size = ps.length := by simp [hall.length]
  rw [e] at W
  have st0 : s1.heap.IsListIter I l 0 ∧ s1.heap.IsList l vs.toArray := ⟨⟨_, hI1, rfl, rfl⟩, hl1⟩
  have V : Walk prog w X.A I [I] [l] ps.length _ _ := ⟨⟨_, W, fun b hb => by simp at hb; rcases hb with rfl | rfl <;> simp⟩, fun i h hst b hb => by rw [List.mem_singleton.mp hb]; obtain ⟨o, ho, _⟩ := hst.1; exact ⟨o, ho⟩⟩
  refine W.self 0 _ _ _ st0 ⟨ψ1, m1, [I], [l], _, l1, ?_, t1, zHC (A := X.A) (fun i v hi hv => ?_) V (fun b hb => by rw [List.mem_singleton.mp hb]; exact ⟨_, l1 _ _ hl⟩), st0, fun b hb => by rw [List.mem_singleton.mp hb]; exact hω, fun b hb => by rw [List.mem_singleton.mp hb]; exact ⟨_, l1 _ _ hl⟩⟩
  · have e2 : zAS ω [I] s1.heap = put ω I (itO l) := by
      funext b
      unfold zAS put
      by_cases q : b = I
      · subst q; simp [hI1]
      · simp [q]
    rw [e2]; exact Y1
  · obtain ⟨Q, hQ, pQ⟩ := hall.get' (by simpa using hv)
    exact ⟨Q, hQ, Q.mono l1 pQ⟩
theorem zFo {P Q : VP} (h : ∀ ψ u v, Le φ ψ → P.p ψ u → Q.p ψ v → ∃ x y ox oy, u = .ref x ∧ v = .ref y ∧ x ≠ y ∧ ψ x = some ox ∧ ψ y = some oy ∧ oy.cls = .type "object" ∧ ox.cls = .type "list") : Op2 prog w μ φ (compareOp .Is) P Q (zN false) := by
  intro A ψ s u v c l pu pv
  obtain ⟨x, y, ox, oy, rfl, rfl, hne, hx, hy, hcl, hcx⟩ := h ψ u v l pu pv
  show wpAny _ A (do return Value.bool (← isSame (.ref x) (.ref y)) : Sem Value) _ _ s
  refine zIt ?_
  have e : (x == y) = false := beq_eq_false_iff_ne.mpr hne
  show wpAny _ A (if (x == y) = true then pure true else _) _ _ s
  rw [if_neg (by rw [e]; exact Bool.false_ne_true)]
  refine zIt (wpAny_load (c.sub _ _ hx) (zIt (wpAny_load (c.sub _ _ hy) ?_)))
  rw [hcl, hcx]
  exact zIu (zIu ⟨ψ, zQ.refl c.sub, rfl⟩)
theorem zCU.congr {tgt : Expr} {it : Value} {wr fz : List Addr} {nn nn' : Nat} {Tg Tg' : Nat → List (Str × VP)} {St : Nat → Heap → Prop} (V : zCU prog w A ψ tgt it wr fz nn Tg St) (e : nn = nn') (ht : ∀ i < nn, Tg i = Tg' i) : zCU prog w A ψ tgt it wr fz nn' Tg' St := by
  subst e
  exact ⟨V.frame, V.live, V.self, fun i X m ψ' ω s Q E hi Y l hst hw hk q => V.step i X m ψ' ω s Q E hi Y l hst hw (by rw [ht i hi]; exact hk) (by rw [ht i hi]; exact q), V.done⟩
theorem BS.congr {iter tgt : Expr} {nn nn' : Nat} {Tg Tg' : Nat → List (Str × VP)} (h : BS prog w X Γ ψ ω s iter tgt nn Tg) (e : nn = nn') (ht : ∀ i < nn, Tg i = Tg' i) : BS prog w X Γ ψ ω s iter tgt nn' Tg' := by
  constructor
  refine zIv h.go (fun v s2 h2 => zIv h2 (fun it s3 h3 => ?_) fun _ _ e => e) fun _ _ e => e
  obtain ⟨ψ1, m1, wr, fz, St, l1, Y, t, V, r⟩ := h3
  exact ⟨ψ1, m1, wr, fz, St, l1, Y, t, V.congr e ht, r⟩
noncomputable def zAd {α : Type} (f : α → Bool) : Nat → List α → Option Nat
  | _, [] => none
  | i, y :: ys => if f y then some i else zAd f (i + 1) ys
theorem zF4 {α : Type} {f : α → Bool} {i : Nat} {y : α} {ys : List α} : zAd f i (y :: ys) = if f y then some i else zAd f (i + 1) ys := rfl
noncomputable def rmE {α : Type} (f : α → Bool) (ys : List α) : Option (List α) := (zAd f 0 ys).map fun p => ys.eraseIdx p
theorem zB2 {α β : Type} (f : α → β) : ∀ (l : List α) (i : Nat), (l.eraseIdx i).map f = (l.map f).eraseIdx i
  | [], _ => rfl
  | _ :: _, 0 => rfl
  | x :: l, i + 1 => by show f x :: (l.eraseIdx i).map f = f x :: (l.map f).eraseIdx i; rw [zB2 f l i]
theorem zDG.le {P Q : VP} {r : Bool} (h : zDG prog w μ φ P Q r) (l : Le φ ψ) : zDG prog w μ ψ P Q r := fun A ψ' s u v c l' => h A ψ' s u v c (l.trans l')
theorem zO.eraseIdx {α β : Type} {R : α → β → Prop} {as : List α} {bs : List β} (h : zO R as bs) : ∀ (i : Nat), zO R (as.eraseIdx i) (bs.eraseIdx i) := by
  induction h with
  | nil => intro i; exact .nil
  | cons h t ih =>
    intro i
    cases i with
    | zero => exact t
    | succ i => exact .cons h (ih i)
section
variable {α : Type} {P : α → VP} {Qx : VP} {f : α → Bool} {vs : List Value} {a : Addr} {j : Nat} {R : Result → Shared → Prop} {ys : List α} {x : Value}
theorem zF5 (c : CX ⟨k + 1, n⟩ X) (ha : ω a = some (lst vs j)) (hall : zO (fun (P : VP) v => P.p ψ v) (ys.map P) vs) (hx : Qx.p ψ x) (lφ : Le φ ψ) (he : ∀ y, zDG prog w ⟨k, n⟩ φ (P y) Qx (f y)) (hsz : vs.length ≤ 1000000) : ∀ (rest : List α) (i : Nat) (ψ1 : PM) (s1 : Shared), ys.drop i = rest → S X m ψ1 ω s1 → Le ψ ψ1 →
      (∀ p, zAd f i rest = some p → ∀ ψ' s' j', Le ψ ψ' → S X m ψ' (put ω a (lst (vs.eraseIdx p) j')) s' → R (.ok (.ret .none)) s') →
      (zAd f i rest = none → ∀ ψ' s1 h' tk e t, Le ψ ψ' → S X m ψ' ω s1 → (∀ b o, s1.heap.get? b = some o → h'.get? b = some o) → s1.heap.get? e = none → h'.get? e = some (exo "ValueError" t .none (z7 X.A)) → R (.error (.ref e)) { s1 with heap := h', toks := tk }) →
      wpAny (model prog w) X.A.in1 (Builtin.«list.remove.loop» ⟨[.ref a, x, rawInt i], []⟩) (zDf prog w X.A R) (fun e s' => R (.error e) s') s1 := by
  have hlen : vs.length = ys.length := by rw [← hall.length, List.length_map]
  have hline : sizeLine = 16777216 := rfl
  intro rest
  induction rest with
  | nil =>
    intro i ψ1 s1 hd Y l1 q qe
    have ho := (Y.own a _ ha).1
    have hge : ys.length ≤ i := List.drop_eq_nil_iff.mp hd
    unfold Builtin.«list.remove.loop»
    dsimp only [rawInt]
    refine zIt (listItems_at ho rfl ?_)
    have hi : vs.toArray[((i : Nat) : Int).toNat]? = none := by simp; omega
    rw [hi]
    dsimp only
    refine zIt (wpAny_rule ?_)
    refine (zAY plainExc_ValueError (A := X.A.in1) (Y.cx c).hand Y.sub fun h' tk e t hk hn he' => ?_)
    exact qe rfl ψ1 s1 h' tk e t l1 Y hk hn he'
  | cons y rest ih =>
    intro i ψ1 s1 hd Y l1 q qe
    have ho := (Y.own a _ ha).1
    have hlt' : i < ys.length := by
      rcases Nat.lt_or_ge i ys.length with h | h
      · exact h
      · rw [List.drop_eq_nil_of_le h] at hd; cases hd
    have hlt : i < vs.length := by omega
    have hdd : ys.drop i = ys[i] :: ys.drop (i + 1) := List.drop_eq_getElem_cons hlt'
    rw [hdd] at hd
    obtain ⟨rfl, hd'⟩ := List.cons.inj hd
    have he0 : wpAny (model prog w) X.A.in1 (eqBool vs[i] x) (fun b s' => b = f ys[i] ∧ ∃ ψ', zQ (frs X.A) ψ1 s1 ψ' s') (fun _ _ => False) s1 := by
      obtain ⟨P0, e0, p0⟩ := hall.get' (List.getElem?_eq_getElem hlt)
      rw [List.getElem?_map, List.getElem?_eq_getElem hlt'] at e0
      cases e0
      exact he _ X.A.in1 ψ1 s1 _ _ (Y.cx c).in1 (lφ.trans l1) ((P _).mono l1 p0) (Qx.mono l1 hx)
    unfold Builtin.«list.remove.loop»
    dsimp only [rawInt]
    refine zIt (listItems_at ho rfl ?_)
    have hi : vs.toArray[((i : Nat) : Int).toNat]? = some vs[i] := by simp [hlt]
    rw [hi]
    dsimp only
    refine zIt (zIv he0 (fun b s' hb => ?_) fun _ _ e => e.elim)
    obtain ⟨rfl, ψ2, g2⟩ := hb
    have Y2 := Y.grow c g2
    rw [zF4] at q qe
    cases hb : f ys[i] with
    | true =>
      rw [hb] at q
      have ho2 := (Y2.own a _ ha).1
      have e2 : vs.toArray.eraseIdxIfInBounds ((i : Nat) : Int).toNat = (vs.eraseIdx i).toArray := by
        apply Array.toList_inj.mp
        simp
      refine zHj rfl ?_
      refine zIt (listUpdate_at ho2 rfl ?_ (by rw [List.size_toArray]; omega) ?_)
      · have s2 := Heap.SameBut.update s'.heap a (Obj.mapSeq (·.eraseIdxIfInBounds ((i : Nat) : Int).toNat))
        obtain ⟨c2, hc2⟩ : ∃ c2, (s'.heap.update a (Obj.mapSeq (·.eraseIdxIfInBounds ((i : Nat) : Int).toNat))).get? a = some (seqObj "list" (vs.toArray.eraseIdxIfInBounds ((i : Nat) : Int).toNat) c2) := ⟨_, get?_update_seq ho2 (·.eraseIdxIfInBounds ((i : Nat) : Int).toNat)⟩
        rw [e2] at hc2
        refine zIu (q i rfl ψ2 _ c2 (l1.trans g2.le) (Y2.sameBut ha ⟨_, s'.toks, rfl⟩ (fun b ob hb e => (s2.2 b hb).trans e) hc2))
      · rw [e2, List.size_toArray]
        have := List.length_eraseIdx_le vs i
        omega
    | false =>
      rw [hb] at q qe
      refine zAL rfl ?_
      have hc : ((i : Int) + 1) = ((i + 1 : Nat) : Int) := by push_cast; rfl
      rw [hc]
      refine zIu ⟨plainId_quiet MeetsSeq.plain_remove_loop _, codeAny_builtin MeetsSeq.entry_remove_loop ?_⟩
      rw [Around.under_plainId MeetsSeq.plain_remove_loop _]
      exact ih (i + 1) ψ2 s' hd' Y2 (l1.trans g2.le) q qe
end
section
variable {rest : List Stmt} {Q : Flow → Shared → Prop}
theorem y_remove {α : Type} {P : α → VP} {Qx : VP} {f : α → Bool} {vs : List Value} {a : Addr} {j : Nat} {ys : List α} {x : Str} {px ap cpos pos : Pos} {e : Expr} (hsc : X.env.scope = sc) (b : B X Γ ψ ω s) (c : CX ⟨k + 1, n⟩ X) (ha : ω a = some (lst vs j)) (hall : zO (fun (P : VP) v => P.p ψ v) (ys.map P) vs) (h : EI prog w X Γ ψ ω e Qx) (lφ : Le φ ψ) (he : ∀ y, zDG prog w ⟨k, n⟩ φ (P y) Qx (f y)) (hsz : vs.length ≤ 1000000) (q : ∀ ys' us ψ' s' j', rmE f ys = some ys' → Le ψ ψ' → zO (fun (P : VP) v => P.p ψ' v) (ys'.map P) us → B X Γ ψ' (put ω a (lst us j')) s' → Ex prog w X rest Q E s') (qe : rmE f ys = none → ∀ x ψ' s', Le ψ ψ' → FlF X Γ ψ' ω "ValueError" (z7 X.A) x s' → E (.ref x) s') (hx : autoParam (Γ.lookup x = some (zT (.ref a))) au0) (hv : autoParam (zu (sc.names.lookup x) = true) au0) (hd : autoParam ((x == ("__debug__" : Str) || x == ("__classdict__" : Str)) = false) au0) (hn : autoParam (zM e = true) au0) (hl : autoParam ((ap.endLine == cpos.line) = true) au0) : Ex prog w X (.Expr (.Call (.Attribute (.Name x px) "remove" ap) [e] [] cpos) pos :: rest) Q E s := by
  have b0 := b
  refine ⟨z9 (wpAny_Expr_any (zC0 b hx (hsc ▸ hv) hd PySem.F.slot_list_remove (by rfl) ha h.go hn hl fun v ψ1 s1 l1 p1 b1 => ?_) ?_ (by rfl))⟩
  · obtain ⟨m, Y, t⟩ := b1
    have ho := (Y.own a _ ha).1
    refine zEI PySem.F.slot_list_remove ⟨_, ho, rfl⟩ PySem.F.entry_list_remove (PySem.F.args_list_remove_2 _ _) ?_
    unfold Builtin.«list.remove»
    refine zIt (wpAny_of_eq (a := (Value.ref a, v)) (by first | rfl | kernel_rfl) ?_)
    refine zIu ⟨plainId_quiet MeetsSeq.plain_remove_loop _, codeAny_builtin MeetsSeq.entry_remove_loop ?_⟩
    rw [Around.under_plainId MeetsSeq.plain_remove_loop _]
    refine zF5 (φ := φ) (ψ := ψ1) (f := f) (P := P) (Qx := Qx) c ha (hall.imp fun (P : VP) v y => P.mono l1 y) p1 (lφ.trans l1) he hsz ys 0 ψ1 s1 rfl Y (Le.refl _) (fun p hp ψ' s' j' l' Y' => ?_) fun hp ψ' s2 h' tk e t' l' Y' hk hne hte => ?_
    · have e2 : rmE f ys = some (ys.eraseIdx p) := by unfold rmE; rw [hp]; rfl
      refine (q _ (vs.eraseIdx p) ψ' s' j' e2 (l1.trans l') ?_ ⟨m, Y', t.le l'⟩).go
      rw [zB2]
      exact (hall.imp fun (P : VP) v y => P.mono (l1.trans l') y).eraseIdx p
    · refine qe (by unfold rmE; rw [hp]; rfl) e ψ' _ (l1.trans l') (FlF.of c (⟨m, Y', t.le l'⟩ : B X Γ ψ' ω s2) (zQ.refl Y'.sub) (Ext.of_keeps hk) hne hte)
  · obtain ⟨m, Y, _⟩ := b0
    have := Y.fram.fn
    unfold interactive
    rw [this]; rfl
theorem zGl {x : Str} {px pos ip cp : Pos} {e : Expr} {c' : String} {ps : List VP} (hc : c' = "list" ∨ c' = "tuple") (hsc : X.env.scope = sc) (b : B X Γ ψ ω s) (c : CX ⟨k, n⟩ X) (hg : BN ψ ("list" : Str) (.type "list")) (hkd : sc.names.lookup ("list" : Str) = some NameKind.globalImplicit) (h : EV prog w ⟨k, n⟩ sc Γ ψ e (vSeq c' ps)) (hk : zK X x) (hsz : ps.length ≤ 1000000) (q : ∀ a vs j ψ' s', Le ψ ψ' → ω a = none → ψ' a = none → zO (fun (P : VP) v => P.p ψ' v) ps vs → B X ((x, zT (.ref a)) :: Γ) ψ' (put ω a (lst vs j)) s' → Ex prog w X rest Q E s') (hn : autoParam (zM e = true) au0) (hs : autoParam (swapsWith (.Call (.Name "list" ip) [e] [] cp) (some (.Name x px)) pos.line X.env = pure false) au0) : Ex prog w X (.Assign [.Name x px] (.Call (.Name "list" ip) [e] [] cp) pos :: rest) Q E s := by
  constructor
  have hline : sizeLine = 16777216 := rfl
  refine wpAny_execs_cons (wpAny_Assign_Name ?_ hs)
  obtain ⟨m, Y, t⟩ := b
  refine zA4 (Ps := [vSeq c' ps]) hsc ⟨zq hg hkd rfl⟩ zCp (e1 h hn) (Y.cx c) (Le.refl _) Y.fram t fun us ψ1 s1 g1 p1 => ?_
  obtain ⟨v, rfl, l, vs, j, rfl, ho, hall⟩ := za p1
  have Y1 := Y.grow c g1
  refine call_list_seq (items := vs.toArray) l hc (g1.sub _ _ ho) rfl rfl (fun h' cap hk' hnw => ?_) (by rw [List.size_toArray, ← hall.length]; omega)
  have Y2 := (Y1.kept (tk := s1.toks) hk').take (a := s1.heap.objs.size) (o := lst vs cap) hnw (Y1.freshA (zF _))
  have hω : ω s1.heap.objs.size = none := (Y1.freshA (zF _)).o
  refine Y2.store hk fun s3 Y3 => (q s1.heap.objs.size vs cap ψ1 s3 g1.le hω (zE g1.sub (zF _)) hall ⟨_, Y3, (t.le g1.le).cons rfl⟩).go
end
noncomputable def zGQ {α : Type} (eq op : α → α → Bool) (fin : Bool) : List α → List α → Bool
  | x :: xs, y :: ys => if eq x y then zGQ eq op fin xs ys else op x y
  | _, _ => fin
theorem zEe {α : Type} {eq op : α → α → Bool} {fin : Bool} {x y : α} {xs ys : List α} : zGQ eq op fin (x :: xs) (y :: ys) = if eq x y then zGQ eq op fin xs ys else op x y := rfl
noncomputable def zHs : Bool → CmpOp | true => .Lt | false => .Gt
noncomputable def zIn : Bool → Int | true => 0 | false => 4
noncomputable def zDj (b : Bool) (m n : Nat) : Bool := if b then decide (m < n) else decide (n < m)
section
variable {α : Type} {P : α → VP} {eq op : α → α → Bool} {xs ys : List α} {us vs : List Value} {l r : Addr} {R : Result → Shared → Prop} {d : Bool} {i1 i2 : Nat}
theorem cmp_loop (lφ : Le φ ψ) (hl : ψ l = some (lst us i1)) (hr : ψ r = some (lst vs i2)) (hu : zO (fun (P : VP) v => P.p ψ v) (xs.map P) us) (hv : zO (fun (P : VP) v => P.p ψ v) (ys.map P) vs) (he : ∀ x y, zDG prog w ⟨k, n⟩ φ (P x) (P y) (eq x y)) (ho : ∀ x y, Op2 prog w ⟨k, n⟩ φ (richCompare (zHs d)) (P x) (P y) (zN (op x y))) : ∀ (m i : Nat), us.length - i = m → ∀ A ψ1 s, Cx ⟨k + 1, n⟩ A ψ1 s → Le ψ ψ1 → (∀ ψ' s', zQ (frs A) ψ1 s ψ' s' → R (.ok (.ret (.bool (zGQ eq op (zDj d us.length vs.length) (xs.drop i) (ys.drop i))))) s') →
      wpAny (model prog w) A.in1 (Builtin.«list.__eq__.loop» ⟨[.ref l, .ref r, rawInt i, rawInt (zIn d)], []⟩) (zDf prog w A R) (fun e s' => R (.error e) s') s := by
  have hlu : us.length = xs.length := by rw [← hu.length, List.length_map]
  have hlv : vs.length = ys.length := by rw [← hv.length, List.length_map]
  have stop : ∀ (i : Nat) A ψ1 s, Cx ⟨k + 1, n⟩ A ψ1 s → Le ψ ψ1 → (us.length ≤ i ∨ vs.length ≤ i) → (∀ ψ' s', zQ (frs A) ψ1 s ψ' s' → R (.ok (.ret (.bool (zGQ eq op (zDj d us.length vs.length) (xs.drop i) (ys.drop i))))) s') →
      wpAny (model prog w) A.in1 (Builtin.«list.__eq__.loop» ⟨[.ref l, .ref r, rawInt i, rawInt (zIn d)], []⟩) (zDf prog w A R) (fun e s' => R (.error e) s') s := by
    intro i A ψ1 s c l1 hge q
    have h1 := c.sub _ _ (l1 _ _ hl)
    have h2 := c.sub _ _ (l1 _ _ hr)
    have q1 := q ψ1 s (zQ.refl c.sub)
    have e : zGQ eq op (zDj d us.length vs.length) (xs.drop i) (ys.drop i) = zDj d us.length vs.length := by
      rcases hge with h | h
      · rw [List.drop_eq_nil_of_le (by omega)]; rfl
      · have : ys.drop i = [] := List.drop_eq_nil_of_le (by omega)
        rw [this]
        cases xs.drop i <;> rfl
    rw [e] at q1
    obtain ⟨hp, g, dd, tk, os⟩ := s
    have hs1 : us.toArray.size = us.length := List.size_toArray
    have hs2 : vs.toArray.size = vs.length := List.size_toArray
    by_cases hlt : i < us.length
    · have hi1 : us.toArray[((i : Nat) : Int).toNat]? = some us[i] := by simp [hlt]
      have hi2 : vs.toArray[((i : Nat) : Int).toNat]? = none := by simp; omega
      cases d
      all_goals
        wp_walk using wpAny_loadPart' h1, wpAny_loadPart' h2
        rw [hi1, hi2]
        wp_walk using wpAny_loadPart' h1, wpAny_loadPart' h2
        rw [hs1, hs2]
        exact q1
    · have hi1 : us.toArray[((i : Nat) : Int).toNat]? = none := by simp; omega
      cases d
      all_goals
        wp_walk using wpAny_loadPart' h1, wpAny_loadPart' h2
        rw [hi1]
        wp_walk using wpAny_loadPart' h1, wpAny_loadPart' h2
        rw [hs1, hs2]
        exact q1
  intro m
  induction m with
  | zero => intro i hm A ψ1 s c l1 q; exact stop i A ψ1 s c l1 (.inl (by omega)) q
  | succ m ih =>
    intro i hm A ψ1 s c l1 q
    by_cases hge : vs.length ≤ i
    · exact stop i A ψ1 s c l1 (.inr hge) q
    have hlt1 : i < us.length := by omega
    have hlt2 : i < vs.length := by omega
    have hx1 : i < xs.length := by omega
    have hx2 : i < ys.length := by omega
    have h1 := c.sub _ _ (l1 _ _ hl)
    have h2 := c.sub _ _ (l1 _ _ hr)
    have hd1 : xs.drop i = xs[i] :: xs.drop (i + 1) := List.drop_eq_getElem_cons hx1
    have hd2 : ys.drop i = ys[i] :: ys.drop (i + 1) := List.drop_eq_getElem_cons hx2
    rw [hd1, hd2] at q
    have p1 : (P xs[i]).p ψ1 us[i] := by
      obtain ⟨P0, e0, p0⟩ := hu.get' (List.getElem?_eq_getElem hlt1)
      rw [List.getElem?_map, List.getElem?_eq_getElem hx1] at e0
      cases e0; exact (P _).mono l1 p0
    have p2 : (P ys[i]).p ψ1 vs[i] := by
      obtain ⟨P0, e0, p0⟩ := hv.get' (List.getElem?_eq_getElem hlt2)
      rw [List.getElem?_map, List.getElem?_eq_getElem hx2] at e0
      cases e0; exact (P _).mono l1 p0
    have he0 := he xs[i] ys[i] A.in1 ψ1 s us[i] vs[i] c.in1 (lφ.trans l1) p1 p2
    have ho0 : ∀ ψ2 s2, zQ (frs A) ψ1 s ψ2 s2 → zBJ prog w A.in1 ψ2 s2 (richCompare (zHs d) us[i] vs[i]) (zN (op xs[i] ys[i])) := fun ψ2 s2 g2 => ho xs[i] ys[i] A.in1 ψ2 s2 us[i] vs[i] (c.grow g2).in1 (lφ.trans (l1.trans g2.le)) ((P _).mono g2.le p1) ((P _).mono g2.le p2)
    have hi1 : us.toArray[((i : Nat) : Int).toNat]? = some us[i] := by simp [hlt1]
    have hi2 : vs.toArray[((i : Nat) : Int).toNat]? = some vs[i] := by simp [hlt2]
    have hc : ((i : Int) + 1) = ((i + 1 : Nat) : Int) := by push_cast; rfl
    obtain ⟨hp, g, dd, tk, os⟩ := s
    have hfin : wpAny (model prog w) A.in1 (eqBool us[i] vs[i]) (fun b s' => ∃ ψ2, zQ (frs A) ψ1 ⟨hp, g, dd, tk, os⟩ ψ2 s' ∧ b = eq xs[i] ys[i]) (fun e s' => R (.error e) s') ⟨hp, g, dd, tk, os⟩ := zIv he0 (fun b s' ⟨e, ψ2, g2⟩ => ⟨ψ2, g2, e⟩) fun _ _ e => e.elim
    cases d
    all_goals
      wp_walk using wpAny_loadPart' h1, wpAny_loadPart' h2
      rw [hi1, hi2]
      refine zIt (zIv hfin (fun b s' hb => ?_) fun _ _ e => e)
      obtain ⟨ψ2, g2, rfl⟩ := hb
      cases hb : eq xs[i] ys[i] with
      | true =>
        wp_walk
        rw [hc]
        refine ⟨plainId_quiet MeetsSeq3.plain_eq_loop _, codeAny_builtin MeetsSeq3.entry_eq_loop ?_⟩
        rw [Around.under_plainId MeetsSeq3.plain_eq_loop _]
        refine ih (i + 1) (by omega) A ψ2 s' (c.grow g2) (l1.trans g2.le) fun ψ3 s3 g3 => ?_
        have := q ψ3 s3 (g2.trans g3)
        rw [zEe] at this
        rw [hb] at this
        exact this
      | false =>
        have h1' := (c.grow g2).sub _ _ ((l1.trans g2.le) _ _ hl)
        have h2' := (c.grow g2).sub _ _ ((l1.trans g2.le) _ _ hr)
        refine zAL rfl ?_
        refine zIt (listItems_at h1' rfl (zIt (listItems_at h2' rfl ?_)))
        rw [hi1, hi2]
        refine zIt (zIv (ho0 ψ2 s' g2) (fun v s3 hv => ?_) fun _ _ e => e.elim)
        obtain ⟨ψ3, g3, rfl⟩ := hv
        have := q ψ3 s3 (g2.trans g3)
        rw [zEe] at this
        rw [hb] at this
        exact zIu this
end
section
variable {α : Type} {P : α → VP} {eq op : α → α → Bool} {xs ys : List α} {d : Bool}
noncomputable def ordId : Bool → String | true => "list.__lt__" | false => "list.__gt__"
theorem zGU {Q : Value → Shared → Prop} {l r : Addr} (c : Cx ⟨k + 1, n⟩ A ψ s) (lφ : Le φ ψ) (hl : (zB (xs.map P)).p ψ (.ref l)) (hr : (zB (ys.map P)).p ψ (.ref r)) (he : ∀ x y, zDG prog w ⟨k, n⟩ φ (P x) (P y) (eq x y)) (ho : ∀ x y, Op2 prog w ⟨k, n⟩ φ (richCompare (zHs d)) (P x) (P y) (zN (op x y))) (q : ∀ ψ' s', zQ (frs A) ψ s ψ' s' → Q (.bool (zGQ eq op (zDj d xs.length ys.length) xs ys)) s') : wpAny (model prog w) A (call (.builtin (ordId d)) [.ref l, .ref r]) Q E s := by
  obtain ⟨_, us, i1, e1, hl', hu⟩ := hl
  obtain ⟨_, vs, i2, e2, hr', hv⟩ := hr
  cases e1; cases e2
  have hlu : us.length = xs.length := by rw [← hu.length, List.length_map]
  have hlv : vs.length = ys.length := by rw [← hv.length, List.length_map]
  have f3 := AutoSeq1.sub_list_list
  have hloop := cmp_loop (prog := prog) (w := w) (k := k) (n := n) (d := d) (eq := eq) (op := op) (R := wants Q E) lφ hl' hr' hu hv he ho _ 0 rfl A ψ s c (Le.refl _) fun ψ' s' g => by
    rw [hlu, hlv]
    exact q ψ' s' g
  have h1 := c.sub _ _ hl'
  have h2 := c.sub _ _ hr'
  have hT : s.TypeIs (.ref l) "list" := ⟨_, h1, rfl⟩
  cases d
  · refine zEI PySem.F.slot_list_gt hT PySem.F.entry_list_gt (PySem.F.args_list_gt_2 _ _) ?_
    obtain ⟨hp, g, dd, tk, os⟩ := s
    wp_walk using wpAny_loadPart' h1, wpAny_loadPart' h2
    refine ⟨plainId_quiet MeetsSeq3.plain_eq_loop _, codeAny_builtin MeetsSeq3.entry_eq_loop ?_⟩
    rw [Around.under_plainId MeetsSeq3.plain_eq_loop _]
    exact hloop
  · refine zEI PySem.F.slot_list_lt hT PySem.F.entry_list_lt (PySem.F.args_list_lt_2 _ _) ?_
    obtain ⟨hp, g, dd, tk, os⟩ := s
    wp_walk using wpAny_loadPart' h1, wpAny_loadPart' h2
    refine ⟨plainId_quiet MeetsSeq3.plain_eq_loop _, codeAny_builtin MeetsSeq3.entry_eq_loop ?_⟩
    rw [Around.under_plainId MeetsSeq3.plain_eq_loop _]
    exact hloop
theorem zHr (he : ∀ x y, zDG prog w ⟨k, n⟩ φ (P x) (P y) (eq x y)) (ho : ∀ x y, Op2 prog w ⟨k, n⟩ φ (richCompare (zHs d)) (P x) (P y) (zN (op x y))) : Op2 prog w ⟨k + 1, n⟩ φ (richCompare (zHs d)) (zB (xs.map P)) (zB (ys.map P)) (zN (zGQ eq op (zDj d xs.length ys.length) xs ys)) := by
  intro A ψ s u v c l hu hv
  have hu' := hu
  have hv' := hv
  obtain ⟨x, us, i1, rfl, hx, _⟩ := hu'
  obtain ⟨y, vs, i2, rfl, hy, _⟩ := hv'
  have hun : A.units < cLine := by have := c.units; show _ < 9900; omega
  have hT1 : s.TypeIs (.ref x) "list" := ⟨_, c.sub _ _ hx, rfl⟩
  have hT2 : s.TypeIs (.ref y) "list" := ⟨_, c.sub _ _ hy, rfl⟩
  cases d
  · exact wpAny_richCompare_same_room (op := .Gt) hT1 hT2 PySem.F.slot_list_gt (zGU (d := false) c l hu hv he ho fun ψ' s' g => ⟨(fun x => nomatch x), ψ', g, rfl⟩) hun
  · exact wpAny_richCompare_same_room (op := .Lt) hT1 hT2 PySem.F.slot_list_lt (zGU (d := true) c l hu hv he ho fun ψ' s' g => ⟨(fun x => nomatch x), ψ', g, rfl⟩) hun
end
theorem zBX {α β : Type} {f : α → Option β} {g : α → β} : ∀ {l : List α}, (∀ k ∈ l, f k = some (g k)) → l.filterMap f = l.map g
  | [], _ => rfl
  | x :: l, h => by rw [List.filterMap_cons, h x (.head _), List.map_cons, zBX fun k hk => h k (.tail _ hk)]
theorem zHR {tb : List (Addr × Obj)} {k : Nat} {n : Bool} {A : Around} {a : Addr} {fd : FuncData} {body : Expr} {vs : List Value} {kw : List (Str × Value)} {binds : List (Str × Value)} {Q : Value → Shared → Prop} {E : Value → Shared → Prop} (htb : ∀ p ∈ tb, s.heap.get? p.1 = some p.2 ∧ ψ p.1 = none ∧ p.1 ∉ frs A) (c : Cx ⟨k + 1, n⟩ A ψ s) (K : FnK ψ a fd) (hb : fd.body = .expr body) (hcl : fd.closure = []) (hbind : BindsTo s fd ⟨vs, kw⟩ binds) (hkind : (binds.all fun y => fd.scope.names.lookup y.1 == some .local || fd.scope.names.lookup y.1 == some .cell) = true) (hfree : (fd.scope.names.all fun x => x.2 != .free) = true) (hnd' : decide (((cellsFrom 0 fd.scope.names []).map (·.1)).Nodup) = true) (h : ∀ env s', env.scope = fd.scope → env.code = fd.code ∧ env.qual = fd.qualname ++ ".<locals>." → S ⟨A, A.deeper env, ψ, s, env.locals :: env.cells.map (·.2), env, none, tb⟩ (fun x => binds.reverse.lookup x) ψ (fun _ => none) s' →
      wpAny (model prog w) (A.deeper env) (eval body env) Q (zCq prog w A env E) s') : codeAny (model prog w) A (.call (.ref a) ⟨vs, kw⟩) (fun r s' => match r with | .ok (.ret v) => Q v s' | .ok _ => False | .error e => E e s') s := by
  obtain ⟨o, ho, hd⟩ := K.obj
  have hnodup : ((cellsFrom 0 fd.scope.names []).map (·.1)).Nodup := of_decide_eq_true hnd'
  have hdepth : A.depth < recursionLimit := by have := c.depth; simp at this; show _ < 1000; omega
  refine kla_callFunE hdepth (c.sub _ _ ho) hd K.co K.gen hb (K.codeRec c.sub) (hbind _ _ _ _ ?_)
  rw [hcl]
  refine wpAny_newFunctionEnv_cells K.kind (kindsX hkind _) fun env' he s' x => ?_
  subst he
  refine ⟨(K.noLimit c.sub).keeps x.toInCall.keep, kla_codeExpr ?_⟩
  have hLn : s.heap.get? s.heap.objs.size = none := zF _
  have hnofree : ∀ x, fd.scope.names.lookup x ≠ some .free := fun y hy => by
    have := List.all_eq_true.mp hfree _ (mem_of_lookup hy)
    simp at this
  have cellNone : ∀ y c, (cellsFrom (s.heap.objs.size + 1) fd.scope.names []).lookup y = some c → s.heap.get? c = none := fun y cc hy => by
    have := x.above y cc (mem_of_lookup hy)
    cases q : s.heap.get? cc with
    | none => rfl
    | some o => exact absurd (Nat.lt_trans (Heap.lt_size q) this) (Nat.lt_irrefl _)
  refine zIv (h _ s' rfl ⟨rfl, rfl⟩ ?_) (fun fl s2 q => ?_) fun _ _ q => q
  · refine ⟨?_, Le.refl _, fun _ _ e => .inl e, fun b ob e => x.toInCall.keep b ob (c.sub b ob e), ?_, .deep rfl, (fun e he => by cases he), List.mem_cons_self .., ?_, ?_, ?_, (fun a o e => by cases e), ?_⟩
    · obtain ⟨h', tk, e, kk⟩ := x.done
      subst e
      exact Ext.of_keeps kk
    · refine ⟨K.kind, K.gl, K.bi, ⟨_, x.toInCall.ns, fun y hy => ?_⟩, fun y hy => ?_, fun y z cc hy hz => ?_, fun y cc hy => ?_⟩
      · rw [zED _ _ _ _ hy]; simp
      · rcases hy with hy | hy
        · have hsome := cellsFrom_some fd.scope.names (s.heap.objs.size + 1) [] (.inl hy)
          obtain ⟨cc, hcc⟩ := Option.isSome_iff_exists.mp hsome
          refine ⟨cc, hcc, ?_⟩
          have := x.cell y cc hcc
          rw [zD0 _ _ _ _ hy] at this
          simpa using this
        · exact absurd hy (hnofree y)
      · exact name_of_addr x.apart (mem_of_lookup hy) (mem_of_lookup hz)
      · exact Nat.ne_of_gt (x.above y cc (mem_of_lookup hy))
    · intro cc hcc
      rcases List.mem_cons.mp hcc with rfl | hcc
      · obtain ⟨o, _, _, ho, _⟩ := x.toInCall.ns; exact ⟨o, ho⟩
      · obtain ⟨⟨y, c'⟩, hy, rfl⟩ := List.mem_map.mp hcc
        have hnd := cellsFrom_names fd.scope.names 0 (s.heap.objs.size + 1) [] [] rfl
        obtain ⟨o, ho, _⟩ := x.cell y c' (lookup_of_mem_nodup (hnd ▸ hnodup) hy)
        exact ⟨o, ho⟩
    · intro cc hcc
      rcases List.mem_cons.mp hcc with rfl | hcc
      · exact ⟨zE c.sub hLn, hLn⟩
      · obtain ⟨⟨y, c'⟩, hy, rfl⟩ := List.mem_map.mp hcc
        have hnd := cellsFrom_names fd.scope.names 0 (s.heap.objs.size + 1) [] [] rfl
        have hy' := lookup_of_mem_nodup (hnd ▸ hnodup) hy
        exact ⟨zE c.sub (cellNone y c' hy'), cellNone y c' hy'⟩
    · intro y cc hy hnin
      exact absurd (List.mem_cons_of_mem _ (List.mem_map.mpr ⟨(y, cc), mem_of_lookup hy, rfl⟩)) hnin
    · intro p hp
      obtain ⟨t1, t2, t3⟩ := htb p hp
      refine ⟨x.toInCall.keep _ _ t1, t2, fun hcc => ?_, rfl, t3, ⟨_, t1⟩, t2⟩
      rcases List.mem_cons.mp hcc with q | hcc
      · have q' : p.1 = s.heap.objs.size := q
        rw [q', hLn] at t1; cases t1
      · obtain ⟨⟨y, c'⟩, hy, q⟩ := List.mem_map.mp hcc
        have hnd := cellsFrom_names fd.scope.names 0 (s.heap.objs.size + 1) [] [] rfl
        have hy' := lookup_of_mem_nodup (hnd ▸ hnodup) hy
        have := cellNone y c' hy'
        have q' : c' = p.1 := q
        rw [← q', this] at t1; cases t1
  · exact q
theorem spec_lam {a : Addr} {fd : FuncData} {body : Expr} {names : List Str} {Ps : List VP} {R : VP} (K : FnK φ a fd) (hb : fd.body = .expr body) (hcl : fd.closure = []) (hlen : names.length = Ps.length) (hbind : ∀ vs : List Value, vs.length = names.length → bindArgs fd ⟨vs, []⟩ = pure (names.zip vs)) (hnd : decide (names.Nodup) = true) (hkind : (names.all fun y => fd.scope.names.lookup y == some .local || fd.scope.names.lookup y == some .cell) = true) (hfree : (fd.scope.names.all fun x => x.2 != .free) = true) (hnd' : decide (((cellsFrom 0 fd.scope.names []).map (·.1)).Nodup) = true) (h : EV prog w ⟨k, n⟩ fd.scope (names.zip Ps) φ body R) : zj prog w ⟨k + 1, n⟩ φ (.ref a) Ps R := by
  intro A ψ s vs c l hv
  have hl : vs.length = names.length := by rw [hlen, hv.length]
  refine wpAny_call (zHR (tb := []) (Q := fun v s' => ∃ ψ', zQ (frs A) ψ s ψ' s' ∧ R.p ψ' v) (E := fun _ _ => False) (fun p hp => by cases hp) c (K.le l) hb hcl (BindsTo.of_eq (hbind vs hl)) ?_ hfree hnd' fun env s' he hcd x' => ?_)
  · rw [List.all_eq_true] at hkind ⊢
    intro y hy
    exact hkind y.1 (List.of_mem_zip hy).1
  · have ht : Typ (names.zip Ps) ψ (fun x => (names.zip vs).reverse.lookup x) := by
      refine zAZ ?_ ?_
      · refine zO.of_get (by simp [hl, hlen]) fun i a b ha hb => ?_
        rw [List.getElem?_zip_eq_some] at ha hb
        refine ⟨by have := ha.1.symm.trans hb.1; exact Option.some.inj this, ?_⟩
        obtain ⟨v, hv', hp⟩ := hv.get ha.2
        rw [hb.2] at hv'; cases hv'
        exact hp
      · have : (names.zip Ps).map (·.1) = names := by rw [List.map_fst_zip (by omega)]
        rw [this]; exact hnd
    have cx : CX ⟨k, n⟩ ⟨A, A.deeper env, ψ, s, env.locals :: env.cells.map (·.2), env, none, []⟩ := CX.of c rfl
    have bb : B ⟨A, A.deeper env, ψ, s, env.locals :: env.cells.map (·.2), env, none, []⟩ (names.zip Ps) ψ (fun _ => none) s' := ⟨_, x', ht⟩
    refine bb.eval cx (by rw [he]; exact h.go.le l) fun v ψ' s2 l2 p b2 => ⟨ψ', b2.toGrow, p⟩
theorem SpecT.le {μ : Md} {f : Value} {P : Addr} {Ps : List VP} {R : VP} (h : SpecT prog w μ φ f P Ps R) (l : Le φ ψ) : SpecT prog w μ ψ f P Ps R := fun A ψ' s vs Q E c l' => h A ψ' s vs Q E c (l.trans l')
theorem CX.tb2 {μ : Md} {P : Addr} {o : Obj} (c : CX μ X) : CX μ (X.setTb P o) := ⟨c.base⟩
theorem zBY {e : Expr} {Q : List Value → Shared → Prop} {pos : Pos} (hn : zM e = true) (h : wpAny (model prog w) A (eval e env) (fun v s' => Q [v] s') E s) : wpAny (model prog w) A (spliced (backTo pos (starEach [e] env))) Q E s := by
  rw [zI hn]
  show wpAny _ _ (spliced ((false, if (false = true) then _ else eval e env) :: [])) _ _ _
  unfold spliced
  simp only [Bool.false_eq_true, if_false]
  refine zIt (zIv h (fun v s' h' => ?_) fun _ _ e => e)
  exact zIt (zIu (zIt (zIw (zIu (zIu h')))))
theorem zBk {e : Expr} {fv : Value} {pos : Pos} {Q : Value → Shared → Prop} (hn : zM e = true) (h : wpAny (model prog w) A (eval e env) (fun v s' => (∃ k, (k = Keeper.frame ∨ k = Keeper.machine ∨ k = Keeper.boundFrame) ∧ Looks (model prog w) s'.heap (keeperOf fv) k) ∧ wpAny (model prog w) A (call fv [v]) Q E s') E s) : wpAny (model prog w) A (callWith pos fv [] (backTo pos (starEach [e] env)) []) Q E s := by
  refine callWith_of (P := fun h => ∃ k, (k = Keeper.frame ∨ k = Keeper.machine ∨ k = Keeper.boundFrame) ∧ Looks (model prog w) h (keeperOf fv) k) (by rw [zI hn]; rfl) (fun _ x => x) ?_
  have h2 := zBY (pos := pos) (Q := fun vs s' => (∃ k, (k = Keeper.frame ∨ k = Keeper.machine ∨ k = Keeper.boundFrame) ∧ Looks (model prog w) s'.heap (keeperOf fv) k) ∧ wpAny (model prog w) A (call fv ([] ++ vs) []) Q E s') hn h
  rw [zI hn] at h2 ⊢
  exact evalArgs_plain h2
section
open PySem.W.X
noncomputable def lookH (as : List Addr) (ns : List (Addr × Str)) (es : List Addr) (s : Shared) : List (Option Obj) × List (Option Value) × Bool :=
  (as.map s.heap.get?, ns.map (fun p => s.heap.nsMap p.1 p.2), es.all s.heap.isNs)
noncomputable def objT (as : List Addr) (os : List (Option Obj)) (b : Addr) : Option Obj := ((as.zip os).find? fun p => Nat.beq p.1 b).bind (·.2)
noncomputable def nsT (ns : List (Addr × Str)) (vs : List (Option Value)) (a : Addr) (x : Str) : Option (Option Value) := ((ns.zip vs).find? fun p => Nat.beq p.1.1 a && decide (p.1.2 = x)).map (·.2)
theorem zHp {α β : Type} {f : α → β} {l : List α} {r : List β} (h : l.map f = r) {p : α × β} (m : p ∈ l.zip r) : f p.1 = p.2 := by
  subst h
  rw [← List.map_prod_left_eq_zip] at m
  obtain ⟨a, _, e⟩ := List.mem_map.mp m
  rw [← e]
theorem objT_ok {h : Heap} {as : List Addr} {os : List (Option Obj)} (e : as.map h.get? = os) {b : Addr} {o : Obj} (q : objT as os b = some o) : h.get? b = some o := by
  obtain ⟨p, hp, h2⟩ := Option.bind_eq_some_iff.mp q
  have hb : Nat.beq p.1 b = true := List.find?_some (p := fun p : Addr × Option Obj => Nat.beq p.1 b) hp
  rw [← h2, ← zHp e (List.mem_of_find?_eq_some hp), Nat.eq_of_beq_eq_true hb]
theorem nsT_ok {f : Addr × Str → Option Value} {ns : List (Addr × Str)} {vs : List (Option Value)} (e : ns.map f = vs) {a : Addr} {x : Str} {r : Option Value} (q : nsT ns vs a x = some r) : f (a, x) = r := by
  obtain ⟨p, hp, h2⟩ := Option.map_eq_some_iff.mp q
  have h3 := Bool.and_eq_true_iff.mp (List.find?_some (p := fun p : (Addr × Str) × Option Value => Nat.beq p.1.1 a && decide (p.1.2 = x)) hp)
  rw [← h2, ← zHp e (List.mem_of_find?_eq_some hp), ← Nat.eq_of_beq_eq_true h3.1, ← of_decide_eq_true h3.2]
structure zBT (h : Heap) (as : List Addr) (os : List (Option Obj)) (ns : List (Addr × Str)) (vs : List (Option Value)) (es : List Addr) : Prop where
  obj : ∀ {b : Addr} {o : Obj}, objT as os b = some o → h.get? b = some o
  nsv : ∀ {a : Addr} {x : Str} {r : Option Value}, es.any (Nat.beq a) = true → nsT ns vs a x = some r → ∃ (o : Obj) (ds : Array DictEntry) (ep : Nat), h.get? a = some o ∧ o.data = .dict ds ep ∧ StrKeys ds ∧ nsFind ds x = r
theorem zBT.of {as : List Addr} {os : List (Option Obj)} {ns : List (Addr × Str)} {vs : List (Option Value)} {es : List Addr} {s₀ : Shared} {h : Heap} (Y : lookH as ns es s₀ = (os, vs, true)) (k : ∀ b o, s₀.heap.get? b = some o → h.get? b = some o) : zBT h as os ns vs es := by
  have y1 : as.map s₀.heap.get? = os := congrArg (·.1) Y
  have y2 : ns.map (fun p => s₀.heap.nsMap p.1 p.2) = vs := congrArg (·.2.1) Y
  have y3 : es.all s₀.heap.isNs = true := congrArg (·.2.2) Y
  refine ⟨fun e => k _ _ (objT_ok y1 e), fun {a x r} ha e => ?_⟩
  obtain ⟨b, hb, hab⟩ := List.any_eq_true.mp ha
  have hn := List.all_eq_true.mp y3 b hb
  rw [← Nat.eq_of_beq_eq_true hab] at hn
  obtain ⟨o, ds, ep, ho, hd, hk, hf⟩ := Heap.Ns.of_isNs hn
  exact ⟨o, ds, ep, k _ _ ho, hd, hk, (hf x).symm ▸ nsT_ok y2 e⟩
section
variable {P Q : Addr} {h : Heap} {as : List Addr} {os : List (Option Obj)} {nl : List (Addr × Str)} {vs : List (Option Value)} {es : List Addr}
theorem zBT.val (K : zBT h as os nl vs es) {a : Addr} {mg : Str → Option Value} (g : h.Ns a mg) {x : Str} {r : Option Value} (ha : es.any (Nat.beq a) = true) (e : nsT nl vs a x = some r) : mg x = r := by
  obtain ⟨o, ds, ep, ho, hd, hk, hf⟩ := K.nsv ha e
  obtain ⟨o', ds', ep', ho', hd', _, hf'⟩ := g
  rw [ho] at ho'; cases ho'
  rw [hd] at hd'; cases hd'
  exact (hf' x).symm.trans hf
noncomputable def isFn : ScopeKind → Bool
  | .function => true
  | _ => false
theorem isFn_eq {k : ScopeKind} (h : isFn k = true) : k = .function := by
  unfold isFn at h
  split at h
  · rfl
  · cases h
noncomputable def fnO (fd : FuncData) : Obj := { cls := .type "function", data := .func fd }
noncomputable def zAj (vs : List Value) : Obj := { cls := .type "code", data := .fields vs.toArray }
theorem zBT.table (K : zBT h as os nl vs es) {c T : Addr} {cs : List Value} (e : objT as os c = some (zAj cs)) (e1 : cs[11]? = some (.ref T)) : isCodeTable h T := ⟨c, _, _, K.obj e, rfl, rfl, by rw [List.getElem?_toArray]; exact e1⟩
end
end
noncomputable def zAU (a : Int) : Int := if a < 0 then -a else a
theorem zGF {a : Int} : zj prog w μ φ (.builtin "abs") [vInt a] (vInt (zAU a)) := by
  intro A ψ s vs c l h
  obtain ⟨v, rfl, t, rfl⟩ := za h
  exact PyProof.Rows.call_abs_int fun u tk => ⟨ψ, zb c.sub, u, rfl⟩
theorem zCE {ψ : PM} {ns : List Int} : ∀ {vs : List Value}, zO (fun (P : VP) v => P.p ψ v) (ns.map vInt) vs → IntsAre vs ns := by
  induction ns with
  | nil => intro vs h; cases h; exact .nil
  | cons n ns ih =>
    intro vs h
    cases h with
    | cons h t => obtain ⟨tk, rfl⟩ := h; exact IntsAre.cons _ _ (ih t)
noncomputable def maxL : List Int → Int
  | [] => 0
  | x :: xs => xs.foldl max x
noncomputable def minL : List Int → Int
  | [] => 0
  | x :: xs => xs.foldl min x
theorem zCn {xs : List Int} : ∀ {x : Int}, x ≤ xs.foldl max x ∧ (∀ a ∈ xs, a ≤ xs.foldl max x) ∧ (xs.foldl max x = x ∨ xs.foldl max x ∈ xs) := by
  induction xs with
  | nil => intro x; exact ⟨Int.le_refl _, fun a h => (nomatch h), .inl rfl⟩
  | cons y xs ih =>
    intro x
    obtain ⟨h1, h2, h3⟩ := ih (x := max x y)
    refine ⟨Int.le_trans (Int.le_max_left x y) h1, fun a ha => ?_, ?_⟩
    · rcases List.mem_cons.mp ha with rfl | ha
      · exact Int.le_trans (Int.le_max_right x a) h1
      · exact h2 a ha
    · rcases h3 with h3 | h3
      · rcases Int.le_total x y with q | q
        · exact .inr (by rw [List.foldl_cons, h3, Int.max_eq_right q]; exact .head _)
        · exact .inl (by rw [List.foldl_cons, h3, Int.max_eq_left q])
      · exact .inr (.tail _ h3)
theorem zId {xs : List Int} : ∀ {x : Int}, xs.foldl min x ≤ x ∧ (∀ a ∈ xs, xs.foldl min x ≤ a) ∧ (xs.foldl min x = x ∨ xs.foldl min x ∈ xs) := by
  induction xs with
  | nil => intro x; exact ⟨Int.le_refl _, fun a h => (nomatch h), .inl rfl⟩
  | cons y xs ih =>
    intro x
    obtain ⟨h1, h2, h3⟩ := ih (x := min x y)
    refine ⟨Int.le_trans h1 (Int.min_le_left x y), fun a ha => ?_, ?_⟩
    · rcases List.mem_cons.mp ha with rfl | ha
      · exact Int.le_trans h1 (Int.min_le_right x a)
      · exact h2 a ha
    · rcases h3 with h3 | h3
      · rcases Int.le_total x y with q | q
        · exact .inl (by rw [List.foldl_cons, h3, Int.min_eq_left q])
        · exact .inr (by rw [List.foldl_cons, h3, Int.min_eq_right q]; exact .head _)
      · exact .inr (.tail _ h3)
theorem zFm {ns : List Int} {M : Int} (h : M ∈ ns) (k : ∀ a ∈ ns, a ≤ M) : maxL ns = M := by
  cases ns with
  | nil => cases h
  | cons x xs =>
    obtain ⟨h1, h2, h3⟩ := zCn (xs := xs) (x := x)
    refine Int.le_antisymm ?_ ?_
    · rcases h3 with h3 | h3
      · show xs.foldl max x ≤ M
        rw [h3]; exact k x (.head _)
      · exact k _ (.tail _ h3)
    · rcases List.mem_cons.mp h with rfl | h
      · exact h1
      · exact h2 M h
theorem zHc {ns : List Int} {M : Int} (h : M ∈ ns) (k : ∀ a ∈ ns, M ≤ a) : minL ns = M := by
  cases ns with
  | nil => cases h
  | cons x xs =>
    obtain ⟨h1, h2, h3⟩ := zId (xs := xs) (x := x)
    refine Int.le_antisymm ?_ ?_
    · rcases List.mem_cons.mp h with rfl | h
      · exact h1
      · exact h2 M h
    · rcases h3 with h3 | h3
      · show M ≤ xs.foldl min x
        rw [h3]; exact k x (.head _)
      · exact k _ (.tail _ h3)
theorem zD8 {ns : List Int} (hn : μ.n = true) (hne : 0 < ns.length) : zj prog w μ φ (.builtin "max") [zB (ns.map vInt)] (vInt (maxL ns)) := by
  intro A ψ s vs c l h
  obtain ⟨v, rfl, a, us, j, rfl, ho, hall⟩ := za h
  have hi := zCE hall
  obtain ⟨xs, e⟩ := hi.allInts.items
  have hns : ns = xs.toList.map (·.1) := by
    rw [← hi.numsOf, ← nums_intItems, ← e]
  have hsz : 0 < xs.size := by
    have h3 := hne; rw [hns, List.length_map, Array.length_toList] at h3; exact h3
  have hl : s.heap.IsList a us.toArray := ⟨_, c.sub _ _ ho, rfl, j, rfl⟩
  rw [e] at hl
  refine max_intList (c.none hn) hl hsz fun v h' tk hv hk => ?_
  obtain ⟨t, rfl⟩ := intItems_at hv
  obtain ⟨h1, h2⟩ := argBest_gt (numAt xs) (xs.size - 1)
  have hM : maxL ns = numAt xs (argBest (fun i j => decide (numAt xs i > numAt xs j)) (xs.size - 1)) := by
    refine zFm ?_ fun a ha => ?_
    · rw [hns, numAt_eq]; exact getD_mem (by rw [List.length_map, Array.length_toList]; omega)
    · rw [hns] at ha
      obtain ⟨j, hj, rfl⟩ := mem_getD ha
      rw [List.length_map, Array.length_toList] at hj
      rw [← numAt_eq]; exact h2 j (by omega)
  exact ⟨ψ, ⟨Ext.of_keeps hk, Le.refl _, fun a o e => hk a o (c.sub a o e), fun _ _ e => .inl e⟩, t, by rw [hM]⟩
theorem call_min {ns : List Int} (hn : μ.n = true) (hne : 0 < ns.length) : zj prog w μ φ (.builtin "min") [zB (ns.map vInt)] (vInt (minL ns)) := by
  intro A ψ s vs c l h
  obtain ⟨v, rfl, a, us, j, rfl, ho, hall⟩ := za h
  have hi := zCE hall
  obtain ⟨xs, e⟩ := hi.allInts.items
  have hns : ns = xs.toList.map (·.1) := by
    rw [← hi.numsOf, ← nums_intItems, ← e]
  have hsz : 0 < xs.size := by
    have h3 := hne; rw [hns, List.length_map, Array.length_toList] at h3; exact h3
  have hl : s.heap.IsList a us.toArray := ⟨_, c.sub _ _ ho, rfl, j, rfl⟩
  rw [e] at hl
  refine min_intList (c.none hn) hl hsz fun v h' tk hv hk => ?_
  obtain ⟨t, rfl⟩ := intItems_at hv
  obtain ⟨h1, h2⟩ := argBest_lt (numAt xs) (xs.size - 1)
  have hM : minL ns = numAt xs (argBest (fun i j => decide (numAt xs i < numAt xs j)) (xs.size - 1)) := by
    refine zHc ?_ fun a ha => ?_
    · rw [hns, numAt_eq]; exact getD_mem (by rw [List.length_map, Array.length_toList]; omega)
    · rw [hns] at ha
      obtain ⟨j, hj, rfl⟩ := mem_getD ha
      rw [List.length_map, Array.length_toList] at hj
      rw [← numAt_eq]; exact h2 j (by omega)
  exact ⟨ψ, ⟨Ext.of_keeps hk, Le.refl _, fun a o e => hk a o (c.sub a o e), fun _ _ e => .inl e⟩, t, by rw [hM]⟩
theorem zHB {ps : List VP} : zj prog w μ φ (.type "type") [zB ps] (zT (.type "list")) := by
  intro A ψ s vs c l h
  obtain ⟨v, rfl, a, us, j, rfl, ho, hall⟩ := za h
  exact call_type_of (Tx := "list") ⟨_, c.sub _ _ ho, rfl⟩ (by decide) ⟨ψ, zQ.refl c.sub, rfl⟩
theorem zHH {ps : List VP} : zj prog w μ φ (.type "type") [zCQ ps] (zT (.type "tuple")) := by
  intro A ψ s vs c l h
  obtain ⟨v, rfl, a, us, j, rfl, ho, hall⟩ := za h
  exact call_type_of (Tx := "tuple") ⟨_, c.sub _ _ ho, rfl⟩ (by decide) ⟨ψ, zQ.refl c.sub, rfl⟩
theorem zGp {i : Int} : zj prog w μ φ (.type "type") [vInt i] (zT (.type "int")) := by
  intro A ψ s vs c l h
  obtain ⟨v, rfl, t, rfl⟩ := za h
  exact call_type_of (Tx := "int") (typeIs_int s i t) (by decide) ⟨ψ, zQ.refl c.sub, rfl⟩
theorem zAy {t : String} : Op2 prog w μ φ (compareOp .IsNot) (zT (.type t)) (zT (.type t)) (zN false) := by
  rintro A ψ s _ _ c l rfl rfl
  exact wpAny_isNot_self (by rfl) ⟨ψ, zQ.refl c.sub, rfl⟩
theorem zFO {P Q : VP} {x : Addr} (h1 : ∀ ψ v, P.p ψ v → v = .ref x) (h2 : ∀ ψ v, Q.p ψ v → v = .ref x) : Op2 prog w μ φ (compareOp .IsNot) P Q (zN false) := by
  intro A ψ s u v c l pu pv
  cases h1 _ _ pu; cases h2 _ _ pv
  exact wpAny_isNot_ref_self ⟨ψ, zQ.refl c.sub, rfl⟩
theorem zDn {ns : List Int} (h64 : ns.length < 64) : zj prog w μ φ (.builtin "sorted") [zB (ns.map vInt)] (zB ((sortI ns).map vInt)) := by
  intro A ψ s vs c l h
  obtain ⟨v, rfl, a, us, j, rfl, ho, hall⟩ := za h
  have hi := zCE hall
  have hl : s.heap.IsList a us.toArray := ⟨_, c.sub _ _ ho, rfl, j, rfl⟩
  refine PyProof.Rows.sorted_ints hl hi (by rw [← hall.length, List.length_map]; exact h64) fun out ns' h1 h2 h3 => ?_
  obtain ⟨e1, ho1⟩ := sortedAll_at s.heap us out
  have hsz : s.heap.get? (s.heap.objs.size + 1) = none := Heap.get?_none_of_le (Nat.le_succ _)
  have hn := zE c.sub hsz
  refine ⟨put ψ (s.heap.objs.size + 1) (seqObj "list" out e1), ⟨Ext.of_keeps (tk := s.toks) fun b o e => sortedAll_old e, zL hn, Sub.put (fun b o e => sortedAll_old (c.sub b o e)) ho1, fun b o e => ?_⟩, ?_⟩
  · by_cases q : b = s.heap.objs.size + 1
    · rw [q]; exact .inr hsz
    · rw [zC q] at e; exact .inl e
  · have e2 : out = out.toList.toArray := by simp
    refine ⟨_, out.toList, e1, rfl, ?_, ?_⟩
    · rw [zA, ← e2]
    · rw [← eq_sortI h2 h3]
      clear h2 h3 ho1 e2
      generalize out.toList = vs at h1
      induction h1 with
      | nil => exact .nil
      | cons => rename_i ih; exact .cons ⟨_, rfl⟩ ih
theorem zCS {it l : Addr} {i : Nat} {items : Array Value} {Q : Option Value → Shared → Prop} {χ : PM} (hk : HOk A χ) (hs : Sub χ s.heap) (hI : χ it = none) (hit : s.heap.IsListIter it l i) (hl : s.heap.IsList l items) (hx : items[i]? = none) (hQ : ∀ h', (∀ b o, b ≠ it → s.heap.get? b = some o → h'.get? b = some o) → Q none { s with heap := h' }) : wpAny (model prog w) A (pyNext (.ref it)) Q E s := by
  obtain ⟨o, ho, hc, hd⟩ := id hit
  obtain ⟨ol, hol, _, nl, hdl⟩ := hl
  unfold pyNext
  refine zIt (wpAny_attempt (wpAny_callSpecial?_slot (name := Str.ofString "__next__") hit.typeIs slot_listiter_next
    (wpAny_call_entry slot_listiter_next hit.typeIs entry_listiter_next ?_ (args_listiter_next _))))
  show wpAny _ _ (field (.ref it) 0 >>= _) _ _ s
  refine zIt (wpAny_field ho hd (x := .ref l) rfl ?_)
  show wpAny _ _ (if (Value.ref l == Value.none) = true then _ else _) _ _ s
  rw [if_neg (show ¬ ((Value.ref l == Value.none) = true) from Bool.false_ne_true)]
  show wpAny _ _ (field (.ref it) 1 >>= _) _ _ s
  refine zIt (wpAny_field ho hd (x := .int i 0) rfl ?_)
  show wpAny _ _ (seqItems? (.ref l) >>= _) _ _ s
  refine zIt (wpAny_seqItems hol hdl ?_)
  simp only [Int.toNat_natCast, hx]
  have s1 := Heap.SameBut.update s.heap it (Obj.mapFields (·.setIfInBounds 0 .none))
  refine zIt (wpAny_rule (zIt (wpAny_setField ho hd (by simp) ?_)))
  show wpAny _ _ (newExc (.type "StopIteration") [] >>= _) _ _ _
  refine zIt ?_
  simp only [newExc, newTuple]
  refine zIt (wpAny_newObj_type ?_ (by size_fits))
  refine zIt (m := firstArgMember _ _) (wpAny_of_eq (a := Value.none) (by first | rfl | (simp only [firstArgMember]; rfl)) ?_)
  refine wpAny_newObj_type ?_ (by size_fits)
  have hsz : ∀ b o', χ b = some o' → b < (s.heap.update it (Obj.mapFields (·.setIfInBounds 0 .none))).objs.size := fun b o' e => by
    rw [Heap.size_update]; exact Heap.lt_size (hs b o' e)
  have hn : χ ((s.heap.update it (Obj.mapFields (·.setIfInBounds 0 .none))).push (seqObj "tuple" #[] 0)).objs.size = none := by
    cases q : χ ((s.heap.update it (Obj.mapFields (·.setIfInBounds 0 .none))).push (seqObj "tuple" #[] 0)).objs.size with
    | none => rfl
    | some o' => have := hsz _ _ q; rw [size_push'] at this; exact absurd (Nat.lt_of_succ_lt this) (Nat.lt_irrefl _)
  refine zBa (A := A.in1) (cls := "StopIteration") (t := (s.heap.update it (Obj.mapFields (·.setIfInBounds 0 .none))).objs.size) hk ?_ hn ?_ fun h' hk' he' => ?_
  · intro b o' e
    refine Heap.get?_push_of_some _ (Heap.get?_push_of_some _ ?_)
    rw [s1.2 b (fun q => by rw [q, hI] at e; cases e)]
    exact hs b o' e
  · exact Heap.get?_push_size _ rfl
  · refine zIt (wpAny_isInstance (T := "StopIteration") (b := true) ⟨_, he', rfl⟩ isSubtype_stop ?_)
    refine zIu (hQ _ fun b o' hb e => ?_)
    have hlt : b < (s.heap.update it (Obj.mapFields (·.setIfInBounds 0 .none))).objs.size := by rw [Heap.size_update]; exact Heap.lt_size e
    refine hk' b o' (by rw [size_push']; exact Nat.ne_of_lt (Nat.lt_succ_of_lt hlt)) (Heap.get?_push_of_some _ (Heap.get?_push_of_some _ ?_))
    rw [s1.2 b hb]; exact e
theorem Walks.listH {A : Around} {χ : PM} {zs : List Addr} (hk : HOk A χ) (I ax : Addr) (hne : ax ≠ I) (hI : χ I = none) (hz : ∀ b o, χ b = some o → b ∈ zs) (items : Array Value) : Walks prog w A I (I :: ax :: zs) [I] items.size (fun i v => items[i]? = some v) (fun i h => h.IsListIter I ax i ∧ h.IsList ax items ∧ Sub χ h) where
  sub := fun b hb => by simp at hb; simp [hb]
  frame := fun _ _ _ st hk => ⟨st.1.at fun o e => hk I (by simp) o e, st.2.1.at fun o e => hk ax (by simp) o e, fun b o e => hk b (by simp [hz b o e]) o (st.2.2 b o e)⟩
  item := fun i s Q E hi st hQ => by
    refine wpAny_pyNext_list_item st.1 st.2.1 (x := items[i]) (by simp [hi]) fun h' hit' hs' => ?_
    exact hQ _ h' s.toks (by simp [hi]) ⟨hit', st.2.1.extBut hs'.extBut hne, fun b o e => hs'.extBut b o (fun q => by rw [q, hI] at e; cases e) (st.2.2 b o e)⟩ fun b o hb e => hs'.extBut b o (fun h => hb (by simp [h])) e
  done := fun s Q E st hQ => zCS hk st.2.2 hI st.1 st.2.1 (by simp) fun h' he' => hQ h' s.toks fun b o hb e => he' b o (fun h => hb (by simp [h])) e
  self := fun _ _ _ _ st hQ => wpAny_pyIter_listiter st.1 hQ
theorem HOk.small {A : Around} (h : HOk A ψ) : ∃ (χ : PM) (zs : List Addr), HOk A χ ∧ Le χ ψ ∧ (∀ b o, χ b = some o → b ∈ zs) ∧ ∀ b ∈ zs, ∃ o, ψ b = some o := by
  rcases h with h | ⟨x, h, o, vs, ho, hd, h2 | ⟨y, oy, ys, h2, hy, hdy, h3⟩⟩
  · exact ⟨fun _ => none, [], .inl h, fun _ _ e => (nomatch e), fun _ _ e => (nomatch e), fun _ e => (nomatch e)⟩
  · refine ⟨put (fun _ => none) x o, [x], .inr ⟨x, h, o, vs, zA _ _ _, hd, .inl h2⟩, fun b o' e => ?_, fun b o' e => ?_, fun b e => ?_⟩
    · by_cases q : b = x
      · subst q; rw [zA] at e; cases e; exact ho
      · rw [zC q] at e; cases e
    · by_cases q : b = x
      · rw [q]; exact .head _
      · rw [zC q] at e; cases e
    · rw [List.mem_singleton.mp e]; exact ⟨o, ho⟩
  · refine ⟨fun b => if b = x ∨ b = y then ψ b else none, [x, y], .inr ⟨x, h, o, vs, by simp [ho], hd, .inr ⟨y, oy, ys, h2, by simp [hy], hdy, h3⟩⟩, fun b o' e => ?_, fun b o' e => ?_, fun b e => ?_⟩
    · dsimp only at e; split at e
      · exact e
      · cases e
    · dsimp only at e; split at e
      · rename_i q; simpa using q
      · cases e
    · simp at e; rcases e with rfl | rfl
      · exact ⟨o, ho⟩
      · exact ⟨oy, hy⟩
theorem zFR {ps : List VP} : Itr prog w μ φ (zB ps) ps := by
  rintro A ψ s _ c l ⟨a, vs, j, rfl, ho, hall⟩
  have hl : s.heap.IsList a vs.toArray := ⟨_, c.sub _ _ ho, rfl, j, rfl⟩
  have hne : a ≠ s.heap.objs.size := Nat.ne_of_lt (Heap.lt_size (c.sub _ _ ho))
  obtain ⟨χ, zs, hχ, lχ, hz, hzs⟩ := c.hand.small
  have hI : χ s.heap.objs.size = none := by
    cases q : χ s.heap.objs.size with
    | none => rfl
    | some o => have := c.sub _ _ (lχ _ _ q); rw [zF] at this; cases this
  have W := Walks.listH (prog := prog) (w := w) hχ s.heap.objs.size a hne hI hz vs.toArray
  have e : vs.toArray.size = ps.length := by simp [hall.length]
  rw [e] at W
  have V : Walk prog w A s.heap.objs.size [s.heap.objs.size] (a :: zs) ps.length _ _ := ⟨⟨_, W, fun b hb => by
    rcases List.mem_cons.mp hb with rfl | hb
    · exact .inl (.head _)
    · exact .inr hb⟩, fun i h hst b hb => by rw [List.mem_singleton.mp hb]; obtain ⟨o, ho, _⟩ := hst.1; exact ⟨o, ho⟩⟩
  refine wpAny_pyIter_list hl ⟨_, _, _, _, _, rfl, V, ?_, fun b hb => ?_, fun b hb => ?_, fun i v hi hv => ?_, zCf s _⟩
  · exact ⟨⟨_, Heap.get?_push_size _ rfl, rfl, rfl⟩, hl.at fun o e => Heap.get?_push_of_some _ e, fun b o e => Heap.get?_push_of_some _ (c.sub _ _ (lχ _ _ e))⟩
  · rw [List.mem_singleton.mp hb]; exact zF _
  · rcases List.mem_cons.mp hb with rfl | hb
    · exact ⟨_, ho⟩
    · exact hzs b hb
  · exact hall.get' (by simpa using hv)
section
variable {rest : List Stmt} {Q : Flow → Shared → Prop} {cls : String} {ctx : Value}
structure Thr (F : List Addr) (s : Shared) (cls : String) (x : Addr) (s' : Shared) : Prop where
  ext : Ext F s s'
  nx : s.heap.get? x = none
  at_ : ∃ t y o vs, s.heap.get? y = none ∧ x ≠ y ∧ s'.heap.get? x = some (exo cls t (.ref y) .none) ∧ s'.heap.get? y = some o ∧ o.data = .fields vs ∧ vs[3]? = some .none
theorem FlO.of {x : Addr} (c : CX ⟨k, n⟩ X) (b : B X Γ ψ ω s) (h : Thr (frs X.A) s cls x s') : FlO X Γ ψ ω cls .none x s' := by
  obtain ⟨m, Y, ty⟩ := b
  obtain ⟨he, nx, t, y, o, vs, ny, hne, hx, hy, hd, h3⟩ := h
  have hω : ∀ z, s.heap.get? z = none → ω z = none := fun z hz => by
    cases q : ω z with
    | none => rfl
    | some o => have := (Y.own z o q).1; rw [hz] at this; cases this
  have Y2 := Y.wnew c he (wr := [x, y]) fun b hb => by
    simp at hb
    rcases hb with rfl | rfl
    · exact nx
    · exact ny
  refine ⟨zAS ω [x, y] s'.heap, t, y, fun a o' ha => ?_, hω x nx, hω y ny, hne, by simp [zAS, hx], ⟨o, vs, by simp [zAS, hy], hd, h3⟩, m, Y2, ty⟩
  have h1 : a ≠ x := fun q => by rw [q, hω x nx] at ha; cases ha
  have h2 : a ≠ y := fun q => by rw [q, hω y ny] at ha; cases ha
  simp [zAS, h1, h2, ha]
def zG4 (prog : Program) (w : World) (k : Nat) (φ : PM) (f : Value) (Ps : List VP) (cls : String) : Prop :=
  ∀ A ψ s vs (Q : Value → Shared → Prop) (E : Value → Shared → Prop), Cx ⟨k, true⟩ A ψ s → Le φ ψ → zO (fun (P : VP) v => P.p ψ v) Ps vs → (∀ x s', Thr (frs A) s cls x s' → E (.ref x) s') → wpAny (model prog w) A (call f vs) Q E s
theorem zG4.le {f : Value} {Ps : List VP} (h : zG4 prog w k φ f Ps cls) (l : Le φ ψ) : zG4 prog w k ψ f Ps cls := fun A ψ' s vs Q E c l' hv q => h A ψ' s vs Q E c (l.trans l') hv q
theorem y_exprR {x : Str} {px cpos pos : Pos} {args : List Expr} {fv : Value} {Ps : List VP} (hsc : X.env.scope = sc) (b : B X Γ ψ ω s) (c : CX ⟨k, true⟩ X) (hf : EV prog w ⟨k, true⟩ sc Γ ψ (.Name x px) (zT fv)) (hk : zw ψ fv) (ha : EA prog w ⟨k, true⟩ sc Γ ψ args Ps) (hs : zG4 prog w k ψ fv Ps cls) (q : ∀ z ψ' s', Le ψ ψ' → FlO X Γ ψ' ω cls .none z s' → E (.ref z) s') (hi : autoParam (interactive X.env = false) au0) : Ex prog w X (.Expr (.Call (.Name x px) args [] cpos) pos :: rest) Q E s := by
  obtain ⟨m, Y, t⟩ := id b
  refine ⟨z9 (wpAny_Expr_any (zA4 hsc hf hk ha (Y.cx c) (Le.refl _) Y.fram t fun vs ψ1 s1 g1 p1 => ?_) hi (by rfl))⟩
  have b1 : B X Γ ψ1 ω s1 := ⟨m, Y.grow c g1, t.le g1.le⟩
  exact hs X.A ψ1 s1 vs _ _ (b1.cx c) g1.le p1 fun x s' h => q x ψ1 s' g1.le (FlO.of c b1 h)
theorem HS.up2 {x : Addr} (h : HS X Γ ψ ω cls ctx x s) : FlT (X.mk' x) Γ ψ ω cls ctx x .none s := by
  obtain ⟨ω', t, y, hl, hn, hny, hne, hq, he, ht, b⟩ := h
  exact ⟨ω', t, y, hl, hn, hny, hne, by unfold zAa; rw [hq]; simpa using he, ht, b⟩
theorem y_raise {x : Addr} {pos : Pos} (h : HS X Γ ψ ω cls ctx x s) (d : zFk X) (c : CX ⟨k, n⟩ X) (q : ∀ s', FlT X Γ ψ ω cls ctx x (here X) s' → E (.ref x) s') : Ex prog w (X.mk' x) (.Raise none none pos :: rest) Q (forH prog w X x E) s := by
  refine ⟨z9 ?_⟩
  rw [arm_exec_Raise]
  refine zIt (wpAny_standAt ?_)
  show wpAny _ _ (raiseStmt (X.mk' x).env none none) _ _ s
  unfold raiseStmt
  dsimp only
  refine zIt (wpAny_handled ?_)
  rw [show (X.mk' x).A.handled = some (.ref x) from rfl]
  dsimp only
  refine zIt (wpAny_rule ?_)
  have f0 := h.up2
  obtain ⟨ω', t, y, hl, hn, hny, hne, he, _, m, Y, ty⟩ := id f0
  refine zIt (wpAny_field (Y.all.sub _ _ he) rfl (x := .ref y) (by rfl) ?_)
  have h1 : (Value.ref y == Value.none) = false := by simp
  simp only [h1, Bool.false_eq_true, if_false]
  have T := Top.of c d
  have hfr : (X.mk' x).env.frame = some X.env.locals := T.fr
  rw [hfr]
  exact zIt (f0.flight fun s' f' => wpAny_throw (Fl.forH (.inr (.inr f')) d c q))
theorem FlT.leave {e : Addr} (f : FlT X Γ ψ ω cls ctx e (here X) s) (T : Top X) {E2 : Value → Shared → Prop} (q : ∀ s', FlT X Γ ψ ω cls ctx e .none s' → E (.ref e) s') : wpAny (model prog w) X.A (leaving X.env (.ref e)) (fun _ s'' => E (.ref e) s'') E2 s := by
  unfold leaving
  exact zIt (f.again T (f.flight (g := none) q))
theorem FlT.thr {e : Addr} (f : FlT X Γ ψ ω cls .none e .none s) (hx : X.s₀.heap.get? e = none) : Thr X.F X.s₀ cls e s := by
  obtain ⟨ω', t, y, hl, hn, hny, hne, he, ⟨o, vs, h1, h2, h3⟩, m, Y, ty⟩ := f
  exact ⟨Y.ext, hx, t, y, o, vs, (Y.own _ _ h1).2.2.1, hne, Y.all.sub _ _ he, (Y.own _ _ h1).1, h2, h3⟩
theorem Fl.new {e : Addr} (f : FlF X Γ ψ ω cls ctx e s ∨ FlO X Γ ψ ω cls ctx e s) : X.s₀.heap.get? e = none := by
  rcases f with ⟨t, h1, m, Y, ty⟩ | ⟨ω', t, y, h1, h2, h3, h4, h5, h6, m, Y, ty⟩
  · exact (Y.own _ _ (zA _ _ _)).2.2.1
  · exact (Y.own _ _ h5).2.2.1
theorem zIW {a : Addr} {fd : FuncData} {body : List Stmt} {Ps : List VP} {Γ₀ : List (Str × VP)} (K : FnK φ a fd) (hb : fd.body = .stmts body) (hcl : fd.closure = []) (hbind : ∀ ψ (s : Shared) vs, Sub ψ s.heap → Le φ ψ → zO (fun (P : VP) v => P.p ψ v) Ps vs → ∃ binds, BindsTo s fd ⟨vs, []⟩ binds ∧ zO (fun (g : Str × VP) (b : Str × Value) => g.1 = b.1 ∧ g.2.p ψ b.2) Γ₀ binds) (hnd : decide ((Γ₀.map (·.1)).Nodup) = true) (hkind : (Γ₀.all fun y => fd.scope.names.lookup y.1 == some .local || fd.scope.names.lookup y.1 == some .cell) = true) (hfree : (fd.scope.names.all fun x => x.2 != .free) = true) (hnd' : decide (((cellsFrom 0 fd.scope.names []).map (·.1)).Nodup) = true) (h : ∀ X ψ s (E : Value → Shared → Prop), X.env.scope = fd.scope → CX ⟨k, true⟩ X → Le φ ψ → (∀ c ∈ X.env.cells.map (·.2), c ∈ X.ft) → zFk X → z7 X.A = .none → B X Γ₀ ψ (fun _ => none) s →
      (∀ x Γ' ψ' ω' s', X.s₀.heap.get? x = none → FlT X Γ' ψ' ω' cls .none x (here X) s' → E (.ref x) s') → Ex prog w X body (fun _ _ => False) E s) : zG4 prog w (k + 1) φ (.ref a) Ps cls := by
  intro A ψ s vs Q E c l hv q
  obtain ⟨binds, hB, hG⟩ := hbind ψ s vs c.sub l hv
  refine zo (tb := []) (fun p hp => by cases hp) c (K.le l) hb hcl hB ?_ hfree hnd' fun env s' he hcd x' => ?_
  · rw [List.all_eq_true] at hkind ⊢
    intro y hy
    obtain ⟨i, hi⟩ := List.getElem?_of_mem hy
    obtain ⟨g, hg, hgb⟩ := hG.get' hi
    rw [← hgb.1]
    exact hkind g (List.mem_of_getElem? hg)
  · have d : zFk ⟨A, A.deeper env, ψ, s, env.locals :: env.cells.map (·.2), env, none, []⟩ := ⟨rfl, x'.dp rfl rfl⟩
    have cx : CX ⟨k, true⟩ ⟨A, A.deeper env, ψ, s, env.locals :: env.cells.map (·.2), env, none, []⟩ := CX.of c rfl
    refine zIv (h ⟨A, A.deeper env, ψ, s, env.locals :: env.cells.map (·.2), env, none, []⟩ ψ s' _ he cx l (fun c hc => List.mem_cons_of_mem _ hc) d ?_ ⟨_, x', zAZ hG hnd⟩ fun x Γ' ψ' ω' s2 hx f => ?_).go (fun _ _ e => e.elim) fun _ _ e => e
    · unfold z7
      have : (A.deeper env).handled = A.handled := rfl
      rw [this, c.none rfl]; rfl
    · exact FlT.leave f (Top.of cx d) fun s3 f3 => q x s3 (f3.thr hx)
end
theorem hash_K {ds : Nat → Stmt} {K x dx c : Addr} {u : Value} {Q : Int → Shared → Prop} (hu : A.units < cLine) (hk : HOk A ψ) (hs : Sub ψ s.heap) (hK : zCb ds c ψ K) (hx : ψ x = some (inO K dx u)) (h : ∀ h' tk e t, (∀ b o, s.heap.get? b = some o → h'.get? b = some o) → s.heap.get? e = none → h'.get? e = some (exo "TypeError" t .none (z7 A)) → E (.ref e) { s with heap := h', toks := tk }) : wpAny (model prog w) A (pyHash (.ref x)) Q E s := by
  obtain ⟨md, st, kvs, T, hB, _⟩ := hK.at hs
  obtain ⟨g, tn, tq, n2, d, md', tk, st', sts, kvs', h1, h2, h3, h4, h5, h6⟩ := hK
  have hl : (kvF md (zt "__static_attributes__" (.ref st) kvs)).lookup ("__hash__" : Str) = some Value.none := by
    obtain ⟨pm, t1, t2, fl, sl, f0, f1, f2, f3, f4, f5, tks, e, _⟩ := hB
    rw [e]; rfl
  show wpAny (model prog w) A (pyHashByItsType (.ref x)) Q E s
  unfold pyHashByItsType
  refine zIt (wpAny_cRoomFor hu ?_)
  refine zIt ?_
  unfold specialOf
  refine zIt ?_
  show wpAny _ _ (do return (← load x).cls) _ _ _
  refine zIt (wpAny_load (hs _ _ hx) (zIu ?_))
  refine T.look (r := some Value.none) (fun e => by rw [hl] at e; cases e) (fun v e => by rw [hl] at e; exact e) ?_
  refine zHj (by rfl) ?_
  refine zIt (wpAny_rule ?_)
  refine zIt ?_
  unfold PySem.typeNameOf PySem.shownTypeOf
  refine zIt (zIt ?_)
  show wpAny _ _ (do return (← load x).cls) _ _ _
  refine zIt (wpAny_load (hs _ _ hx) (zIu ?_))
  refine zAL (by show (Value.ref K == Value.type "builtin_function_or_method") = false; rfl) ?_
  refine zIu ?_
  show wpAny _ _ (PySem.typeName (.ref K)) _ _ s
  unfold PySem.typeName classData
  refine zIt (zIt (wpAny_load (hs _ _ h1) (zIu ?_)))
  have hlen : ¬ Array.foldl (fun k c => k + (Str.utf8Of c).length) 0 (Str.ofString "K").cps > 50 := by decide +kernel
  dsimp only
  rw [if_neg hlen]
  refine zIu (zIt ?_)
  exact zGk plainExc_TypeError hk hs h (by decide +kernel)
theorem call_fkR {ds : Nat → Stmt} {x a y K dx cc : Addr} {u : Value} {vs : List Value} {j : Nat} {Q : Value → Shared → Prop} (c : Cx ⟨k + 1, true⟩ A ψ s) (ho : ψ x = some (zIB "dict.fromkeys" "dict")) (hoa : ψ a = some (lst vs j)) (hv : vs[0]? = some (.ref y)) (hK : zCb ds cc ψ K) (hy : ψ y = some (inO K dx u)) (hE : ∀ h' tk e t, (∀ b o, s.heap.get? b = some o → h'.get? b = some o) → s.heap.get? e = none → h'.get? e = some (exo "TypeError" t .none .none) → E (.ref e) { s with heap := h', toks := tk }) : wpAny (model prog w) A (call (.ref x) [.ref a]) Q E s := by
  have hA : A.in1.handled = none := c.none rfl
  have hctx : z7 A.in1 = .none := by unfold z7; rw [hA]; rfl
  refine zGN (c.sub _ _ ho) (check_fk _) entry_fk (by first | decide +kernel | (unfold String.startsWith; decide +kernel)) (by decide) ?_
  rw [Around.under_plainId plain_fk _]
  unfold Builtin.«dict.fromkeys»
  have hl : s.heap.IsList a vs.toArray := ⟨_, c.sub _ _ hoa, rfl, j, rfl⟩
  refine zIt (wpAny_of_eq (a := true) (zBh _) ?_)
  refine zAL rfl ?_
  refine zIt (wpAny_of_eq (a := true) PySem.F.kt_sub_dict ?_)
  refine zAL rfl ?_
  refine zAL rfl ?_
  refine zIt (wpAny_rule ?_)
  refine zIt (zIu ?_)
  dsimp only
  refine zIt (zCx ?_)
  refine zIw ?_
  have hlt : a < s.heap.objs.size := Heap.lt_size (c.sub _ _ hoa)
  have hn1 : s.heap.get? s.heap.objs.size = none := zF _
  generalize hs1 : ({ s with heap := s.heap.push { cls := .type "dict", data := .dict #[] } } : Shared) = s1
  have k1 : ∀ b o, s.heap.get? b = some o → s1.heap.get? b = some o := fun b o e => by rw [← hs1]; exact Heap.get?_push_of_some _ e
  have hz1 : s1.heap.objs.size = s.heap.objs.size + 1 := by rw [← hs1]; exact Heap.size_push ..
  have hD1 : Shared.TypeIs s1 (.ref s.heap.objs.size) "dict" := by rw [← hs1]; exact ⟨_, Heap.get?_push_size _ rfl, rfl⟩
  have hl1 : s1.heap.IsList a vs.toArray := hl.at fun o e => k1 a o e
  refine zIt (wpAny_typeOf hl1.typeIs (zIt (wpAny_typeOf hD1 ?_)))
  refine zAL (by decide) ?_
  refine zIt (wpAny_typeOf hD1 ?_)
  refine zAL (by decide) ?_
  refine zIt (wpAny_pyIter_list hl1 ?_)
  refine zIu ⟨plainId_quiet zEc _, codeAny_builtin zHa ?_⟩
  rw [Around.under_plainId zEc _]
  unfold Builtin.«dict.fromkeys.loop»
  have hS1 : Sub ψ s1.heap := fun b o e => k1 b o (c.sub b o e)
  have hex : ∃ s2 : Shared, s2 = { s1 with heap := s1.heap.push { cls := .type "list_iterator", data := .fields #[.ref a, .int 0 0] } } := ⟨_, rfl⟩
  obtain ⟨s2, hs2⟩ := hex
  show wpAny _ _ _ _ _ { s1 with heap := s1.heap.push { cls := .type "list_iterator", data := .fields #[.ref a, .int 0 0] } }
  have k2 : ∀ b o, s1.heap.get? b = some o → s2.heap.get? b = some o := fun b o e => by rw [hs2]; exact Heap.get?_push_of_some _ e
  have hit : s2.heap.IsListIter s1.heap.objs.size a 0 := by rw [hs2]; exact ⟨_, Heap.get?_push_size _ rfl, rfl, rfl⟩
  have hI1 : s1.heap.get? s1.heap.objs.size = none := zF _
  have hs0 : ∃ h2 tk2, s2 = { s with heap := h2, toks := tk2 } := by rw [hs2, ← hs1]; exact ⟨_, s.toks, rfl⟩
  rw [← hs2]
  refine zIt (wpAny_pyNext_list_item (A := A.in1) hit (hl1.at fun o e => k2 a o e) (x := .ref y) (by simpa using hv) fun h3 hit3 hsm => ?_)
  have k3 : ∀ b o, b ≠ s1.heap.objs.size → s2.heap.get? b = some o → h3.get? b = some o := fun b o hb e => (hsm.2 b hb).trans e
  have kk : ∀ b o, s.heap.get? b = some o → h3.get? b = some o := fun b o e => k3 b o (fun q => by rw [q] at e; have := k1 _ _ e; rw [hI1] at this; cases this) (k2 b o (k1 b o e))
  have kn : ∀ b, h3.get? b = none → s.heap.get? b = none := fun b e => by
    cases q : s.heap.get? b with
    | none => rfl
    | some o => rw [kk b o q] at e; cases e
  have hd3 : Shared.TypeIs { s2 with heap := h3 } (.ref s.heap.objs.size) "dict" := by
    obtain ⟨o, ho, hc⟩ := hD1
    exact ⟨o, k3 _ o (by rw [hz1]; exact Nat.ne_of_lt (Nat.lt_succ_self _)) (k2 _ o ho), hc⟩
  dsimp only
  refine zIt (wpAny_typeOf hd3 ?_)
  refine zHj (by decide) ?_
  refine zIt (m := Builtin.Dict.addrOf (.ref s.heap.objs.size)) (zIu ?_)
  refine zIt (zIw ?_)
  unfold dictSet
  refine zIw (zIt ?_)
  refine hash_K (ψ := ψ) (by have := c.units; simp at this; show A.units + 1 < 9900; omega) (.inl hA) (fun b o e => kk b o (c.sub b o e)) hK hy fun h' tk e t hk hn he => ?_
  rw [hctx] at he
  obtain ⟨h2, tk2, e2⟩ := hs0
  rw [e2]
  exact hE h' tk e t (fun b o q => hk b o (kk b o q)) (kn e hn) he
theorem v_fkR {ds : Nat → Stmt} {PF P : VP} {ps : List VP} {e : Expr} {px ap pos : Pos} (hg : BN φ ("dict" : Str) (.type "dict")) (he' : EV prog w ⟨k + 1, true⟩ sc Γ φ e (zB (vK ds PF P :: ps))) (hkd : autoParam (sc.names.lookup ("dict" : Str) = some NameKind.globalImplicit) au0) (hn : autoParam (zM e = true) au0) (hl : autoParam ((ap.endLine == pos.line) = true) au0) : EVR prog w ⟨k + 1, true⟩ sc Γ φ (.Call (.Attribute (.Name "dict" px) "fromkeys" ap) [e] [] pos) "TypeError" := by
  constructor
  intro A env m ψ s he c l f t Q E hE
  have ha : EvA prog w ⟨k + 1, true⟩ sc Γ φ [e] [zB (vK ds PF P :: ps)] := EvA.cons he'.go EvA.nil hn
  rw [arm_eval_Call, zy]
  refine zIt (zBJ.use ((zq hg hkd rfl : Ev prog w ⟨k + 1, true⟩ sc Γ φ (.Name "dict" px) _) A env m ψ s he c l f t) fun v ψ1 s1 g1 p1 => ?_)
  cases p1
  refine zIt (wpAny_standAt ?_)
  unfold methodCall
  have hform : methodCallForm ([e].length + ([] : List Keyword).length) (backTo pos (starEach [e] env)) (backToKw pos (keywordEach [] env)) = true := by
    unfold methodCallForm
    have h1 : (backTo pos (starEach [e] env)).all (!·.1) = true := by
      have := zBw ha pos env
      rw [List.all_eq_true]
      intro y hy
      have h2 := List.any_eq_false.mp this y hy
      simpa using h2
    rw [h1]
    rfl
  rw [hform]
  refine zIt (zIw ?_)
  show wpAny _ _ (getMethod (.type "dict") "fromkeys" _) _ _ _
  refine zFJ fun a h' tk ha' hna hk => ?_
  have hpos : methodCallPos true (.Name "dict" px) env ap pos = pure pos := by unfold methodCallPos; rw [hl]; rfl
  show wpAny _ _ (methodCallPos true (.Name "dict" px) env ap pos >>= fun callPos => callWith callPos (.ref a) [] (backTo pos (starEach [e] env)) []) _ _ _
  rw [hpos]
  refine zIt (zIu ?_)
  have hψ1 := zE g1.sub hna
  have g2 : zQ (frs A) ψ1 s1 (put ψ1 a (zIB "dict.fromkeys" "dict")) { s1 with heap := h', toks := tk } := ⟨Ext.of_keeps hk, zL hψ1, Sub.put (fun b o e => hk b o (g1.sub b o e)) ha', fun b z e => by
    by_cases q : b = a
    · subst q; exact .inr hna
    · rw [zC q] at e; exact .inl e⟩
  have L2 := (l.trans g1.le).trans g2.le
  have c2 := (c.grow g1).grow g2
  refine zBk hn (zBJ.use (he'.go A env m _ _ he c2 L2 ((f.ext g1.ext).ext g2.ext) ((t.le g1.le).le g2.le)) fun v ψ3 s3 g3 p3 => ⟨keep_bnd (φ := ψ3) (g3.le _ _ (zA _ _ _)) _ _ g3.sub, ?_⟩)
  obtain ⟨l', vs, j, rfl, ho, hall⟩ := p3
  obtain ⟨v0, hv0, hp0⟩ := hall.get (i := 0) rfl
  obtain ⟨y, K, dx, u, cc, o, fv, rfl, hy, _, _, hK, _⟩ := hp0
  have c3 := c2.grow g3
  refine call_fkR c3 (g3.le _ _ (zA _ _ _)) ho hv0 hK hy fun h4 tk4 e4 t4 hk4 hn4 he4 => ?_
  refine hE e4 t4 ψ3 s3 _ ((g1.trans g2).trans g3) (Ext.of_keeps hk4) hn4 ?_
  have hctx : z7 A = .none := by unfold z7; rw [c.none rfl]; rfl
  rw [hctx]; exact he4
theorem zEz {e : Expr} {pos : Pos} {rest : List Stmt} {Q : Flow → Shared → Prop} {cls : String} (hsc : X.env.scope = sc) (b : B X Γ ψ ω s) (c : CX ⟨k, n⟩ X) (h : EVR prog w ⟨k, n⟩ sc Γ ψ e cls) (q : ∀ x ψ' s', Le ψ ψ' → FlF X Γ ψ' ω cls (z7 X.A) x s' → E (.ref x) s') : Ex prog w X (.Return (some e) pos :: rest) Q E s := by
  refine ⟨wpAny_execs_cons (wpAny_Return_some ?_)⟩
  have b0 := b
  obtain ⟨m, Y, ty⟩ := b0
  exact h.go X.A X.env m ψ s hsc (Y.cx c) (Le.refl _) Y.fram ty _ _ fun x t ψ' s1 s2 g e hn hx => q x ψ' s2 g.le (FlF.of c b g e hn hx)
theorem v_b {x : Str} {pos : Pos} {v : Value} (hg : BN φ x v) (hk : autoParam (sc.names.lookup x = some .globalImplicit) au0) (hd : autoParam ((x == ("__debug__" : Str)) = false) au0) : EV prog w μ sc Γ φ (.Name x pos) (zT v) := ⟨zq hg hk hd⟩
theorem v_and {x y : Expr} {pos : Pos} {a b : Bool} (hx : EV prog w μ sc Γ φ x (zN a)) (hy : a = true → EV prog w μ sc Γ φ y (zN b)) : EV prog w μ sc Γ φ (.BoolOp .And [x, y] pos) (zN (a && b)) := by
  constructor
  intro A env m ψ s he c l f t
  refine wpAny_And2 (zBJ.use (hx.go A env m ψ s he c l f t) fun v ψ1 s1 g1 p1 => ?_)
  refine zIv (zAF A ψ1 s1 v (c.grow g1) (l.trans g1.le) p1) (fun r s2 hr => ?_) fun _ _ e => e.elim
  obtain ⟨rfl, ψ2, g2⟩ := hr
  have g := g1.trans g2
  cases r with
  | true => exact ((hy rfl).go A env m ψ2 s2 he (c.grow g) (l.trans g.le) (f.ext g.ext) (t.le g.le)).use fun v ψ3 s3 g3 p3 => ⟨ψ3, g.trans g3, p3⟩
  | false => exact ⟨ψ2, g, (zN false).mono g2.le p1⟩
theorem v_callKw {x y : Str} {px pos kp p2 : Pos} {e : Expr} {a : Addr} {fd : FuncData} {P R : VP} {bv : Bool} (hg : GN φ x (.ref a)) (K : FnK φ a fd) (ha : EV prog w μ sc Γ φ e P) (hs : ∀ A ψ s v, Cx μ A ψ s → Le φ ψ → P.p ψ v → zBJ prog w A ψ s (call (.ref a) [v] [(y, .bool bv)]) R) (hk : autoParam (sc.names.lookup x = some .globalImplicit) au0) (hd : autoParam ((x == ("__debug__" : Str)) = false) au0) (hn : autoParam (zM e = true) au0) : EV prog w μ sc Γ φ (.Call (.Name x px) [e] [⟨some y, .Constant (.bool bv) 0 p2, kp⟩] pos) R := by
  constructor
  intro A env m ψ s he c l f t
  rw [arm_eval_Call_Name']
  refine zIt (zBJ.use ((zEF hg hk hd : Ev prog w μ sc Γ φ (.Name x px) _) A env m ψ s he c l f t) fun v ψ1 s1 g1 p1 => ?_)
  cases p1
  refine callWith_of (P := fun h => ∃ k, (k = Keeper.frame ∨ k = Keeper.machine ∨ k = Keeper.boundFrame) ∧ Looks (model prog w) h (keeperOf (.ref a)) k) (by rw [zI hn]; rfl) (fun _ x => x) ?_
  have hsp := zBY (pos := pos) (env := env) (A := A) (E := fun _ _ => False) (s := s1) (Q := fun vs s' => wpAny (model prog w) A (evalAll ((backToKw pos (keywordEach [⟨some y, .Constant (.bool bv) 0 p2, kp⟩] env)).map (·.2))) (fun ks s₂ => (∃ k, (k = Keeper.frame ∨ k = Keeper.machine ∨ k = Keeper.boundFrame) ∧ Looks (model prog w) s₂.heap (keeperOf (.ref a)) k) ∧ wpAny (model prog w) A (call (.ref a) ([] ++ vs) ((((backToKw pos (keywordEach [⟨some y, .Constant (.bool bv) 0 p2, kp⟩] env)).filterMap (·.1)).zip ks))) (fun v s' => ∃ ψ', zQ (frs A) ψ s ψ' s' ∧ R.p ψ' v) (fun _ _ => False) s₂) (fun _ _ => False) s') hn (zBJ.use (ha.go A env m ψ1 s1 he (c.grow g1) (l.trans g1.le) (f.ext g1.ext) (t.le g1.le)) fun v ψ2 s2 g2 p2 => ?_)
  · rw [zI hn] at hsp ⊢
    exact evalArgs_kw (by rfl) hsp
  · refine wpAny_evalAll_cons ?_
    have c2 := (c.grow g1).grow g2
    have L2 := (l.trans g1.le).trans g2.le
    refine zIt (zBJ.use ((zH6 : Ev prog w μ sc Γ φ (.Constant (.bool bv) 0 _) (zN bv)) A env m ψ2 s2 he c2 L2 ((f.ext g1.ext).ext g2.ext) ((t.le g1.le).le g2.le)) fun u ψ3 s3 g3 p3 => ?_)
    cases p3
    refine zIt (wpAny_standAt (zIu (wpAny_evalAll_nil ⟨(K.le (L2.trans g3.le)).keepOk _ _ g3.sub, ?_⟩)))
    exact (hs A ψ3 s3 v (c2.grow g3) (L2.trans g3.le) (P.mono g3.le p2)).use fun v ψ4 s4 g4 p4 => ⟨ψ4, ((g1.trans g2).trans g3).trans g4, p4⟩
theorem B.pin {x : Str} {P : VP} (b : B X Γ ψ ω s) (h : Γ.lookup x = some P) : ∃ v, P.p ψ v ∧ B X ((x, zT v) :: Γ) ψ ω s := by
  obtain ⟨m, Y, t⟩ := b
  obtain ⟨v, hv, hp⟩ := t x P h
  refine ⟨v, hp, m, Y, fun y R hy => ?_⟩
  by_cases q : y = x
  · subst q
    rw [List.lookup_cons, beq_self_eq_true] at hy
    cases hy
    exact ⟨v, hv, rfl⟩
  · rw [List.lookup_cons, show (y == x) = false by simpa using q] at hy
    exact t y R hy
theorem zG3 {ns : List Int} {v : Int} {j : Nat} (hj : ns[j]? = some v) (hno : ∀ i < j, ns[i]? ≠ some v) (hsz : ns.length ≤ 1000) : zj prog w μ φ (.builtin "list.index") [zB (ns.map vInt), vInt v] (vInt (j : Nat)) := by
  intro A ψ s vs c l h
  obtain ⟨v1, v2, rfl, ⟨a, us, n, rfl, ho, hall⟩, t, rfl⟩ := zEA h
  have hlen : us.length = ns.length := by rw [← hall.length, List.length_map]
  have hlt : j < ns.length := (List.getElem?_eq_some_iff.mp hj).1
  have at_ : ∀ i (hi : i < us.toArray.size), ∃ u, us.toArray[i] = .int (ns.getD i 0) u := fun i hi => by
    have hi' : i < us.length := by simpa using hi
    obtain ⟨P, hP, hp⟩ := hall.get' (i := i) (b := us[i]) (List.getElem?_eq_getElem hi')
    rw [List.getElem?_map, List.getElem?_eq_getElem (by omega)] at hP
    cases hP
    obtain ⟨u, hu⟩ := hp
    refine ⟨u, ?_⟩
    rw [List.getElem_toArray, hu, List.getD_eq_getElem?_getD, List.getElem?_eq_getElem (by omega)]; rfl
  refine call_meets F.slot_list_index ⟨_, c.sub _ _ ho, rfl⟩ F.entry_list_index (F.args_list_index_2 _ _) (PySem.MeetsSeq.list_index a us.toArray n (.int v t) (fun y => match y with | .int i _ => i == v | _ => false) (fun y hy => ?_) j (by simp; omega) (by omega) ?_ fun m hm hmj => ?_) ⟨c.sub _ _ ho, ?_⟩
  · obtain ⟨i, hi, rfl⟩ := Array.mem_iff_getElem.mp hy
    obtain ⟨u, hu⟩ := at_ i hi
    rw [hu]
    exact PySem.MeetsSeq.EqGives.int _ _ _ _
  · obtain ⟨u, hu⟩ := at_ j (by simp; omega)
    rw [hu, List.getD_eq_getElem?_getD, hj]
    simp
  · obtain ⟨u, hu⟩ := at_ m hm
    have h2 := hno m hmj
    rw [List.getElem?_eq_getElem (by omega)] at h2
    rw [hu, List.getD_eq_getElem?_getD, List.getElem?_eq_getElem (by omega)]
    simpa using h2
  · exact ⟨ψ, zb c.sub, _, rfl⟩
theorem v_index {o e : Expr} {ap pos : Pos} {ns : List Int} {v : Int} {j : Nat} (ho : EV prog w μ sc Γ φ o (zB (ns.map vInt))) (he : EV prog w μ sc Γ φ e (vInt v)) (hj : ns[j]? = some v) (hno : ∀ i < j, ns[i]? ≠ some v) (hsz : ns.length ≤ 1000) (hb : autoParam (∀ env t, attributeBase o "index" env t = t) au1) (hn : autoParam (zM e = true) au0) (hl : autoParam ((ap.endLine == pos.line) = true) au0) : EV prog w μ sc Γ φ (.Call (.Attribute o "index" ap) [e] [] pos) (vInt (j : Nat)) :=
  ⟨ev_mcall ho.go (e1 he hn).go (meth_seq F.plainAttrs_list F.slot_list_index F.type_list_index) (zG3 hj hno hsz) hb (by show 1 < 30; decide) hl⟩
theorem rev_lt {n k : Nat} (h : k < n) : n - 1 - k < n := Nat.lt_of_le_of_lt (Nat.sub_le _ _) (Nat.sub_lt (Nat.zero_lt_of_lt h) Nat.one_pos)
theorem zH2 {α : Type} (xs : List α) : zBt xs none none (some (-1)) = xs.reverse := by
  cases hx : xs with
  | nil => rfl
  | cons d r =>
    rw [← hx]
    have hpos : 0 < xs.length := by rw [hx]; simp
    unfold zBt sliceBounds sliceRange
    simp only [Option.getD_some]
    have h1 : ¬ ((-1 : Int) > 0) := by decide
    simp only [h1, if_false]
    have hc : (if (xs.length : Int) - 1 > -1 then ((xs.length : Int) - 1 - -1 - -1 - 1) / (-(-1)) else 0).toNat = xs.length := by
      rw [if_pos (by omega)]
      have e : (-(-1) : Int) = 1 := by decide
      rw [e, Int.ediv_one]; omega
    rw [hc, List.filterMap_map, zBX (g := fun (k : Nat) => xs.getD (xs.length - 1 - k) d) fun k hk => ?_]
    · apply List.ext_getElem?
      intro i
      by_cases hi : i < xs.length
      · rw [List.getElem?_map, List.getElem?_range hi, Option.map_some, List.getElem?_reverse hi, List.getD_eq_getElem?_getD, List.getElem?_eq_getElem (rev_lt hi)]; rfl
      · rw [List.getElem?_eq_none (by rw [List.length_map, List.length_range]; exact Nat.le_of_not_lt hi), List.getElem?_eq_none (by rw [List.length_reverse]; exact Nat.le_of_not_lt hi)]
    · have hk' := List.mem_range.mp hk
      have e : ((xs.length : Int) - 1 + -1 * (k : Int)).toNat = xs.length - 1 - k := by omega
      simp only [Function.comp_def, e]
      rw [List.getD_eq_getElem?_getD, List.getElem?_eq_getElem (rev_lt hk')]; rfl
theorem zGD {α : Type} {f : α → VP} {l : List α} (hsz : l.length ≤ 1000000) : Op2 prog w μ φ getItem (zB (l.map f)) (zCs none none (some (-1))) (zB (l.reverse.map f)) := by
  have h := zCj (prog := prog) (w := w) (μ := μ) (φ := φ) (ps := l.map f) (lo := none) (hi := none) (st := some (-1)) (by decide) (by have : sizeLine = 16777216 := rfl; rw [List.length_map]; omega)
  rw [zH2, ← List.map_reverse] at h
  exact h
theorem zHJ {α : Type} (xs : List α) (n : Nat) : zBt xs none (some (n : Int)) none = xs.take n := by
  unfold zBt sliceBounds
  simp only [Option.getD_none]
  have h1 : (1 : Int) > 0 := by decide
  have h2 : ¬ ((n : Int) < 0) := Int.not_lt.mpr (Int.natCast_nonneg _)
  simp only [h1, if_true, h2, if_false]
  have e : max 0 (min (n : Int) (xs.length : Int)) = ((min n xs.length : Nat) : Int) := by
    rcases Nat.le_total n xs.length with h | h
    · rw [Nat.min_eq_left h, Int.min_eq_left (Int.ofNat_le.mpr h), Int.max_eq_right (Int.natCast_nonneg _)]
    · rw [Nat.min_eq_right h, Int.min_eq_right (Int.ofNat_le.mpr h), Int.max_eq_right (Int.natCast_nonneg _)]
  rw [e]
  have := sliceRange_one 0 (min n xs.length)
  rw [show ((0 : Nat) : Int) = 0 from rfl] at this
  rw [this, List.filterMap_map]
  apply List.ext_getElem?
  intro i
  have hf : ∀ m, m ≤ xs.length → (List.range m).filterMap ((xs[·]?) ∘ fun x => 0 + x) = xs.take m := fun m hm => by
    have h3 := zm (xs.take m)
    rw [List.length_take, Nat.min_eq_left hm] at h3
    refine Eq.trans ?_ h3
    have hg : ∀ k ∈ List.range m, ((xs[·]?) ∘ fun x => 0 + x) k = ((xs.take m)[·]?) k := fun k hk => by
      have hk' := List.mem_range.mp hk
      simp only [Function.comp_def, Nat.zero_add]
      rw [List.getElem?_take, if_pos hk']
    have cong : ∀ (l : List Nat) (f g : Nat → Option α), (∀ k ∈ l, f k = g k) → l.filterMap f = l.filterMap g := fun l f g h => by
      induction l with
      | nil => rfl
      | cons a l ih => rw [List.filterMap_cons, List.filterMap_cons, h a (.head _), ih fun k hk => h k (.tail _ hk)]
    exact cong _ _ _ hg
  rw [Nat.sub_zero, hf _ (Nat.min_le_right _ _)]
  by_cases hn : n ≤ xs.length
  · rw [Nat.min_eq_left hn]
  · rw [Nat.min_eq_right (by omega), List.take_of_length_le (Nat.le_refl _), List.take_of_length_le (by omega)]
theorem get_take {α : Type} {f : α → VP} {l : List α} {n : Nat} (hsz : l.length ≤ 1000000) : Op2 prog w μ φ getItem (zB (l.map f)) (zCs none (some (n : Int)) none) (zB ((l.take n).map f)) := by
  have h := zCj (prog := prog) (w := w) (μ := μ) (φ := φ) (ps := l.map f) (lo := none) (hi := some (n : Int)) (st := none) (by decide) (by have : sizeLine = 16777216 := rfl; rw [List.length_map]; omega)
  rw [zHJ, List.map_take.symm] at h
  exact h
theorem WalksT.wider {A : Around} {I : Addr} {fp wr wr' : List Addr} {nn : Nat} {Pt : Nat → Array Value → Prop} {St : Nat → Heap → Prop} {Mid : Nat → Addr → Heap → Prop} (W : WalksT prog w A I fp wr nn Pt St Mid) (h1 : ∀ b ∈ wr, b ∈ wr') (h2 : ∀ b ∈ wr', b ∈ fp) (hl : ∀ i h, St i h → ∀ b ∈ wr', ∃ o, h.get? b = some o) : WalksT prog w A I fp wr' nn Pt St (fun i T h => Mid i T h ∧ T ∉ wr') where
  sub := h2
  frame := W.frame
  item := fun i s Q E hi hst hQ => W.item i s Q E hi hst fun T vals h' tk a b c d e => hQ T vals h' tk a b c ⟨d, fun hT => by
    obtain ⟨o, ho⟩ := hl i _ hst T hT
    exact absurd (Heap.lt_size ho) (Nat.not_lt.mpr b)⟩ fun b o hb e' => e b o (fun hb' => hb (h1 b hb')) e'
  go := fun elts k pos i T s Q E hm hQ => W.go elts k pos i T s Q E hm.1 fun h' a b => hQ h' a fun b' o hb e => b b' o (fun hb' => hb (h1 b' hb')) e
  apart := fun i T h hm => hm.2
  done := fun s Q E hst hQ => W.done s Q E hst fun h' tk a => hQ h' tk fun b o hb e => a b o (fun hb' => hb (h1 b hb')) e
  self := W.self
theorem zIM (N a b : Nat) (h : a < N) (h' : b < N) : ZipApart (N + 4) (N + 2) (N + 3) N (N + 1) a b := by
  constructor <;> (show (_ : Nat) ≠ _; omega)
theorem aNil {α : Type} {P : α → Prop} : ∀ x ∈ ([] : List α), P x := fun _ h => nomatch h
theorem zr {α : Type} {P : α → Prop} {a : α} {l : List α} (h : P a) (t : ∀ x ∈ l, P x) : ∀ x ∈ a :: l, P x := fun x hx => (List.mem_cons.mp hx).elim (fun e => e ▸ h) (t x)
theorem mm0 {α : Type} {a : α} {l : List α} : a ∈ a :: l := .head _
theorem mm1 {α : Type} {a b : α} {l : List α} : a ∈ b :: a :: l := .tail _ (.head _)
theorem mm2 {α : Type} {a b c : α} {l : List α} : a ∈ b :: c :: a :: l := .tail _ mm1
theorem mm3 {α : Type} {a b c d : α} {l : List α} : a ∈ b :: c :: d :: a :: l := .tail _ mm2
theorem mm4 {α : Type} {a b c d e : α} {l : List α} : a ∈ b :: c :: d :: e :: a :: l := .tail _ mm3
theorem zH4 {d1 d2 : Expr} {x y : Str} {px py pt ep pos : Pos} {kk : Nat} {ps qs : List VP} {nn : Nat} (hn : μ.n = true) (hg : BN φ ("zip" : Str) (.type "zip")) (h1 : EV prog w μ sc Γ φ d1 (zB ps)) (h2 : EV prog w μ sc Γ φ d2 (zB qs)) (hnn : min ps.length qs.length = nn) (hkd : autoParam (sc.names.lookup ("zip" : Str) = some NameKind.globalImplicit) au0) (hs1 : autoParam (zM d1 = true) au0) (hs2 : autoParam (zM d2 = true) au0) : ES prog w μ sc Γ φ (.Call (.Name "zip" ep) [d1, d2] [] pos) (.Tuple [.Name x px, .Name y py] kk pt) nn (fun i => [(y, qs.getD i zCT), (x, ps.getD i zCT)]) := by
  constructor
  intro A env m ψ s he c l f t
  refine zA4 (Ps := [zB ps, zB qs]) he ⟨zq hg hkd rfl⟩ zCp (e2 h1 h2 hs1 hs2) c l f t fun vs ψ1 s1 g1 p1 => ?_
  obtain ⟨v, u, rfl, ⟨a, vs, j, rfl, ho, hall⟩, ⟨b, us, i, rfl, hob, hallb⟩⟩ := zEA p1
  have c1 := c.grow g1
  have hl : s1.heap.IsList a vs.toArray := ⟨_, c1.sub _ _ ho, rfl, j, rfl⟩
  have hlb : s1.heap.IsList b us.toArray := ⟨_, c1.sub _ _ hob, rfl, i, rfl⟩
  have hlt : a < s1.heap.objs.size := Heap.lt_size (c1.sub _ _ ho)
  have hltb : b < s1.heap.objs.size := Heap.lt_size (c1.sub _ _ hob)
  have D := zIM s1.heap.objs.size a b hlt hltb
  refine call_zip_2 hl hlb fun h' z1 z2 z3 z4 z5 z6 hk => wpAny_pyIter_zip z1 ?_
  have W := WalksT.zip2 (prog := prog) (w := w) (c.none hn) _ _ _ _ _ a b D vs.toArray us.toArray
  have en : min vs.toArray.size us.toArray.size = nn := by rw [← hnn, hall.length, hallb.length]; simp
  rw [en] at W
  have hno : ∀ d : Nat, s1.heap.get? (s1.heap.objs.size + d) = none := fun d => Heap.get?_none_of_le (Nat.le_add_right _ _)
  have live : ∀ i (h : Heap), (IsZip h (s1.heap.objs.size + 4) (s1.heap.objs.size + 2) (s1.heap.objs.size + 3) .none ∧ IsPair h (s1.heap.objs.size + 2) (.ref s1.heap.objs.size) (.ref (s1.heap.objs.size + 1)) ∧ (∃ a b, IsPair h (s1.heap.objs.size + 3) a b) ∧ h.IsListIter s1.heap.objs.size a i ∧ h.IsListIter (s1.heap.objs.size + 1) b i ∧ h.IsList a vs.toArray ∧ h.IsList b us.toArray) →
      ∀ b ∈ [s1.heap.objs.size + 4, s1.heap.objs.size + 3, s1.heap.objs.size, s1.heap.objs.size + 1, s1.heap.objs.size + 2], ∃ o, h.get? b = some o := fun i h hx => by
    obtain ⟨x1, x2, ⟨_, _, x3⟩, ⟨o4, x4, _⟩, ⟨o5, x5, _⟩, _⟩ := hx
    exact zr ⟨_, x1⟩ (zr ⟨_, x3⟩ (zr ⟨_, x4⟩ (zr ⟨_, x5⟩ (zr ⟨_, x2⟩ aNil))))
  have W2 := WalksT.wider W (wr' := [s1.heap.objs.size + 4, s1.heap.objs.size + 3, s1.heap.objs.size, s1.heap.objs.size + 1, s1.heap.objs.size + 2]) (zr mm0 (zr mm1 (zr mm2 (zr mm3 aNil)))) (zr mm0 (zr mm2 (zr mm3 (zr mm4 (zr mm1 aNil))))) live
  refine ⟨ψ1, s1, [s1.heap.objs.size + 4, s1.heap.objs.size + 3, s1.heap.objs.size, s1.heap.objs.size + 1, s1.heap.objs.size + 2], [a, b], _, g1, zHV (P1 := fun i => ps.getD i zCT) (P2 := fun i => qs.getD i zCT) (c.none hn) W2 (zr (.inl mm0) (zr (.inl mm4) (zr (.inl mm1) (zr (.inl mm2) (zr (.inl mm3) (zr (.inr mm0) (zr (.inr mm1) aNil))))))) live (zr ⟨_, ho⟩ (zr ⟨_, hob⟩ aNil)) (fun i vals hi hPt => ?_), ⟨z1, z2, ⟨_, _, z3⟩, z4, z5, hl.at fun o e => hk _ o e, hlb.at fun o e => hk _ o e⟩, zr (hno 4) (zr (hno 3) (zr (hno 0) (zr (hno 1) (zr (hno 2) aNil)))), zr ⟨_, ho⟩ (zr ⟨_, hob⟩ aNil), Ext.of_keeps (s := s1) (tk := s1.toks) hk⟩
  · obtain ⟨u, v, hu, hv, rfl⟩ := hPt
    obtain ⟨Q1, hQ1, pQ1⟩ := hall.get' (by simpa using hu)
    obtain ⟨Q2, hQ2, pQ2⟩ := hallb.get' (by simpa using hv)
    exact ⟨_, _, rfl, by rw [List.getD_eq_getElem?_getD, hQ1]; exact pQ1, by rw [List.getD_eq_getElem?_getD, hQ2]; exact pQ2⟩
theorem zEo {a : Int} : Builtin.divisionGoesByPylong a 40 = false := by
  unfold Builtin.divisionGoesByPylong
  have : decide ((if (40 : Int) == 0 then 0 else (40 : Int).natAbs.log2 / 30 + 1) > 300) = false := by decide +kernel
  simp only [this, Bool.false_and]
theorem zDE {a b : Int} (hn : μ.n = true) (hs : Builtin.Range.small a b 1 = true) (hz : (b - a).toNat ≤ 1000) : zj prog w μ φ (.type "list") [zC5 a b] (zB ((zFX a (b - a).toNat).map vInt)) := by
  intro A ψ s vs c l h
  obtain ⟨v, rfl, r, t, u, x, rfl, ho⟩ := za h
  have hsz : Builtin.Range.rangeSize a b 1 = ((b - a).toNat : Int) := by rw [rangeSize_one]; split <;> omega
  refine call_list_range (c.none hn) (c.sub _ _ ho) hs hsz (by omega) fun h' tk acc c' hk hD hacc => ?_
  have hno := zE c.sub (zF s.heap)
  refine ⟨put ψ s.heap.objs.size (lst acc.toList c'), ⟨Ext.of_keeps hk, zL hno, Sub.put (fun a o e => hk a o (c.sub a o e)) (by rw [hD]; simp [lst]), fun b x e => ?_⟩, _, acc.toList, c', rfl, zA _ _ _, ?_⟩
  · by_cases q : b = s.heap.objs.size
    · subst q; exact .inr (zF _)
    · rw [zC q] at e; exact .inl e
  · refine zO.of_get (by rw [List.length_map, zC2, Array.length_toList, hacc.1]) fun i P v h1 h2 => ?_
    rw [List.getElem?_map] at h1
    cases q : (zFX a (b - a).toNat)[i]? with
    | none => rw [q] at h1; cases h1
    | some y =>
      rw [q] at h1; cases h1
      obtain ⟨tt, e⟩ := hacc.2 i v (by rw [← h2, Array.getElem?_toList])
      refine ⟨tt, ?_⟩
      have hy : y = a + (i : Nat) := by
        unfold zFX at q
        rw [List.getElem?_map] at q
        cases q2 : (List.range (b - a).toNat)[i]? with
        | none => rw [q2] at q; cases q
        | some z =>
          rw [q2] at q
          have := (List.getElem?_eq_some_iff.mp q2).2
          rw [List.getElem_range] at this
          cases q; rw [← this]
      rw [e, hy, Int.mul_one]
section
variable {rest : List Stmt} {Q : Flow → Shared → Prop}
theorem zF3 {e f : Expr} {Q : List Value → Shared → Prop} {pos : Pos} (hn : zM e = true) (hn' : zM f = true) (h : wpAny (model prog w) A (eval e env) (fun v s' => wpAny (model prog w) A (eval f env) (fun u s2 => Q [v, u] s2) E s') E s) : wpAny (model prog w) A (spliced (backTo pos (starEach [e, f] env))) Q E s := by
  rw [zI hn]
  show wpAny _ _ (spliced ((false, if (false = true) then _ else eval e env) :: backTo pos (starEach [f] env))) _ _ _
  unfold spliced
  simp only [Bool.false_eq_true, if_false]
  refine zIt (zIv h (fun v s' h' => ?_) fun _ _ e => e)
  exact zIt (zIu (zIt (zIw (zBY (pos := pos) hn' (zIv h' (fun u s2 h2 => zIu h2) fun _ _ e => e)))))
theorem B.listO {es : List Expr} {Ps : List VP} {lp : Pos} {Q : Value → Shared → Prop} (b : B X Γ ψ ω s) (c : CX ⟨k, n⟩ X) (hsc : X.env.scope = sc) (h : EA prog w ⟨k, n⟩ sc Γ ψ es Ps) (hsz : Ps.length ≤ sizeLine) (q : ∀ a vs ψ' s', ω a = none → ψ' a = none → Le ψ ψ' → zO (fun (P : VP) v => P.p ψ' v) Ps vs → B X Γ ψ' (put ω a (lst vs 0)) s' → Q (.ref a) s') : wpAny (model prog w) X.A (PySem.eval (Expr.List es lp) X.env) Q E s := by
  subst hsc
  rw [arm_eval_List]
  obtain ⟨m, Y, t⟩ := b
  refine zIt (wpAny_standAt (zIt (zAE rfl h.go (Y.cx c) (Le.refl _) Y.fram t fun vs ψ1 s1 g1 p1 => ?_)))
  have b1 : B X Γ ψ1 ω s1 := ⟨m, Y.grow c g1, t.le g1.le⟩
  refine b1.newList (vs := vs) (by rw [← p1.length]; exact hsz) fun a s' h1 h2 b' => q a vs ψ1 s' ?_ h2 g1.le p1 b'
  cases z : ω a with
  | none => rfl
  | some o => exact absurd z (h1 o)
theorem EA.le {es : List Expr} {Ps : List VP} (h : EA prog w μ sc Γ φ es Ps) (l : Le φ ψ) : EA prog w μ sc Γ ψ es Ps := ⟨h.go.le l⟩
theorem zGh {x : Str} {px pos lp l1 l2 : Pos} {es1 es2 : List Expr} {Ps1 Ps2 : List VP} (hsc : X.env.scope = sc) (b : B X Γ ψ ω s) (c : CX ⟨k, n⟩ X) (h1 : EA prog w ⟨k, n⟩ sc Γ ψ es1 Ps1) (h2 : EA prog w ⟨k, n⟩ sc Γ ψ es2 Ps2) (hz1 : Ps1.length ≤ sizeLine) (hz2 : Ps2.length ≤ sizeLine) (hk : zK X x) (q : ∀ a a1 a2 vs1 vs2 ψ' s', ω a1 = none → ω a2 = none → ω a = none → a1 ≠ a2 → a1 ≠ a → a2 ≠ a → Le ψ ψ' → zO (fun (P : VP) v => P.p ψ' v) Ps1 vs1 → zO (fun (P : VP) v => P.p ψ' v) Ps2 vs2 →
      B X ((x, zT (.ref a)) :: Γ) ψ' (put (put (put ω a1 (lst vs1 0)) a2 (lst vs2 0)) a (lst [.ref a1, .ref a2] 0)) s' → Ex prog w X rest Q E s') :
    Ex prog w X (.Assign [.Name x px] (.List [.List es1 l1, .List es2 l2] lp) pos :: rest) Q E s := by
  refine ⟨wpAny_execs_cons (wpAny_Assign_Name ?_ (by rfl))⟩
  rw [arm_eval_List]
  refine zIt (wpAny_standAt (zIt (zF3 (by rfl) (by rfl) ?_)))
  refine b.listO c hsc h1 hz1 fun a1 vs1 ψ1 s1 n1 m1 le1 p1 b1 => ?_
  refine b1.listO c hsc (h2.le le1) hz2 fun a2 vs2 ψ2 s2 n2 m2 le2 p2 b2 => ?_
  have h12 : a1 ≠ a2 := fun z => by rw [← z, zA] at n2; cases n2
  rw [zC h12.symm] at n2
  refine b2.newList (vs := [.ref a1, .ref a2]) (by show 2 ≤ sizeLine; decide) fun a s3 h3 h4 b3 => ?_
  have h1a : a1 ≠ a := fun z => h3 _ (by rw [← z, zC h12, zA])
  have h2a : a2 ≠ a := fun z => h3 _ (by rw [← z, zA])
  have hn : ω a = none := by
    cases z : ω a with
    | none => rfl
    | some o => exact absurd (by rw [zC h2a.symm, zC h1a.symm]; exact z) (h3 o)
  exact b3.store hk rfl fun s4 b4 => (q a a1 a2 vs1 vs2 ψ2 s4 n1 n2 hn h12 h1a h2a (le1.trans le2) (p1.imp fun (P : VP) v y => P.mono le2 y) p2 b4).go
theorem y_appE {o : Expr} {ap cpos pos : Pos} {e : Expr} {P : VP} {a : Addr} {vs : List Value} {j : Nat} (hsc : X.env.scope = sc) (b : B X Γ ψ ω s) (ha : ω a = some (lst vs j)) (ho : EI prog w X Γ ψ ω o (zT (.ref a))) (h : ∀ ψ', Le ψ ψ' → EI prog w X Γ ψ' ω e P) (hsz : vs.length ≤ sizeLine) (q : ∀ v ψ' s' j', Le ψ ψ' → P.p ψ' v → B X Γ ψ' (put ω a (lst (vs ++ [v]) j')) s' → Ex prog w X rest Q E s') (hi : interactive X.env = false) (hb : autoParam (∀ env t, attributeBase o "append" env t = t) au1) (hn : autoParam (zM e = true) au0) (hl : autoParam ((ap.endLine == cpos.line) = true) au0) : Ex prog w X (.Expr (.Call (.Attribute o "append" ap) [e] [] cpos) pos :: rest) Q E s := by
  refine ⟨z9 (wpAny_Expr_any ?_ hi (by rfl))⟩
  rw [arm_eval_Call, hb]
  refine zIt (ho.go s _ _ b fun v ψ1 s1 l1 p1 b1 => ?_)
  cases p1
  refine zIt (wpAny_standAt ?_)
  unfold methodCall
  have hform : methodCallForm ([e].length + ([] : List Keyword).length) (backTo cpos (starEach [e] X.env)) (backToKw cpos (keywordEach [] X.env)) = true := by
    rw [zI hn]; rfl
  rw [hform]
  refine zIt (zIw ?_)
  show wpAny _ _ (getMethod (.ref a) "append" _) _ _ _
  obtain ⟨m, Y, t⟩ := id b1
  have hob := (Y.own _ _ ha).1
  refine getMethod_builtin (T := "list") ⟨_, hob, rfl⟩ PySem.F.plainAttrs_list slot_list_append (by rfl) (fun b e => by cases e; exact ⟨_, hob, rfl⟩) ?_
  have hpos : methodCallPos true o X.env ap cpos = Pure.pure cpos := by unfold methodCallPos; rw [hl]; rfl
  show wpAny _ _ (methodCallPos true o X.env ap cpos >>= fun callPos => callWith callPos (.builtin "list.append") [.ref a] (backTo cpos (starEach [e] X.env)) []) _ _ _
  rw [hpos]
  exact zIt (zIu (zCJ hn ((h ψ1 l1).go s1 _ _ b1 fun v ψ2 s2 l2 p2 b2 => b2.append ha hsz fun s3 j3 b3 => (q v ψ2 s3 j3 (l1.trans l2) p2 b3).go)))
theorem zFx {a : Addr} {vs : List Value} {j : Nat} {k : Int} {t : Tok} {v : Value} {Q : Unit → Shared → Prop} (ho : s.heap.get? a = some (lst vs j)) (h0 : 0 ≤ k) (hfit : k < 2 ^ 63) (hi : k < vs.toArray.size) (q : Q () { s with heap := s.heap.update a (Obj.mapSeq (·.setIfInBounds k.toNat v)) }) : wpAny (model prog w) A (setItem (.ref a) (.int k t) v) Q E s := by
  have hl : s.heap.IsList a vs.toArray := ⟨_, ho, rfl, j, rfl⟩
  have hd : (lst vs j).data = .seq vs.toArray j := rfl
  generalize vs.toArray = items at hl hd hi
  generalize lst vs j = o at ho hd
  unfold setItem
  try with_reducible refine zIw ?_
  first | refine zIt (zIu ?_) | skip
  refine zIt (wpAny_sequenceKey hl.typeIs (by decide) ?_)
  refine zIt (wpAny_callSpecial?_slot (name := Str.ofString "__setitem__") hl.typeIs slot_list_setitem
    (wpAny_call_entry slot_list_setitem hl.typeIs entry_list_setitem ?_ (args_list_setitem _ _ _)))
  show wpAny _ _ (Builtin.List.listSubscript? (.int k t) >>= _) _ _ s
  refine zIt (wpAny_listSubscript_int (fitsIndex_of h0 hfit) ?_)
  clear hfit
  obtain ⟨i, rfl⟩ := Int.eq_ofNat_of_zero_le h0
  have hj : i < items.size := by omega
  have hx' : items[i]? = some items[i] := Array.getElem?_eq_getElem hj
  show wpAny _ _ ((seqItemAt a i >>= fun r => pure (r.map (i, ·))) >>= _) _ _ s
  refine zIt (zIt (wpAny_seqItemAt ho hd (zIu ?_)))
  rw [hx']
  show wpAny _ _ (setSeqItemAt a i v >>= _) _ _ s
  refine zIt (wpAny_setSeqItemAt ho hd ?_)
  first
    | exact zIt (zIu (zIu ⟨.none, rfl, zIu q⟩))
    | exact zIu ⟨.none, rfl, zIu q⟩
theorem zF9 {a : Addr} {vs : List Value} {j : Nat} {i : Nat} {t : Tok} {v : Value} {Q : Unit → Shared → Prop} (b : B X Γ ψ ω s) (ha : ω a = some (lst vs j)) (hi : i < vs.length) (hfit : (i : Int) < 2 ^ 63) (q : ∀ s' j', B X Γ ψ (put ω a (lst (vs.set i v) j')) s' → Q () s') : wpAny (model prog w) A (setItem (.ref a) (.int (i : Nat) t) v) Q E s := by
  obtain ⟨m, Y, ty⟩ := b
  have ho := (Y.own _ _ ha).1
  refine zFx ho (Int.natCast_nonneg _) hfit (by simp; omega) ?_
  rw [Int.toNat_natCast]
  have hfin : ∃ j', (Obj.mapSeq (·.setIfInBounds i v) (lst vs j)) = lst (vs.set i v) j' := by
    have e : vs.toArray.setIfInBounds i v = (vs.set i v).toArray := by simp
    unfold lst Obj.mapSeq
    simp only [e]
    exact ⟨_, rfl⟩
  obtain ⟨j', hj⟩ := hfin
  have hup := Heap.get?_update_self (Obj.mapSeq (·.setIfInBounds i v)) ho (by rfl)
  rw [hj] at hup
  exact q _ j' ⟨m, Y.sameBut ha ⟨_, s.toks, rfl⟩ (fun b ob hb e => by rw [Heap.get?_update_other _ _ (Ne.symm hb)]; exact e) hup, ty⟩
end
theorem zDR {k : Nat} {n : Bool} {A : Around} {a : Addr} {fd : FuncData} {body : Expr} {vs : List Value} {kw : List (Str × Value)} {binds : List (Str × Value)} {mc : Str → Option Value} {Q : Value → Shared → Prop} {E : Value → Shared → Prop} (c : Cx ⟨k + 1, n⟩ A ψ s) (K : FnK ψ a fd) (hb : fd.body = .expr body) (hbind : BindsTo s fd ⟨vs, kw⟩ binds) (hloc : (binds.all fun y => fd.scope.names.lookup y.1 == some .local) = true) (hcell : (fd.scope.names.all fun x => x.2 != .cell) = true) (hcl : ∀ x, fd.scope.names.lookup x = some .free → ∃ cc oc, fd.closure.lookup x = some cc ∧ ψ cc = some oc ∧ oc.data = .cell (mc x)) (hinj : ∀ x y cc, fd.closure.lookup x = some cc → fd.closure.lookup y = some cc → x = y) (hin : ∀ x cc, fd.closure.lookup x = some cc → ∃ oc, ψ cc = some oc) (h : ∀ env s', env.scope = fd.scope → env.code = fd.code ∧ env.qual = fd.qualname ++ ".<locals>." → S ⟨A, A.deeper env, ψ, s, [env.locals], env, none, []⟩ (fun x => if fd.scope.names.lookup x = some .local then binds.reverse.lookup x else mc x) ψ (fun _ => none) s' →
      wpAny (model prog w) (A.deeper env) (eval body env) Q (zCq prog w A env E) s') : wpAny (model prog w) A (call (.ref a) vs kw) Q E s := by
  obtain ⟨o, ho, hd⟩ := K.obj
  have hdepth : A.depth < recursionLimit := by have := c.depth; simp at this; show _ < 1000; omega
  have hcell' : ∀ x ∈ fd.scope.names, x.2 ≠ .cell := fun x hx => by have := List.all_eq_true.mp hcell x hx; simpa using this
  have hloc' : ∀ x ∈ binds, fd.scope.names.lookup x.1 = some .local := fun x hx => by have := List.all_eq_true.mp hloc x hx; simpa using this
  have hnocell : ∀ x, fd.scope.names.lookup x ≠ some .cell := fun y hy => hcell' _ (mem_of_lookup hy) rfl
  refine wpAny_call (kla_callFunE hdepth (c.sub _ _ ho) hd K.co K.gen hb (K.codeRec c.sub) (hbind _ _ _ _ ?_))
  refine wpAny_newFunctionEnv hcell' hloc' (fun h₀ hns hsb => ⟨(K.noLimit c.sub).fresh _ hsb, kla_codeExpr ?_⟩) K.kind
  have hk : ∀ b o, s.heap.get? b = some o → h₀.get? b = some o := fun b o e => hsb.extBut b o (Nat.ne_of_lt (Heap.lt_size e)) (Heap.get?_push_of_some _ e)
  have hLn : s.heap.get? s.heap.objs.size = none := zF _
  refine zIv (h _ _ rfl ⟨rfl, rfl⟩ ?_) (fun v s2 q => q) fun _ _ q => q
  refine ⟨Ext.of_keeps hk, Le.refl _, fun _ _ e => .inl e, fun b ob e => hk b ob (c.sub b ob e), ?_, .deep rfl, (fun e he => by cases he), List.mem_cons_self .., ?_, ?_, ?_, (fun a o e => by cases e), fun p hp => by cases hp⟩
  · refine ⟨K.kind, K.gl, K.bi, ⟨_, hns, fun y hy => ?_⟩, fun y hy => ?_, hinj, fun y cc hy => ?_⟩
    · have hy' : fd.scope.names.lookup y = some .local := hy
      simp [hy']
    · rcases hy with hy | hy
      · exact absurd hy (hnocell y)
      · have hy' : fd.scope.names.lookup y = some .free := hy
        obtain ⟨cc, oc, h1, h2, h3⟩ := hcl y hy'
        refine ⟨cc, h1, oc, hk _ _ (c.sub _ _ h2), ?_⟩
        simp [hy', h3]
    · obtain ⟨oc, h2⟩ := hin y cc hy
      intro q
      have q' : cc = s.heap.objs.size := q
      have := c.sub _ _ h2
      rw [q', hLn] at this; cases this
  · intro cc hcc
    rw [List.mem_singleton.mp hcc]
    obtain ⟨o, _, _, ho, _⟩ := hns; exact ⟨o, ho⟩
  · intro cc hcc
    rw [List.mem_singleton.mp hcc]
    exact ⟨zE c.sub hLn, hLn⟩
  · intro y cc hy _
    obtain ⟨oc, h2⟩ := hin y cc hy
    exact ⟨oc, c.sub _ _ h2⟩
theorem zHt {a cc : Addr} {fd : FuncData} {o : Obj} {fv : Value} {y : Str} {e : Expr} {names : List Str} {Ps : List VP} {PF R : VP} (K : FnK φ a fd) (hb : fd.body = .expr e) (hcl : fd.closure = [(y, cc)]) (hcell : φ cc = some o) (ho : o.data = .cell (some fv)) (hfv : PF.p φ fv) (hlen : names.length = Ps.length) (hbind : ∀ vs : List Value, vs.length = names.length → bindArgs fd ⟨vs, []⟩ = pure (names.zip vs)) (hnd : decide (names.Nodup) = true) (hloc : (names.all fun x => fd.scope.names.lookup x == some .local) = true) (hnc : (fd.scope.names.all fun x => x.2 != .cell) = true) (hfree : (fd.scope.names.all fun x => x.2 != .free || x.1 == y) = true) (hy : fd.scope.names.lookup y = some .free) (h : EV prog w ⟨k, n⟩ fd.scope ((y, PF) :: names.zip Ps) φ e R) : zj prog w ⟨k + 1, n⟩ φ (.ref a) Ps R := by
  intro A ψ s vs c l hv
  have hl : vs.length = names.length := by rw [hlen, hv.length]
  refine zDR (mc := fun _ => some fv) c (K.le l) hb (BindsTo.of_eq (hbind vs hl)) ?_ hnc (fun x hx => ?_) (fun x z c' h1 h2 => ?_) (fun x c' h1 => ?_) fun env s' he hcd x' => ?_
  · rw [List.all_eq_true] at hloc ⊢
    intro z hz
    exact hloc z.1 (List.of_mem_zip hz).1
  · have := List.all_eq_true.mp hfree _ (mem_of_lookup hx)
    have hxy : x = y := by simpa using this
    subst hxy
    exact ⟨cc, o, by rw [hcl]; simp [List.lookup_cons], l _ _ hcell, ho⟩
  · rw [hcl, List.lookup_cons] at h1 h2
    split at h1
    · rename_i q1
      split at h2
      · rename_i q2; rw [eq_of_beq q1, eq_of_beq q2]
      · cases h2
    · cases h1
  · rw [hcl, List.lookup_cons] at h1
    split at h1
    · cases h1; exact ⟨o, l _ _ hcell⟩
    · cases h1
  · have cX : CX ⟨k, n⟩ ⟨A, A.deeper env, ψ, s, [env.locals], env, none, []⟩ := CX.of c rfl
    have bX : B ⟨A, A.deeper env, ψ, s, [env.locals], env, none, []⟩ ((y, PF) :: names.zip Ps) ψ (fun _ => none) s' := by
      refine ⟨_, x', fun x R' hx => ?_⟩
      rw [List.lookup_cons] at hx
      split at hx
      · rename_i q
        cases hx
        have := eq_of_beq q; subst this
        exact ⟨fv, by rw [if_neg (by rw [hy]; decide)], PF.mono l hfv⟩
      · have hT : Typ (names.zip Ps) ψ (fun x => (names.zip vs).reverse.lookup x) := by
          refine zAZ ?_ ?_
          · refine zO.of_get (by simp [hl, hlen]) fun i a b ha hb => ?_
            rw [List.getElem?_zip_eq_some] at ha hb
            refine ⟨by have := ha.1.symm.trans hb.1; exact Option.some.inj this, ?_⟩
            obtain ⟨v, hv', hp⟩ := hv.get ha.2
            rw [hb.2] at hv'; cases hv'
            exact hp
          · have : (names.zip Ps).map (·.1) = names := by rw [List.map_fst_zip (by omega)]
            rw [this]; exact hnd
        obtain ⟨v, h1, h2⟩ := hT x R' hx
        have hxn : x ∈ names := (List.of_mem_zip (mem_of_lookup hx)).1
        have hxl := List.all_eq_true.mp hloc x hxn
        exact ⟨v, by rw [if_pos (by simpa using hxl)]; exact h1, h2⟩
    exact bX.eval cX (by rw [show env.scope = fd.scope from he]; exact fun A env m ψ' s he c l' f t => h.go A env m ψ' s he c (l.trans l') f t) fun v ψ3 s3 l3 p3 b3 => ⟨ψ3, b3.toGrow, p3⟩
theorem S.growT2 {P P2 : Addr} {ps ps2 : Array Value} {ψ' : PM} (Y : S X m ψ ω s) (cx : CX μ X) (hne : P ≠ P2) (hP : (P, tabObj #[]) ∈ X.tb) (hP2 : (P2, tabObj #[]) ∈ X.tb) (g : zQ (P :: P2 :: frs X.A) ψ s ψ' s') (ht : s'.heap.get? P = some (tabObj ps)) (ht2 : s'.heap.get? P2 = some (tabObj ps2)) (hψ : ψ' P = none) (hψ2 : ψ' P2 = none) : S ((X.setTb P (tabObj ps)).setTb P2 (tabObj ps2)) m ψ' ω s' := by
  have hPt := Y.tab _ hP
  have hPt2 := Y.tab _ hP2
  have hn : ∀ c oc, s.heap.get? c = some oc → ψ c = none → ψ' c = none := fun c oc hoc hc => by
    cases q : ψ' c with
    | none => rfl
    | some o =>
      rcases g.new c o q with z | z
      · rw [hc] at z; cases z
      · rw [hoc] at z; cases z
  have hPF : P ∈ X.F := List.mem_append_left _ (List.mem_map.mpr ⟨_, hP, rfl⟩)
  have hPF2 : P2 ∈ X.F := List.mem_append_left _ (List.mem_map.mpr ⟨_, hP2, rfl⟩)
  refine ⟨?_, Y.le.trans g.le, fun b o e => ?_, g.sub, Y.fram.ext g.ext, Y.link, (fun e he => (Y.hnd e he).le g.le), Y.loc, fun c hc => ?_, fun c hc => ?_, Y.fre, fun a o e => ?_, fun p hp => ?_⟩
  · rw [zAi, zAi]
    exact Y.ext.trans_new g.ext fun b hb => by
      rcases List.mem_cons.mp hb with rfl | hb
      · exact .inl hPF
      · rcases List.mem_cons.mp hb with rfl | hb
        · exact .inl hPF2
        · exact Y.frs_new cx b hb
  · rcases g.new b o e with z | z
    · exact Y.new b o z
    · exact .inr (Y.ext.none z)
  · obtain ⟨o, ho⟩ := Y.there c hc
    exact g.ext.there ho
  · obtain ⟨o, ho⟩ := Y.there c hc
    exact ⟨hn c o ho (Y.off c hc).1, (Y.off c hc).2⟩
  · obtain ⟨h1, h2, h3, h4⟩ := Y.own a o e
    refine ⟨g.ext.keep_off h1 fun hm => ?_, hn a o h1 h2, h3, h4⟩
    rcases List.mem_cons.mp hm with rfl | hm
    · rw [hPt.2.2.2.1] at e; cases e
    · rcases List.mem_cons.mp hm with rfl | hm
      · rw [hPt2.2.2.2.1] at e; cases e
      · obtain ⟨fr, ee, _⟩ := cx.stk
        rcases Y.link.frs ee hm with rfl | hm
        · exact h4 Y.loc
        · obtain ⟨ob, hob⟩ := zBf cx.stk hm
          rw [h3] at hob; cases hob
  · obtain ⟨p1, hp1, rfl⟩ := List.mem_map.mp hp
    obtain ⟨p0, hp0, rfl⟩ := List.mem_map.mp hp1
    obtain ⟨h1, h2, h3, h4, h5, h6⟩ := Y.tab p0 hp0
    by_cases q : p0.1 = P
    · rw [if_pos q]
      rw [if_neg (show ¬ P = P2 from hne)]
      rw [q] at h2 h3 h4 h5 h6
      exact ⟨ht, hψ, h3, h4, h5, h6⟩
    · rw [if_neg q]
      by_cases q2 : p0.1 = P2
      · rw [if_pos q2]
        rw [q2] at h2 h3 h4 h5 h6
        exact ⟨ht2, hψ2, h3, h4, h5, h6⟩
      · rw [if_neg q2]
        refine ⟨g.ext.keep_off h1 fun hm => ?_, hn p0.1 p0.2 h1 h2, h3, h4, h5, h6⟩
        rcases List.mem_cons.mp hm with z | hm
        · exact q z
        · rcases List.mem_cons.mp hm with z | hm
          · exact q2 z
          · obtain ⟨fr, ee, _⟩ := cx.stk
            rcases Y.link.frs ee hm with z | hm
            · exact h3 (z ▸ Y.loc)
            · exact h5 hm
noncomputable abbrev T3 : Type := Int × Nat × Nat
noncomputable def vT3 (t : T3) : VP := zCQ [vInt t.1, vInt (t.2.1 : Nat), vInt (t.2.2 : Nat)]
noncomputable def lt3 (x y : T3) : Bool := if x.1 = y.1 then (if x.2.1 = y.2.1 then decide (x.2.2 < y.2.2) else decide (x.2.1 < y.2.1)) else decide (x.1 < y.1)
theorem zBc {a c : Int} {t u : Tok} {R : Bool → Shared → Prop} (h : R (a == c) s) : wpAny (model prog w) A (eqBool (.int a t) (.int c u)) R (fun _ _ => False) s := wpAny_eqBool_int h
theorem zCo {a c : Int} {t u : Tok} {R : Bool → Shared → Prop} (h : R (decide (a < c)) s) : wpAny (model prog w) A (oneLt' false (.int a t) (.int c u)) R E s :=
  kat_one _ _ (wpAny_lt_int (h := h))
theorem opLt_T3 {x y : T3} : OpLtK (tuples' true) prog w μ φ (vT3 x) (vT3 y) (lt3 x y) := by
  rintro A ψ s _ _ c l ⟨a, us, i, rfl, ho, h1⟩ ⟨d, vs, j, rfl, hd, h2⟩
  obtain ⟨u1, u2, u3, rfl, ⟨t1, rfl⟩, ⟨t2, rfl⟩, ⟨t3, rfl⟩⟩ := zBH h1
  obtain ⟨v1, v2, v3, rfl, ⟨w1, rfl⟩, ⟨w2, rfl⟩, ⟨w3, rfl⟩⟩ := zBH h2
  have fin : ∀ {b : Bool}, b = lt3 x y → (b = lt3 x y ∧ ∃ ψ', zQ (frs A) ψ s ψ' s) := fun e => ⟨e, ψ, zQ.refl c.sub⟩
  refine kat_lt (E := fun _ _ => False) (c.sub _ _ ho) rfl (c.sub _ _ hd) rfl ?_
  refine kat_cons (zBc ?_)
  by_cases e1 : x.1 = y.1
  · rw [show (x.1 == y.1) = true by rw [e1]; simp]
    refine kat_yes (kat_cons (zBc ?_))
    by_cases e2 : x.2.1 = y.2.1
    · rw [show (((x.2.1 : Nat) : Int) == ((y.2.1 : Nat) : Int)) = true by rw [e2]; simp]
      refine kat_yes (kat_cons (zBc ?_))
      by_cases e3 : x.2.2 = y.2.2
      · rw [show (((x.2.2 : Nat) : Int) == ((y.2.2 : Nat) : Int)) = true by rw [e3]; simp]
        refine kat_yes (kat_nil (fin ?_))
        unfold lt3; rw [if_pos e1, if_pos e2, e3]; simp
      · rw [show (((x.2.2 : Nat) : Int) == ((y.2.2 : Nat) : Int)) = false by simpa using fun h : ((x.2.2 : Nat) : Int) = ((y.2.2 : Nat) : Int) => e3 (by omega)]
        refine kat_no (zCo (fin ?_))
        unfold lt3; rw [if_pos e1, if_pos e2]
        apply decide_eq_decide.mpr; omega
    · rw [show (((x.2.1 : Nat) : Int) == ((y.2.1 : Nat) : Int)) = false by simpa using fun h : ((x.2.1 : Nat) : Int) = ((y.2.1 : Nat) : Int) => e2 (by omega)]
      refine kat_no (zCo (fin ?_))
      unfold lt3; rw [if_pos e1, if_neg e2]
      apply decide_eq_decide.mpr; omega
  · rw [show (x.1 == y.1) = false by simpa using e1]
    refine kat_no ?_
    show wpAny _ _ (oneLt' true _ _) _ _ _
    refine oneLt_int (fin ?_)
    unfold lt3; rw [if_neg e1]
theorem kind_T3 {xs : List T3} : zIE prog w φ (tuples' true) (xs.map vT3) := by
  intro A E Q ψ s vs lφ hs h2 hall hq
  have tups : ∀ {xs : List T3} {vs : List Value}, zO (fun (P : VP) v => P.p ψ v) (xs.map vT3) vs → ∃ fs, KatTups s.heap vs fs ∧ fs.length = xs.length ∧ ∀ v ∈ fs, ∃ i t, v = .int i t := by
    intro xs
    induction xs with
    | nil => intro vs h; cases h; exact ⟨[], trivial, rfl, fun _ h => (nomatch h)⟩
    | cons x xs ih =>
      intro vs h
      cases h with
      | cons h t =>
        obtain ⟨fs, k1, k2, k3⟩ := ih t
        obtain ⟨a, us, i, rfl, ho, h1⟩ := h
        obtain ⟨u1, u2, u3, rfl, ⟨t1, rfl⟩, _, _⟩ := zBH h1
        exact ⟨.int x.1 t1 :: fs, KatTups.cons (hs _ _ ho) rfl rfl rfl k1, by simp [k2], fun v hv => by
          rcases List.mem_cons.mp hv with rfl | hv
          · exact ⟨_, _, rfl⟩
          · exact k3 v hv⟩
  obtain ⟨fs, k1, k2, k3⟩ := tups hall
  refine kat_kind (T := .type "int") k1 (by rw [k2]; rw [List.length_map] at h2; omega) (fun v hv => ?_) (by decide) hq
  obtain ⟨i, t, rfl⟩ := k3 v hv
  exact Looks.of_pure rfl
theorem zF1 {xs : List T3} {d : T3} (h64 : xs.length < 64) : zj prog w ⟨k + 2, n⟩ φ (.builtin "sorted") [zB (xs.map vT3)] (zB ((zB5 lt3 d xs).map vT3)) := zFG h64 kind_T3 fun x y => opLt_T3
theorem v_comp2 {elt tgt1 iter1 tgt2 iter2 : Expr} {ifs2 : List Expr} {pos : Pos} {P1 : VP} {n1 : Nat} {Tg1 : Nat → List (Str × VP)} {P2 : Nat → VP} {n2 : Nat → Nat} {Tg2 : Nat → Nat → List (Str × VP)} {keep : Nat → Nat → Bool} {R : Nat → Nat → VP} {b : Bool} (hi : EV prog w ⟨k + 1, b⟩ sc Γ φ iter1 P1) (hI : Src prog w ⟨k + 1, b⟩ φ tgt1 P1 n1 Tg1) (hok : zf sc scope = true) (hT : ∀ i < n1, ∀ p ∈ Tg1 i, own scope p.1 = true) (hi2 : ∀ i < n1, EV prog w ⟨k, b⟩ (zBM scope sc) (Tg1 i ++ zBQ scope Γ) φ iter2 (P2 i)) (hI2 : ∀ i < n1, Src prog w ⟨k, b⟩ φ tgt2 (P2 i) (n2 i) (Tg2 i)) (hT2 : ∀ i < n1, ∀ j < n2 i, ∀ p ∈ Tg2 i j, own scope p.1 = true ∧ (Tg1 i).lookup p.1 = none) (ht : ∀ i < n1, ∀ j < n2 i, ET prog w ⟨k, b⟩ (zBM scope sc) (Tg2 i j ++ (Tg1 i ++ zBQ scope Γ)) φ ifs2 (keep i j)) (hel : ∀ i < n1, ∀ j < n2 i, keep i j = true → EV prog w ⟨k, b⟩ (zBM scope sc) (Tg2 i j ++ (Tg1 i ++ zBQ scope Γ)) φ elt (R i j)) (hsz : ∀ i < n1, ((List.range i).flatMap (zHY n2 keep R)).length + n2 i ≤ sizeLine) (hs : autoParam (∀ env x, foldedSetIterable iter1 env x = pure x) au1) (hs2 : autoParam (∀ env x, foldedSetIterable iter2 env x = pure x) au1) : EV prog w ⟨k + 1, b⟩ sc Γ φ (.ListComp elt [⟨tgt1, iter1, [], 0⟩, ⟨tgt2, iter2, ifs2, 0⟩] scope pos) (zB ((List.range n1).flatMap (zHY n2 keep R))) :=
  ⟨ev_comp2 hi.go hI hok hT (fun i h => (hi2 i h).go) hI2 hT2 (fun i h j h' => (ht i h j h').go) (fun i h j h' q => (hel i h j h' q).go) hsz hs hs2⟩
theorem EV.impL {e : Expr} {P P' : VP} (h : EV prog w μ sc Γ φ e P) (q : ∀ ψ v, Le φ ψ → P.p ψ v → P'.p ψ v) : EV prog w μ sc Γ φ e P' :=
  ⟨fun A env m ψ s he c l f t => zIv (h.go A env m ψ s he c l f t) (fun v s' ⟨ψ', g, p⟩ => ⟨ψ', g, q ψ' v (l.trans g.le) p⟩) fun _ _ x => x⟩
theorem v_p {x : Str} {pos : Pos} {v : Value} {P : VP} (hp : P.p φ v) (h : autoParam (Γ.lookup x = some (zT v)) au0) (hk : autoParam (zu (sc.names.lookup x) = true) au0) (hd : autoParam ((x == ("__debug__" : Str) || x == ("__classdict__" : Str)) = false) au0) : EV prog w μ sc Γ φ (.Name x pos) P :=
  EV.impL (v_v h hk hd) fun ψ u l e => by cases e; exact P.mono l hp
theorem B.fresh {a : Addr} {o : Obj} (b : B X Γ ψ ω s) (h : ω a = some o) : X.s₀.heap.get? a = none ∧ a ∉ X.ft := by
  obtain ⟨m, Y, t⟩ := b
  exact (Y.own a o h).2.2
noncomputable def zCy (ψ : PM) (a : Addr) : PM := fun b => if b = a then none else ψ b
theorem zB1 {a b : Addr} (h : b ≠ a) : zCy ψ a b = ψ b := by unfold zCy; rw [if_neg h]
theorem zB8 {a : Addr} : zCy ψ a a = none := by unfold zCy; rw [if_pos rfl]
theorem zD7 {ψ ψn : PM} {a : Addr} {o : Obj} (h : Le (put ψ a o) ψn) (hd : ψ a = none) : Le ψ (zCy ψn a) := by
  intro b o' e
  have hb : b ≠ a := fun q => by rw [q, hd] at e; cases e
  rw [zB1 hb]
  exact h b o' (by rw [zC hb]; exact e)
theorem B.melt {Γ' : List (Str × VP)} {a : Addr} {o : Obj} (b : B X Γ ψ ω s) (c : CX μ X) (hx : X.hx = none) (ha : ψ a = some o) (hn : X.s₀.heap.get? a = none) (hf : a ∉ X.ft) (hΓ : ∀ m, Typ Γ ψ m → Typ Γ' (zCy ψ a) m) : B X Γ' (zCy ψ a) (put ω a o) s := by
  obtain ⟨m, Y, t⟩ := b
  have sub : ∀ b o', zCy ψ a b = some o' → ψ b = some o' := fun b o' e => by
    by_cases q : b = a
    · rw [q, zB8] at e; cases e
    · rw [zB1 q] at e; exact e
  have non : ∀ b, ψ b = none → zCy ψ a b = none := fun b e => by
    by_cases q : b = a
    · rw [q, zB8]
    · rw [zB1 q]; exact e
  refine ⟨m, ⟨Y.ext, fun b o' e => ?_, fun b o' e => Y.new b o' (sub b o' e), fun b o' e => Y.sub b o' (sub b o' e), Y.fram, Y.link, (fun e he => by rw [hx] at he; cases he), Y.loc, Y.there, fun b hb => ⟨non b (Y.off b hb).1, (Y.off b hb).2⟩, Y.fre, fun b o' e => ?_, fun p hp => ?_⟩, hΓ m t⟩
  · have hb : b ≠ a := fun q => by
      have h2 := c.sub b o' e
      rw [q, hn] at h2; cases h2
    rw [zB1 hb]
    exact Y.le b o' e
  · by_cases q : b = a
    · subst q
      rw [zA] at e
      cases e
      exact ⟨Y.sub _ _ ha, zB8, hn, hf⟩
    · rw [zC q] at e
      obtain ⟨h1, h2, h3⟩ := Y.own b o' e
      exact ⟨h1, non b h2, h3⟩
  · obtain ⟨h1, h2, h3, h4, h5⟩ := Y.tab p hp
    have hpa : p.1 ≠ a := fun q => by rw [q, ha] at h2; cases h2
    exact ⟨h1, non _ h2, h3, by rw [zC hpa]; exact h4, h5⟩
theorem zG6 {ns : List Int} {v : Value} {x : Addr} {us : List Value} {a : Addr} {i : Nat} (ha : ψ a = some (lst (.ref x :: us) i)) (h : (zB (ns.map vInt)).p ψ v) : (zB (ns.map vInt)).p (zCy ψ a) v := by
  obtain ⟨b, vs, j, rfl, ho, hall⟩ := h
  have reI : ∀ {ns : List Int} {vs : List Value} {ψ1 ψ2 : PM}, zO (fun (P : VP) v => P.p ψ1 v) (ns.map vInt) vs → zO (fun (P : VP) v => P.p ψ2 v) (ns.map vInt) vs := by
    intro ns
    induction ns with
    | nil => intro vs ψ1 ψ2 h; cases h; exact .nil
    | cons n ns ih => intro vs ψ1 ψ2 h; cases h with | cons h t => exact .cons h (ih t)
  refine ⟨b, vs, j, rfl, ?_, reI hall⟩
  by_cases q : b = a
  · subst q
    rw [ha] at ho
    have e2 : (Value.ref x :: us).toArray = vs.toArray := by
      have := Option.some.inj ho
      unfold lst at this
      injection this with _ _ h3 _
      injection h3
    have e3 : Value.ref x :: us = vs := by simpa using congrArg Array.toList e2
    subst e3
    cases ns with
    | nil => cases hall
    | cons n ns => cases hall with | cons h t => obtain ⟨t, h⟩ := h; cases h
  · rw [zB1 q]; exact ho
noncomputable def fbody : Stmt → List Stmt
  | .FunctionDef _ _ b _ _ _ _ _ _ _ => b
  | _ => []
noncomputable def fargs : Stmt → Arguments
  | .FunctionDef _ a _ _ _ _ _ _ _ _ => a
  | _ => ⟨[], [], none, [], [], none, []⟩
noncomputable def fscope : Stmt → Scope
  | .FunctionDef _ _ _ _ _ _ sc _ _ _ => sc
  | _ => default
noncomputable def fname : Stmt → Str
  | .FunctionDef n .. => n
  | _ => ""
noncomputable def zA1 (st : Stmt) (qual : Str) (cl : List (Str × Addr)) (dV kV doc pm cd ct : Value) : FuncData := fnX (fname st) qual (fargs st) (fbody st) (fscope st) cl dV kV doc pm none cd ct
noncomputable def body1 : List Stmt := PySem.Challenge.pw_op0045_01.main.body
noncomputable def st1 (i : Nat) : Stmt := body1.getD i (.Pass ⟨0, 0, 0, 0⟩)
theorem BN.le {φ ψ : PM} {x : Str} {v : Value} (h : BN φ x v) (l : Le φ ψ) : BN ψ x v := ⟨h.1.le l, h.2.le l⟩
noncomputable def clsBody : Stmt → List Stmt | .ClassDef _ _ _ b _ _ _ _ _ _ _ => b | _ => []
noncomputable def kb1 : List Stmt := clsBody ((fbody (st1 5)).getD 0 (.Pass ⟨0, 0, 0, 0⟩))
noncomputable def ds1 (i : Nat) : Stmt := kb1.getD (i + 2) (.Pass ⟨0, 0, 0, 0⟩)
noncomputable def isIV (v : Value) : Bool := Nat.beq v.ctorIdx (Value.int 0 0).ctorIdx
noncomputable def triB : List Value → Bool
  | [] => true
  | a :: b :: _ :: rest => isIV a && (isIV b && triB rest)
  | _ => false
theorem zGf {v : Value} (h : isIV v = true) : ∃ i t, v = .int i t := by
  cases v <;> first | exact ⟨_, _, rfl⟩ | exact absurd (show false = true from h) Bool.false_ne_true
theorem zDr : ∀ {l : List Value}, triB l = true → TriplesOk l
  | [], _ => trivial
  | a :: b :: _ :: rest, h => by
    have h1 := Bool.and_eq_true_iff.mp h
    have h2 := Bool.and_eq_true_iff.mp h1.2
    obtain ⟨i, t, rfl⟩ := zGf h1.1
    obtain ⟨j, u, rfl⟩ := zGf h2.1
    exact zDr (l := rest) h2.2
theorem spec_ctk {k : Nat} {φ : PM} {a cc P : Addr} {pm : Value} {PF : VP} (K : FnK φ a (zA1 (st1 5) "cmp_to_key" [] .none .none .none pm (.ref cc) .none)) (C : zX φ cc P) (hobj : BN φ "object" (.type "object")) (hbc : zD φ builtinsNs "__build_class__" (some (.builtin "__build_class__"))) (hany : zD φ cStatics "thirdparty.any" none) (hmods : ∃ o, φ sysModules = some o) (hT : zB6 φ) : SpecT prog w ⟨k + 25, n⟩ φ (.ref a) P [PF] (vCls ds1 PF) := by
  intro A ψ s vs Q E c l hv hP hPψ hPf q
  obtain ⟨v, rfl, hv1⟩ : ∃ v, vs = [v] ∧ PF.p ψ v := by
    cases hv with
    | cons h t => cases t with | nil => exact ⟨_, rfl, h⟩
  refine zo (k := k + 24) (tb := [(P, tabObj #[])]) (binds := [("mycmp", v)]) (fun p hp => by rw [List.mem_singleton] at hp; subst hp; exact ⟨hP, hPψ, hPf⟩) c (K.le l) rfl rfl (BindsTo.of_eq rfl) (by rfl) (by rfl) (by rfl) fun env s' he hcd x' => ?_
  have F := x'.fram
  obtain ⟨cl, hcl, hcell⟩ := F.cel "mycmp" (.inl (by show env.scope.names.lookup _ = _; rw [he]; rfl))
  dsimp only at hcl
  refine wpAny_execs_cons ?_
  refine cls_ok (ds := ds1) (c := cl) (clos := [("mycmp", cl)]) x' (CX.of c rfl) (hobj.le l) (by dsimp only; rw [he]; rfl) (hbc.le l) ?_ (hany.le l) (let ⟨o, h⟩ := hmods; ⟨o, l _ _ h⟩) (by rfl) (by rfl) (by rfl) hcd.1 (C.le l) (List.mem_singleton.mpr rfl) (hT.le l) (zn hcl (by rfl) (by rfl)) (K.lim.le l) ?_ (by rfl) (by rfl) (by rfl) (by rfl) (by rfl) ?_ ?_ ?_
  · -- the full name
    unfold qualnameIn
    have hk : env.kindOf "K" = some .local := by show env.scope.names.lookup _ = _; rw [he]; rfl
    dsimp only
    rw [hk, hcd.2]
    kernel_rfl
  · have := c.depth
    simp at this
    show (A.deeper env).depth + 20 < 1000
    simp only [Around.deeper]
    omega
  · intro R ns c1 P1 fr ψ1 s1 pm1 t1 t2 l1 hne hC b hR
    refine zD9 (by rfl) (by rfl) ?_
    refine wpAny_execs_cons (c_str b hne (by rfl) (by rfl) fun tkm s2 b2 => ?_)
    refine wpAny_execs_cons (c_list1 b2 hne (by rfl) (by rfl) fun sl tks ψ3 s3 l3 hsl b3 => ?_)
    have T3 := hT.le (l.trans (l1.trans l3))
    have C3 := hC.le l3
    refine wpAny_execs_cons (zHE b3 hne (by rfl) T3 C3 (by rfl) (fun _ => rfl) (zCi (by rfl)) trivial (by rfl) (by rfl) fun f0 c0 ct0 pm0 ψ4 s4 l4 hf0 hk0 b4 => ?_)
    have T4 := T3.le l4
    have C4 := C3.le l4
    refine wpAny_execs_cons (zHE b4 hne (by rfl) T4 C4 (by rfl) (fun _ => rfl) (zn (y := "mycmp") (c := cl) (by rfl) (by rfl) (by rfl)) (zDr (by kernel_rfl)) (by kernel_rfl) (by rfl) fun f1 c1 ct1 pm1 ψ5 s5 l5 hf1 hk1 b5 => ?_)
    have T5 := T4.le l5
    have C5 := C4.le l5
    refine wpAny_execs_cons (zHE b5 hne (by rfl) T5 C5 (by rfl) (fun _ => rfl) (zn (y := "mycmp") (c := cl) (by rfl) (by rfl) (by rfl)) (zDr (by kernel_rfl)) (by kernel_rfl) (by rfl) fun f2 c2 ct2 pm2 ψ6 s6 l6 hf2 hk2 b6 => ?_)
    have T6 := T5.le l6
    have C6 := C5.le l6
    refine wpAny_execs_cons (zHE b6 hne (by rfl) T6 C6 (by rfl) (fun _ => rfl) (zn (y := "mycmp") (c := cl) (by rfl) (by rfl) (by rfl)) (zDr (by kernel_rfl)) (by kernel_rfl) (by rfl) fun f3 c3 ct3 pm3 ψ7 s7 l7 hf3 hk3 b7 => ?_)
    have T7 := T6.le l7
    have C7 := C6.le l7
    refine wpAny_execs_cons (zHE b7 hne (by rfl) T7 C7 (by rfl) (fun _ => rfl) (zn (y := "mycmp") (c := cl) (by rfl) (by rfl) (by rfl)) (zDr (by kernel_rfl)) (by kernel_rfl) (by rfl) fun f4 c4 ct4 pm4 ψ8 s8 l8 hf4 hk4 b8 => ?_)
    have T8 := T7.le l8
    have C8 := C7.le l8
    refine wpAny_execs_cons (zHE b8 hne (by rfl) T8 C8 (by rfl) (fun _ => rfl) (zn (y := "mycmp") (c := cl) (by rfl) (by rfl) (by rfl)) (zDr (by kernel_rfl)) (by kernel_rfl) (by rfl) fun f5 c5 ct5 pm5 ψ9 s9 l9 hf5 hk5 b9 => ?_)
    refine wpAny_execs_cons (c_none b9 hne (by rfl) (by rfl) fun s10 b10 => ?_)
    refine wpAny_execs_nil ?_
    have e4 : FK ψ4 [] (ds1 0) f0 := ⟨pm0, _, ct0, hf0, hk0⟩
    have e5 : FK ψ5 [("mycmp", cl)] (ds1 1) f1 := ⟨pm1, _, ct1, hf1, hk1⟩
    have e6 : FK ψ6 [("mycmp", cl)] (ds1 2) f2 := ⟨pm2, _, ct2, hf2, hk2⟩
    have e7 : FK ψ7 [("mycmp", cl)] (ds1 3) f3 := ⟨pm3, _, ct3, hf3, hk3⟩
    have e8 : FK ψ8 [("mycmp", cl)] (ds1 4) f4 := ⟨pm4, _, ct4, hf4, hk4⟩
    have e9 : FK ψ9 [("mycmp", cl)] (ds1 5) f5 := ⟨pm5, _, ct5, hf5, hk5⟩
    have l89 := l9
    have l79 := l8.trans l89
    have l69 := l7.trans l79
    have l59 := l6.trans l69
    have l49 := l5.trans l59
    exact hR ψ9 _ _ s10 (l3.trans (l4.trans l49)) ⟨tkm, t1, t2, (28 : Int), sl, f0, f1, f2, f3, f4, f5, tks, by kernel_rfl, l49 _ _ (l4 _ _ hsl), e4.le l49, e5.le l59, e6.le l69, e7.le l79, e8.le l89, e9⟩ b10
  · exact .inl (by show env.scope.names.lookup _ = _; rw [he]; rfl)
  · intro K0 c1 ψ2 s2 l2 hK Y2
    have hcx : CX ⟨k + 24, n⟩ (Fix.setTb ⟨A, A.deeper env, ψ, s, env.locals :: env.cells.map (·.2), env, none, [(P, tabObj #[])]⟩ P (tabObj #[rawInt 28, rawInt 4, .ref c1])) := CX.of c rfl
    have hg : ∃ m, m = (fun y => if y = ("K" : Str) then some (Value.ref K0) else List.lookup y [(("mycmp" : Str), v)].reverse) := ⟨_, rfl⟩
    obtain ⟨m, hm⟩ := hg
    rw [← hm] at Y2
    have bK : B (Fix.setTb ⟨A, A.deeper env, ψ, s, env.locals :: env.cells.map (·.2), env, none, [(P, tabObj #[])]⟩ P (tabObj #[rawInt 28, rawInt 4, .ref c1])) [("K", zT (.ref K0)), ("mycmp", PF)] ψ2 (fun _ => none) s2 := ⟨m, Y2, fun x R hx => by
      subst hm
      by_cases q1 : x = ("K" : Str)
      · subst q1; cases hx; exact ⟨_, by simp, rfl⟩
      · by_cases q2 : x = ("mycmp" : Str)
        · subst q2
          have : R = PF := by have : some PF = some R := hx; exact (Option.some.inj this).symm
          subst this
          exact ⟨v, (if_neg (by decide)).trans rfl, R.mono l2 hv1⟩
        · rw [List.lookup_cons, List.lookup_cons, show (x == ("K" : Str)) = false by simpa using q1, show (x == ("mycmp" : Str)) = false by simpa using q2] at hx; cases hx⟩
    refine zBC bK (zBi.pure hcx (zFM (x := "K") (by rfl) (by show zu (env.scope.names.lookup _) = true; rw [he]; rfl) (by rfl))) fun v3 ψ3 s3 l3 p3 b3 => ?_
    cases p3
    have hK3 := hK.le l3
    have g3 := b3.toGrow
    obtain ⟨m3, Y3, t3⟩ := b3
    obtain ⟨cl', hcl', hc3⟩ := Y3.fram.cel "mycmp" (.inl (by show env.scope.names.lookup _ = _; rw [he]; rfl))
    have hcc : cl' = cl := by have : some cl' = some cl := hcl'.symm.trans hcl; exact Option.some.inj this
    subst hcc
    obtain ⟨v4, hv4, hp4⟩ := t3 "mycmp" PF (by rfl)
    rw [hv4] at hc3
    obtain ⟨oc, hoc, hocd⟩ := hc3
    have hft : cl' ∈ env.locals :: env.cells.map (·.2) := List.mem_cons_of_mem _ (List.mem_map.mpr ⟨_, mem_of_lookup hcl, rfl⟩)
    obtain ⟨ho1, ho2⟩ := Y3.off cl' hft
    have htb := Y3.tab (P, tabObj #[rawInt 28, rawInt 4, .ref c1]) (by show _ ∈ List.map _ _; simp)
    have hPc : P ≠ cl' := fun z => htb.2.2.1 (by show P ∈ _; rw [z]; exact hft)
    have lc := zL (o := oc) ho1
    refine q (.ref K0) (put ψ3 cl' oc) s3 _ ⟨(by have z := g3.ext; rw [zAi] at z; exact z), g3.le.trans lc, fun b ob e => ?_, fun b ob e => ?_⟩ htb.1 ?_ ⟨K0, cl', oc, v4, rfl, hK3.le lc, zA _ _ _, hocd, PF.mono lc hp4⟩
    · by_cases z : b = cl'
      · subst z; rw [zA] at e; cases e; exact hoc
      · rw [zC z] at e; exact g3.sub b ob e
    · by_cases z : b = cl'
      · subst z; exact .inr ho2
      · rw [zC z] at e; exact g3.new b ob e
    · rw [zC hPc]; exact htb.2.1

noncomputable def zCW {α β : Type} (step : β → α → β) (b0 : β) (xs : List α) (i : Nat) : β := (xs.take i).foldl step b0
theorem zGq {α β : Type} {step : β → α → β} {b0 : β} {xs : List α} {i : Nat} {d : α} (h : i < xs.length) : zCW step b0 xs (i + 1) = step (zCW step b0 xs i) (xs.getD i d) := by
  unfold zCW
  rw [List.take_add_one, List.getElem?_eq_getElem h, List.foldl_append, List.getD_eq_getElem?_getD, List.getElem?_eq_getElem h]
  rfl
theorem zGA {prog : Program} {w : World} {k : Nat} {φ : PM} {a im T : Addr} {fv pm cd : Value} {oim oT : Obj} {nT : Nat} {α β : Type} {Bv : β → VP} {P : α → VP} {step : β → α → β} {b0 : β} {xs : List α} {d : α} (hiter : BN φ "iter" (.builtin "iter")) (gim : GN φ "_initial_missing" (.ref im)) (him : φ im = some oim) (hcl : oim.cls = .type "object") (hne : ∀ ψ u, (Bv b0).p ψ u → ∃ x ox, u = .ref x ∧ ψ x = some ox ∧ ox.cls = .type "list") (hkp : zw φ fv) (hf : ∀ i < xs.length, zj prog w ⟨k, true⟩ φ fv [Bv (zCW step b0 xs i), P (xs.getD i d)] (Bv (step (zCW step b0 xs i) (xs.getD i d)))) (hT : φ T = some oT) (hTd : oT.data = .seq #[.ref im] nT) (K : FnK φ a (zA1 (st1 7) "reduce" [] (.ref T) .none .none pm cd .none)) : zj prog w ⟨k + 1, true⟩ φ (.ref a) [zT fv, zB (xs.map P), Bv b0] (Bv (xs.foldl step b0)) := by
  refine zIN (Γ₀ := [("function", zT fv), ("sequence", zB (xs.map P)), ("initial", Bv b0)]) K rfl rfl (fun ψ s vs hs l h => ?_) (by show decide ((["function", "sequence", "initial"] : List Str).Nodup) = true; decide +kernel) (by rfl) (by rfl) (by rfl) (zBP.ok ?_)
  · obtain ⟨v, u, z, rfl, p1, p2, p3⟩ := zBH h
    exact ⟨[("function", v), ("sequence", u), ("initial", z)], BindsTo.of_defaults rfl (hs _ _ (l _ _ hT)) hTd (by rfl) (by rfl), .cons ⟨rfl, p1⟩ (.cons ⟨rfl, p2⟩ (.cons ⟨rfl, p3⟩ .nil))⟩
  intro X ψ s E hsc c l hft hdp b
  refine y_iter hsc b c ⟨hiter.1.le l, hiter.2.le l⟩ (by rfl) v_v (sto hsc) fun I l' vs j ψ1 s1 l1 hω hψI hl' hall b1 => ?_
  have L1 := l.trans l1
  refine zDd b1 (r := false) (TI.of c hsc (z0 v_v (v_g (zD.le gim L1)) (zFo fun ψ' u v lv pu pv => ?_))) fun ψ2 s2 l2 b2 => ?_
  · cases pv
    obtain ⟨x, ox, rfl, hx, hc⟩ := hne _ _ pu
    have him' := lv _ _ (L1 _ _ him)
    exact ⟨x, im, ox, oim, rfl, rfl, fun q => by rw [q, him'] at hx; cases hx; rw [hc] at hcl; exact absurd (Value.type.inj hcl) (by decide), hx, him', hcl, hc⟩
  have L2 := L1.trans l2
  refine zP b2 (EI.of c hsc v_v) (sto hsc) fun v ψ3 s3 l3 p3 b3 => ?_
  refine zR ?_
  have L3 := L2.trans l3
  have hl3 : ψ3 l' = some (lst vs j) := l3 _ _ (l2 _ _ hl')
  have hall3 := hall.imp fun (P : VP) v y => P.mono (l2.trans l3) y
  refine y_forB (b3.forget (ω' := fun _ => none) (fun _ _ e => nomatch e)) c (BS.congr (nn' := xs.length) (Tg' := fun i => [("element", P (xs.getD i d))]) (bs_iter hsc c b3 rfl hl3 hall3 (by rfl) (by rfl) (by rfl)) (by rw [List.length_map]) fun i hi => ?_)
    (fun i Γ' ψ' ω' => Γ' = ([("value", Bv (zCW step b0 xs i)), ("it", zT (.ref I)), ("function", zT fv), ("sequence", zB (xs.map P)), ("initial", Bv b0)] : List (Str × VP))) (fun i hi => stoT hsc) (fun i Γ' ψ' ω₁ ω₂ h _ => h) (fun ψ' l' => rfl) ?_ ?_
  · rw [List.length_map] at hi
    unfold zA8
    rw [List.getElem?_map, List.getD_eq_getElem?_getD, List.getElem?_eq_getElem hi]; rfl
  · rintro i Γi ψi ωi si hi rfl li b4
    have Li := L3.trans li
    refine zP b4 (P := Bv (zCW step b0 xs (i + 1))) (EI.of c hsc (v_call v_v (hkp.le Li) (e2 v_v v_v) (by rw [zGq hi]; exact (hf i hi).le Li))) (sto hsc) fun v ψ5 s5 l5 p5 b5 => ?_
    refine zR ⟨_, ψ5, ωi, rfl, l5, b5.retype fun m t => pk t (pk t (pk t (pk t (pk t Typ.nil)))), fun a o h _ => h⟩
  · rintro Γ' ψ' ω' s' rfl l' b'
    have e : Bv (zCW step b0 xs xs.length) = Bv (xs.foldl step b0) := by unfold zCW; rw [List.take_length]
    rw [← e]
    exact zDL b' (EI.of c hsc v_v)
noncomputable def ddE {α : Type} (eq : α → α → Bool) (xs : List α) : List α := xs.foldl (fun acc x => if acc.any (fun y => eq y x) then acc else acc ++ [x]) []
theorem zAm {α : Type} {eq : α → α → Bool} (xs : List α) : (ddE eq xs).length ≤ xs.length := by
  have : ∀ (xs acc : List α), (xs.foldl (fun acc x => if acc.any (fun y => eq y x) then acc else acc ++ [x]) acc).length ≤ acc.length + xs.length := by
    intro xs
    induction xs with
    | nil => intro acc; exact Nat.le_refl _
    | cons x xs ih =>
      intro acc
      show (xs.foldl _ (if acc.any (fun y => eq y x) then acc else acc ++ [x])).length ≤ _
      refine Nat.le_trans (ih _) ?_
      split
      · simp only [List.length_cons]; omega
      · simp only [List.length_append, List.length_cons, List.length_nil]; omega
  exact Nat.le_trans (this xs []) (by simp)
noncomputable def ddN {α : Type} (eq : α → α → Bool) (xs : List α) (i : Nat) : List α := ddE eq (xs.take i)
theorem zGC {α : Type} {eq : α → α → Bool} {xs : List α} {i : Nat} {d : α} (h : i < xs.length) : ddN eq xs (i + 1) = if (ddN eq xs i).any (fun y => eq y (xs.getD i d)) then ddN eq xs i else ddN eq xs i ++ [xs.getD i d] := by
  unfold ddN ddE
  rw [List.take_add_one, List.getElem?_eq_getElem h, List.foldl_append, List.getD_eq_getElem?_getD, List.getElem?_eq_getElem h]
  rfl
inductive OwnL (ψ ω : PM) (a : Addr) (ps : List VP) : Prop
  | mk (vs : List Value) (j : Nat) (ha : ω a = some (lst vs j)) (hall : zO (fun (P : VP) v => P.p ψ v) ps vs)
theorem zBl {prog : Program} {w : World} {k : Nat} {n : Bool} {φ : PM} {a : Addr} {pm cd : Value} {α : Type} {Pp : VP} {P : α → VP} {eq : α → α → Bool} {xs : List α} {d : α} (hI : ∀ ψ, Itr prog w ⟨k + 1, n⟩ ψ Pp (xs.map P)) (he : ∀ x y, zDG prog w ⟨k, n⟩ φ (P x) (P y) (eq x y)) (hsz : xs.length ≤ 1000000) (K : FnK φ a (zA1 (st1 2) "_deduplicate_unhashable" [] .none .none .none pm cd .none)) : zj prog w ⟨k + 2, n⟩ φ (.ref a) [Pp] (zB ((ddE eq xs).map P)) := by
  refine zl (names := ["unhashable_params"]) K rfl rfl rfl (fun vs h => by obtain ⟨a, rfl⟩ := zB0 h; rfl) (by rfl) (by rfl) (by rfl) (by rfl) (zBP.ok ?_)
  intro X ψ s E hsc c l hft hdp b
  have hline : sizeLine = 16777216 := rfl
  refine zBj b (sto hsc) fun a1 s1 h1 h2 b1 => ?_
  refine zFT hsc b1 c v_v (zv (f := P) (d := d) (hI ψ)) (fun i Γ' ψ' ω' => Γ' = ([("new_unhashable", zT (.ref a1)), ("unhashable_params", Pp)] : List (Str × VP)) ∧ OwnL ψ' ω' a1 ((ddN eq xs i).map P)) (fun i hi => stoT hsc) ?_ ?_ ?_ ?_
  · rintro i Γ' ψ' ω₁ ω₂ ⟨rfl, vs, j, ha, hall⟩ hω
    exact ⟨rfl, vs, j, by rw [hω a1 _ (zA _ _ _)]; exact ha, hall⟩
  · intro ψ' l'
    exact ⟨rfl, [], 0, zA _ _ _, .nil⟩
  · intro i Γi ψi ωi si hi hI li b2
    refine Ex.opq fun QQ hQ => ?_
    obtain ⟨rfl, vs, j, ha, hall⟩ := hI
    have hlb := zA6 b2.noOwn
    refine zDd b2 (r := !(ddN eq xs i).any (fun y => eq y (xs.getD i d))) (TI.own c hsc (zIP (x := "new_unhashable") (o := lst vs j) (by rfl) (zAz ha b2.noOwn hall)) (z0 v_v v_v (op_notIn fun y => (he y _).le ((l.trans li).trans hlb)))) fun ψ3 s3 l3 b3 => ?_
    have step := zGC (eq := eq) (d := d) hi
    have hlen : (ddN eq xs i).length ≤ 1000000 := Nat.le_trans (zAm _) (by rw [List.length_take]; omega)
    have hall3 := hall.imp fun (P : VP) v y => P.mono l3 y
    cases hb : (ddN eq xs i).any (fun y => eq y (xs.getD i d)) with
    | true =>
      rw [hb] at step
      refine zR (zR ?_)
      refine hQ _ _ ⟨_, ψ3, ωi, ⟨rfl, vs, j, ha, ?_⟩, l3, b3.retype fun m t => pk t (pk t Typ.nil), fun a o h _ => h⟩
      rw [step]; exact hall3
    | false =>
      rw [hb] at step
      refine zHe hsc b3 ha (EI.of c hsc v_v) (by have h3 := hall.length; rw [List.length_map] at h3; omega) fun v ψ6 s6 j6 l6 p6 b6 => ?_
      refine zR (zR ?_)
      refine hQ _ _ ⟨_, ψ6, _, ⟨rfl, vs ++ [v], j6, zA _ _ _, ?_⟩, l3.trans l6, b6.retype fun m t => pk t (pk t Typ.nil), fun a' o ho hn => ?_⟩
      · rw [step]
        simp only [Bool.false_eq_true, if_false, List.map_append, List.map_cons, List.map_nil]
        exact (hall3.imp fun (P : VP) v y => P.mono l6 y).append (.cons p6 .nil)
      · have : a' ≠ a1 := fun q => by rw [q, zA] at hn; cases hn
        rw [zC this]; exact ho
  · rintro Γ' ψ' ω' s' ⟨rfl, vs, j, ha, hall⟩ l' b'
    have e : ddN eq xs xs.length = ddE eq xs := by unfold ddN; rw [List.take_length]
    rw [e] at hall
    exact zGi hsc b' c ha hall
noncomputable def rmF {α : Type} (eq : α → α → Bool) (cur : List α) (x : α) : Option (List α) := rmE (fun y => eq y x) cur
noncomputable def zHX {α : Type} (eq : α → α → Bool) (xs ys : List α) : Bool := match (ddE eq xs).foldlM (rmF eq) (ddE eq ys) with
  | some r => r.isEmpty
  | none => false
theorem zHL {α : Type} {f : α → Bool} {ys ys' : List α} (h : rmE f ys = some ys') : ys'.length ≤ ys.length := by
  unfold rmE at h
  cases q : zAd f 0 ys with
  | none => rw [q] at h; cases h
  | some p => rw [q] at h; cases h; exact List.length_eraseIdx_le _ _
inductive RmI {α : Type} (ψ ω : PM) (P : α → VP) (eq : α → α → Bool) (ds ds2 : List α) (a1 : Addr) (i : Nat) : Prop
  | mk (cur : List α) (vs : List Value) (j : Nat) (hc : (ds.take i).foldlM (rmF eq) ds2 = some cur) (hcl : cur.length ≤ 1000000) (ha : ω a1 = some (lst vs j)) (hall : zO (fun (P : VP) v => P.p ψ v) (cur.map P) vs)
theorem spec_cao {prog : Program} {w : World} {k : Nat} {φ : PM} {a ad : Addr} {pm cd pmd cdd : Value} {α : Type} {Pp Pq : VP} {P : α → VP} {eq : α → α → Bool} {xs ys : List α} {d : α} (hlist : BN φ "list" (.type "list")) (hve : BN φ "ValueError" (.type "ValueError")) (hI : ∀ ψ, Itr prog w ⟨k + 1, true⟩ ψ Pp (xs.map P)) (hJ : ∀ ψ, Itr prog w ⟨k + 1, true⟩ ψ Pq (ys.map P)) {k0 : Nat} (hk0 : k0 ≤ k) (he : ∀ k', k0 ≤ k' → ∀ x y, zDG prog w ⟨k', false⟩ φ (P x) (P y) (eq x y)) (hx : xs.length ≤ 1000000) (hy : ys.length ≤ 1000000) (gd : GN φ "_deduplicate_unhashable" (.ref ad)) (Kd : FnK φ ad (zA1 (st1 2) "_deduplicate_unhashable" [] .none .none .none pmd cdd .none)) (K : FnK φ a (zA1 (st1 3) "_compare_args_orderless" [] .none .none .none pm cd .none)) : zj prog w ⟨k + 3, true⟩ φ (.ref a) [Pp, Pq] (zN (zHX eq xs ys)) := by
  refine zl (names := ["first_args", "second_args"]) K rfl rfl rfl (fun vs h => by obtain ⟨a, b, rfl⟩ := zZ h; rfl) (by rfl) (by rfl) (by rfl) (by rfl) (zBP.ok ?_)
  intro X ψ s E hsc c l hft hdp b
  have hline : sizeLine = 16777216 := rfl
  have T := Top.of c hdp
  have hctx : z7 X.A = .none := by
    unfold z7
    rw [(b.cx c).none rfl]; rfl
  have heT : ∀ x y, zDG prog w ⟨k, true⟩ φ (P x) (P y) (eq x y) := fun x y A ψ s u v cc => he k hk0 x y A ψ s u v cc.any
  have heU : ∀ x y, zDG prog w ⟨k + 1, true⟩ φ (P y) (P x) (eq y x) := fun x y A ψ s u v cc => he (k + 1) (by omega) y x A ψ s u v cc.any
  refine zP b (EI.of c hsc (zCV (zD.le gd l) (Kd.le l) (e1 v_v) ((zBl (d := d) hI heT hx Kd).le l))) (sto hsc) fun v ψ1 s1 l1 p1 b1 => ?_
  have L1 := l.trans l1
  refine zP b1 (EI.of c hsc (zCV (zD.le gd L1) (Kd.le L1) (e1 v_v) ((zBl (d := d) hJ heT hy Kd).le L1))) (sto hsc) fun v ψ2 s2 l2 p2 b2 => ?_
  have L2 := L1.trans l2
  have hdx := zAm (eq := eq) xs
  have hdy := zAm (eq := eq) ys
  refine zGl (.inl rfl) hsc b2 c ⟨hlist.1.le L2, hlist.2.le L2⟩ (by rfl) v_v (sto hsc) (by rw [List.length_map]; omega) fun a1 vs0 j0 ψ3 s3 l3 h1 h2 hall0 b3 => ?_
  have L3 := L2.trans l3
  refine zEk (φ := φ) (Eb := fun e s => zHX eq xs ys = false ∧ ∃ x ψ' ω', e = .ref x ∧ Le φ ψ' ∧ FlT X ([("t", zT (.ref a1)), ("second_unhashable", zB ((ddE eq ys).map P)), ("first_unhashable", zB ((ddE eq xs).map P)), ("first_args", Pp), ("second_args", Pq)] : List (Str × VP)) ψ' ω' "ValueError" .none x (here X) s) hdp c hsc hve (by rfl) (by rfl) F.isExc_ValueError F.notTuple_ValueError ?_ ?_
  · refine zFT hsc b3 c v_v (zv (f := P) (d := d) (zW rfl)) (fun i Γ' ψ' ω' => Γ' = ([("t", zT (.ref a1)), ("second_unhashable", zB ((ddE eq ys).map P)), ("first_unhashable", zB ((ddE eq xs).map P)), ("first_args", Pp), ("second_args", Pq)] : List (Str × VP)) ∧ RmI ψ' ω' P eq (ddE eq xs) (ddE eq ys) a1 i) (fun i hi => stoT hsc) ?_ ?_ ?_ ?_
    · rintro i Γ' ψ' ω₁ ω₂ ⟨rfl, cur, vs, j, hc, hcl, ha, hall⟩ hω
      exact ⟨rfl, cur, vs, j, hc, hcl, by rw [hω a1 _ (zA _ _ _)]; exact ha, hall⟩
    · intro ψ' l'
      exact ⟨rfl, ddE eq ys, vs0, j0, rfl, by omega, zA _ _ _, hall0.imp fun (P : VP) v y => P.mono l' y⟩
    · intro i Γi ψi ωi si hi hI li b4
      refine Ex.opq fun QQ hQ => ?_
      obtain ⟨rfl, cur, vs, j, hc, hcl, ha, hall⟩ := hI
      have Li := L3.trans li
      have hstep : ∀ r, rmF eq cur ((ddE eq xs).getD i d) = r → ((ddE eq xs).take (i + 1)).foldlM (rmF eq) (ddE eq ys) = r := fun r hr => by
        rw [List.take_add_one, List.foldlM_append, hc, List.getElem?_eq_getElem hi]
        show (rmF eq cur (ddE eq xs)[i] >>= fun b => List.foldlM (rmF eq) b []) = r
        rw [List.getD_eq_getElem?_getD, List.getElem?_eq_getElem hi] at hr
        replace hr : rmF eq cur (ddE eq xs)[i] = r := hr
        rw [← hr]
        cases rmF eq cur (ddE eq xs)[i] <;> rfl
      have hvl : vs.length = cur.length := by have := hall.length; rw [List.length_map] at this; exact this.symm
      refine y_remove (φ := φ) (f := fun y => eq y ((ddE eq xs).getD i d)) (P := P) (ys := cur) hsc b4 c ha hall (EI.of c hsc v_v) Li (heU _) (by omega) (fun ys' us ψ5 s5 j5 hr l5 hall5 b5 => ?_) fun hr x ψ5 s5 l5 f5 => ?_
      · refine zR ?_
        refine hQ _ _ ⟨_, ψ5, _, ⟨rfl, ys', us, j5, hstep _ hr, Nat.le_trans (zHL hr) hcl, zA _ _ _, hall5⟩, l5, b5.retype fun m t => pk t (pk t (pk t (pk t (pk t Typ.nil)))), fun a' o ho hn => ?_⟩
        have : a' ≠ a1 := fun q => by rw [q, zA] at hn; cases hn
        rw [zC this]; exact ho
      · rw [hctx] at f5
        refine Fl.forE (.inl f5) c T fun s6 f6 => ⟨?_, x, ψ5, ωi, rfl, Li.trans l5, f6.retype fun m t => pk t (pk t (pk t (pk t (pk t Typ.nil))))⟩
        have h0 := hstep none hr
        have e : (ddE eq xs).foldlM (rmF eq) (ddE eq ys) = none := by
          rw [← List.take_append_drop (i + 1) (ddE eq xs), List.foldlM_append, h0]; rfl
        unfold zHX
        rw [e]
    · rintro Γ' ψ' ω' s' ⟨rfl, cur, vs, j, hc, hcl, ha, hall⟩ l' b'
      rw [List.take_length] at hc
      refine zR ?_
      have e : zHX eq xs ys = !(!(cur.map P).isEmpty) := by unfold zHX; rw [hc]; simp
      rw [e]
      show Ex prog w X _ _ _ s'
      refine zDL b' (EI.own c hsc (zIP (x := "t") (o := lst vs j) (by rfl) (zAz ha b'.noOwn hall)) (v_un v_v (op_not (tru_list (by rw [List.length_map]; omega)))) (zIZ _))
  · rintro e s6 ⟨hcf, x, ψ6, ω6, rfl, L6, f6⟩
    refine ⟨x, _, ψ6, ω6, "ValueError", .none, rfl, L6, F.self_ValueError, .inl rfl, .inr (.inr f6), fun s7 ψ7 l7 h7 => ?_⟩
    have b7 := h7.plain
    rw [hcf]
    exact zBm b7 (EI.of c.mk2 hsc zHo) fun v ψ' s' l2 p2 b2 => ⟨ψ', b2.toGrow, p2⟩
noncomputable def vKx (ds : Nat → Stmt) (PF P : VP) (a : Addr) : VP := ⟨fun ψ v => v = .ref a ∧ (vK ds PF P).p ψ v, fun l ⟨e, h⟩ => ⟨e, (vK ds PF P).mono l h⟩⟩
section
variable {prog : Program} {w : World} {k : Nat} {n : Bool} {φ : PM} {α : Type} {Q : α → VP} {cmp : α → α → Int}
theorem Op2.kx {ds : Nat → Stmt} {PF P P' R : VP} {a a' : Addr} {μ : Md} {f : Value → Value → Sem Value} (h : Op2 prog w μ φ f (vK ds PF P) (vK ds PF P') R) : Op2 prog w μ φ f (vKx ds PF P a) (vKx ds PF P' a') R :=
  fun A ψ s u v c l hu hv => h A ψ s u v c l hu.2 hv.2
theorem K1_op {op : CmpOp} {sym : String} {nm rf : Str} {i : Nat} (hlim : zD φ cStatics "sys.recursionlimit" none) (hH : ∀ z ψ v, (Q z).p ψ v → handedIn v = true) (a b : α) {x y : Addr} {r : Bool} (hsel : (op = .Lt ∧ nm = "__lt__" ∧ i = 1 ∧ r = decide (cmp a b < 0)) ∨ (op = .Gt ∧ nm = "__gt__" ∧ i = 2 ∧ r = decide (cmp a b > 0)) ∨ (op = .Eq ∧ nm = "__eq__" ∧ i = 3 ∧ r = decide (cmp a b = 0))) : Op2 prog w ⟨k + 1, n⟩ φ (compareOp op) (vKx ds1 (vFn prog w ⟨k, n⟩ Q cmp) (Q a) x) (vKx ds1 (vFn prog w ⟨k, n⟩ Q cmp) (Q b) y) (zN r) := by
  refine Op2.kx ?_
  rcases hsel with ⟨rfl, rfl, rfl, rfl⟩ | ⟨rfl, rfl, rfl, rfl⟩ | ⟨rfl, rfl, rfl, rfl⟩
  · refine op_K (by rfl) (fun _ _ => by rfl) fun {ψ c K} l hK hc {md st kvs} hb => ?_
    obtain ⟨pm, t1, t2, fl, sl, f0, f1, f2, f3, f4, f5, tks, rfl, h1, a0, a1, a2, a3, a4, a5⟩ := hb
    obtain ⟨o, fv, ho, hod, hfv⟩ := hc
    obtain ⟨pm1, cd1, ct1, hof, _⟩ := id a1
    refine ⟨f1, _, by rfl, hof, rfl, ?_⟩
    exact zCw (ds := ds1) (d := ds1 1) (cc := c) a1 ho hod (hlim.le l) hfv hH (by rfl) (by rfl) (by rfl) (by rfl) ⟨_, _, _, _, _, _, _, _, _, by rfl⟩ (fun _ _ _ _ _ => by rfl) zAk (fun _ => rfl)
  · refine op_K (by rfl) (fun _ _ => by rfl) fun {ψ c K} l hK hc {md st kvs} hb => ?_
    obtain ⟨pm, t1, t2, fl, sl, f0, f1, f2, f3, f4, f5, tks, rfl, h1, a0, a1, a2, a3, a4, a5⟩ := hb
    obtain ⟨o, fv, ho, hod, hfv⟩ := hc
    obtain ⟨pm1, cd1, ct1, hof, _⟩ := id a2
    refine ⟨f2, _, by rfl, hof, rfl, ?_⟩
    exact zCw (ds := ds1) (d := ds1 2) (cc := c) a2 ho hod (hlim.le l) hfv hH (by rfl) (by rfl) (by rfl) (by rfl) ⟨_, _, _, _, _, _, _, _, _, by rfl⟩ (fun _ _ _ _ _ => by rfl) zAW (fun _ => rfl)
  · refine op_K (by rfl) (fun _ _ => by rfl) fun {ψ c K} l hK hc {md st kvs} hb => ?_
    obtain ⟨pm, t1, t2, fl, sl, f0, f1, f2, f3, f4, f5, tks, rfl, h1, a0, a1, a2, a3, a4, a5⟩ := hb
    obtain ⟨o, fv, ho, hod, hfv⟩ := hc
    obtain ⟨pm1, cd1, ct1, hof, _⟩ := id a3
    refine ⟨f3, _, by rfl, hof, rfl, ?_⟩
    exact zCw (ds := ds1) (d := ds1 3) (cc := c) a3 ho hod (hlim.le l) hfv hH (by rfl) (by rfl) (by rfl) (by rfl) ⟨_, _, _, _, _, _, _, _, _, by rfl⟩ (fun _ _ _ _ _ => by rfl) zAn (fun _ => rfl)
theorem K1_make {c K : Addr} {oc : Obj} {fv : Value} {P PF : VP} (hK : zCb ds1 c φ K) (hc : φ c = some oc) (hoc : oc.data = .cell (some fv)) (hfv : PF.p φ fv) (hlim : zD φ cStatics "sys.recursionlimit" none) : zj prog w ⟨k + 6, n⟩ φ (.ref K) [P] (vKat K ds1 PF P) :=
  spec_K hK hc hoc hfv hlim (by rfl) (by rfl) (by rfl) (by rfl) ⟨_, _, _, _, by rfl⟩ (fun _ _ _ _ _ => by rfl)
end
section
variable {rest : List Stmt} {Q : Flow → Shared → Prop} {cls : String} {ctx : Value}
theorem EV.imp {Γ : List (Str × VP)} {e : Expr} {P P' : VP} (h : EV prog w μ sc Γ φ e P) (q : ∀ ψ v, P.p ψ v → P'.p ψ v) : EV prog w μ sc Γ φ e P' :=
  ⟨fun A env m ψ s he c l f t => zIv (h.go A env m ψ s he c l f t) (fun v s' ⟨ψ', g, p⟩ => ⟨ψ', g, q ψ' v p⟩) fun _ _ x => x⟩
theorem EV.conv {Γ : List (Str × VP)} {e : Expr} {P P' : VP} (h : EV prog w μ sc Γ φ e P) (q : P = P') : EV prog w μ sc Γ φ e P' := q ▸ h
noncomputable abbrev fdDd (kd : Addr) (pm cd : Value) : FuncData := zA1 (st1 1) "_deduplicate" [] .none (.ref kd) .none pm cd .none
theorem wp_loadN {α : Type} {M : Model} {A : Around} {Q : α → Shared → Prop} {a : Addr} {part : Option Value} {kk : Obj → Sem α} {o : Obj} (ho : s.heap.get? a = some o) (h : wpAny M A (kk o) Q E s) : wpAny M A (Sem.load a part kk) Q E s :=
  zIt (m := loadPart a part) (f := kk) (wpAny_loadPart ho h)
theorem zFF {name : Str} {o : Obj} {ds : Array DictEntry} {ep : Nat} {r : Value} (h : o.data = .dict ds ep) (hf : nsFind ds name = some r) : nsLook name o = pure (some r) := by
  rw [nsLook_eq]
  unfold nsLookByArray
  rw [h]
  obtain ⟨e, he, hr⟩ := Option.map_eq_some_iff.mp hf
  show (match ds.find? _ with | some e => pure (some e.val) | none => _) = _
  rw [he, ← hr]
theorem bind_dd {s : Shared} {kd : Addr} {pm cd v r : Value} (hd : zD φ kd "unhashable_fallback" (some r)) (hs : Sub φ s.heap) : BindsTo s (fdDd kd pm cd) ⟨[v], []⟩ [("params", v), ("unhashable_fallback", r)] := by
  intro M A E Q hq
  obtain ⟨o, ds, ep, h1, h2, h3, h4⟩ := hd
  have e : nsLook "unhashable_fallback" o = pure (some r) := zFF h2 h4
  have h : ∃ kk, bindArgs (fdDd kd pm cd) ⟨[v], []⟩ = Sem.load kd (some (.str "unhashable_fallback" 0)) kk ∧ kk o = pure ([("params", v), ("unhashable_fallback", r)] : List (Str × Value)) := by
    refine ⟨_, rfl, ?_⟩
    dsimp only [Sem.bind]
    rw [e]
    rfl
  obtain ⟨kk, h5, h6⟩ := h
  rw [h5]
  exact wp_loadN (hs _ _ h1) (by rw [h6]; exact zIu hq)
def SpecKw (prog : Program) (w : World) (μ : Md) (φ : PM) (f : Value) (kw : List (Str × Value)) (Ps : List VP) (R : VP) : Prop :=
  ∀ A ψ s vs, Cx μ A ψ s → Le φ ψ → zO (fun (P : VP) v => P.p ψ v) Ps vs → zBJ prog w A ψ s (call f vs kw) R
theorem zGu {a : Addr} {fd : FuncData} {body : List Stmt} {kw : List (Str × Value)} {Ps : List VP} {R : VP} {Γ₀ : List (Str × VP)} (K : FnK φ a fd) (hb : fd.body = .stmts body) (hcl : fd.closure = []) (hbind : ∀ ψ (s : Shared) vs, Sub ψ s.heap → Le φ ψ → zO (fun (P : VP) v => P.p ψ v) Ps vs → ∃ binds, BindsTo s fd ⟨vs, kw⟩ binds ∧ zO (fun (g : Str × VP) (b : Str × Value) => g.1 = b.1 ∧ g.2.p ψ b.2) Γ₀ binds) (hnd : decide ((Γ₀.map (·.1)).Nodup) = true) (hkind : (Γ₀.all fun y => fd.scope.names.lookup y.1 == some .local || fd.scope.names.lookup y.1 == some .cell) = true) (hfree : (fd.scope.names.all fun x => x.2 != .free) = true) (hnd' : decide (((cellsFrom 0 fd.scope.names []).map (·.1)).Nodup) = true) (h : zGM prog w k n φ fd.scope Γ₀ body R) : SpecKw prog w ⟨k + 1, n⟩ φ (.ref a) kw Ps R := by
  intro A ψ s vs c l hv
  obtain ⟨binds, hB, hG⟩ := hbind ψ s vs c.sub l hv
  refine zo (tb := []) (fun p hp => by cases hp) c (K.le l) hb hcl hB ?_ hfree hnd' fun env s' he hcd x' => ?_
  · rw [List.all_eq_true] at hkind ⊢
    intro y hy
    obtain ⟨i, hi⟩ := List.getElem?_of_mem hy
    obtain ⟨g, hg, hgb⟩ := hG.get' hi
    rw [← hgb.1]
    exact hkind g (List.mem_of_getElem? hg)
  · exact h ⟨A, A.deeper env, ψ, s, env.locals :: env.cells.map (·.2), env, none, []⟩ ψ s' _ he (CX.of c rfl) l (fun c hc => List.mem_cons_of_mem _ hc) ⟨rfl, x'.dp rfl rfl⟩ ⟨_, x', zAZ hG hnd⟩
section
variable {α : Type} {ds : Nat → Stmt} {PF R : VP} {P : α → VP}
theorem zF8 {a kd : Addr} {pm cd : Value} {xs : List α} (hdict : BN φ "dict" (.type "dict")) (hte : BN φ "TypeError" (.type "TypeError")) (hkd : zD φ kd "unhashable_fallback" (some (.bool false))) (hx : 0 < xs.length) (hP : ∀ x, ∃ R, ∀ ψ v, (P x).p ψ v → (vK ds PF R).p ψ v) (K : FnK φ a (fdDd kd pm cd)) : zG4 prog w (k + 2) φ (.ref a) [zB (xs.map P)] "TypeError" := by
  refine zIW (Γ₀ := [("params", zB (xs.map P)), ("unhashable_fallback", zN false)]) K rfl rfl (fun ψ s vs hs l h => ?_) (by show decide ((["params", "unhashable_fallback"] : List Str).Nodup) = true; decide +kernel) (by rfl) (by rfl) (by rfl) ?_
  · obtain ⟨v, rfl, p⟩ := za h
    exact ⟨_, bind_dd (hkd.le l) hs, .cons ⟨rfl, p⟩ (.cons ⟨rfl, rfl⟩ .nil)⟩
  intro X ψ s E hsc c l hft hdp hctx b hE
  obtain ⟨x0, xs', rfl⟩ : ∃ x0 xs', xs = x0 :: xs' := by cases xs with | nil => simp at hx | cons x xs => exact ⟨x, xs, rfl⟩
  obtain ⟨R, hR⟩ := hP x0
  refine zEk (φ := φ) (Eb := fun e s => ∃ x ψ' ω', e = .ref x ∧ Le φ ψ' ∧ X.s₀.heap.get? x = none ∧ FlF X ([("params", zB ((x0 :: xs').map P)), ("unhashable_fallback", zN false)] : List (Str × VP)) ψ' ω' "TypeError" .none x s) hdp c hsc hte (by rfl) (by rfl) F.isExc_TypeError F.notTuple_TypeError ?_ ?_
  · refine zEz hsc b c (v_fkR (ds := ds) (PF := PF) (P := R) (ps := xs'.map P) ⟨hdict.1.le l, hdict.2.le l⟩ (EV.imp (P := zB ((x0 :: xs').map P)) v_v fun ψ v ⟨a, vs, j, e, ho, hall⟩ => ⟨a, vs, j, e, ho, ?_⟩)) fun x ψ' s' l' f => ⟨x, ψ', _, rfl, l.trans l', Fl.new (.inl f), by rw [hctx] at f; exact f⟩
    cases hall with
    | cons h t => exact .cons (hR _ _ h) t
  · rintro e s1 ⟨x, ψ1, ω1, rfl, L1, hnew, f1⟩
    refine ⟨x, _, ψ1, ω1, "TypeError", .none, rfl, L1, F.self_TypeError, .inl rfl, .inl f1, fun s2 ψ2 l2 h2 => ?_⟩
    obtain ⟨ω', t, y, hl, hn, hny, hne, hq, he, ht, b2⟩ := h2
    refine zDd b2 (r := !false) (TI.of c.mk2 hsc (zEf (b_v v_v zAF))) fun ψ3 s3 l3 b3 => ?_
    have h3 : HS X ([("params", zB ((x0 :: xs').map P)), ("unhashable_fallback", zN false)] : List (Str × VP)) ψ3 ω1 "TypeError" .none x s3 := ⟨ω', t, y, hl, hn, hny, hne, hq, l3 _ _ he, ht, b3⟩
    exact y_raise h3 hdp c fun s4 f4 => hE x _ _ _ s4 hnew f4
theorem zFe {a kd ad : Addr} {pm cd pmd cdd : Value} {xs : List α} {eq : α → α → Bool} {d : α} (hdict : BN φ "dict" (.type "dict")) (hte : BN φ "TypeError" (.type "TypeError")) (hx : 0 < xs.length) (hsz : xs.length ≤ 1000) (hP : ∀ x, ∃ R, ∀ ψ v, (P x).p ψ v → (vK ds PF R).p ψ v) {k0 : Nat} (hk0 : k0 ≤ k) (he : ∀ k', k0 ≤ k' → ∀ x y, zDG prog w ⟨k', false⟩ φ (P x) (P y) (eq x y)) (gd : GN φ "_deduplicate_unhashable" (.ref ad)) (Kd : FnK φ ad (zA1 (st1 2) "_deduplicate_unhashable" [] .none .none .none pmd cdd .none)) (K : FnK φ a (fdDd kd pm cd)) : SpecKw prog w ⟨k + 3, true⟩ φ (.ref a) [("unhashable_fallback", .bool true)] [zB (xs.map P)] (zB ((ddE eq xs).map P)) := by
  refine zGu (Γ₀ := [("params", zB (xs.map P)), ("unhashable_fallback", zN true)]) K rfl rfl (fun ψ s vs hs l h => ?_) (by show decide ((["params", "unhashable_fallback"] : List Str).Nodup) = true; decide +kernel) (by rfl) (by rfl) (by rfl) (zBP.ok ?_)
  · obtain ⟨v, rfl, p⟩ := za h
    exact ⟨[("params", v), ("unhashable_fallback", .bool true)], BindsTo.of_eq (by rfl), .cons ⟨rfl, p⟩ (.cons ⟨rfl, rfl⟩ .nil)⟩
  intro X ψ s E hsc c l hft hdp b
  have hctx : z7 X.A = .none := by
    unfold z7
    rw [(b.cx c).none rfl]; rfl
  obtain ⟨x0, xs', rfl⟩ : ∃ x0 xs', xs = x0 :: xs' := by cases xs with | nil => simp at hx | cons x xs => exact ⟨x, xs, rfl⟩
  obtain ⟨R, hR⟩ := hP x0
  refine zEk (φ := φ) (Eb := fun e s => ∃ x ψ' ω', e = .ref x ∧ Le φ ψ' ∧ FlF X ([("params", zB ((x0 :: xs').map P)), ("unhashable_fallback", zN true)] : List (Str × VP)) ψ' ω' "TypeError" .none x s) hdp c hsc hte (by rfl) (by rfl) F.isExc_TypeError F.notTuple_TypeError ?_ ?_
  · refine zEz hsc b c (v_fkR (ds := ds) (PF := PF) (P := R) (ps := xs'.map P) ⟨hdict.1.le l, hdict.2.le l⟩ (EV.imp (P := zB ((x0 :: xs').map P)) v_v fun ψ v ⟨a, vs, j, e, ho, hall⟩ => ⟨a, vs, j, e, ho, ?_⟩)) fun x ψ' s' l' f => ⟨x, ψ', _, rfl, l.trans l', by rw [hctx] at f; exact f⟩
    cases hall with
    | cons h t => exact .cons (hR _ _ h) t
  · rintro e s1 ⟨x, ψ1, ω1, rfl, L1, f1⟩
    refine ⟨x, _, ψ1, ω1, "TypeError", .none, rfl, L1, F.self_TypeError, .inl rfl, .inl f1, fun s2 ψ2 l2 h2 => ?_⟩
    have L2 := L1.trans l2
    refine zDd (X := X.mk' x) h2.plain (r := !true) (TI.of c.mk2 hsc (zEf (b_v v_v zAF))) fun ψ3 s3 l3 b3 => ?_
    refine zR ?_
    show Ex prog w (X.mk' x) _ _ _ s3
    have L3 := L2.trans l3
    exact zBm b3 (EI.of c.mk2 hsc (zCV (zD.le gd L3) (Kd.le L3) (e1 v_v) ((zBl (d := d) (fun ψ => zFR) (fun x y => he k hk0 x y) (by omega) Kd).le L3))) fun v ψ' s' l4 p4 b4 => ⟨ψ', b4.toGrow, p4⟩
end
end
section
variable {rest : List Stmt} {Q : Flow → Shared → Prop} {cls : String} {ctx : Value}
structure zGV (φ : PM) : Prop where
  range : BN φ "range" (.type "range")
  list : BN φ "list" (.type "list")
  type : BN φ "type" (.type "type")
  len : BN φ "len" (.builtin "len")
  max : BN φ "max" (.builtin "max")
  min : BN φ "min" (.builtin "min")
  sorted : BN φ "sorted" (.builtin "sorted")
  abs : BN φ "abs" (.builtin "abs")
  zip : BN φ "zip" (.type "zip")
  sum : BN φ "sum" (.builtin "sum")
  tuple : BN φ "tuple" (.type "tuple")
  int : BN φ "int" (.type "int")
theorem zGV.le {φ ψ : PM} (T : zGV φ) (l : Le φ ψ) : zGV ψ := ⟨T.range.le l, T.list.le l, T.type.le l, T.len.le l, T.max.le l, T.min.le l, T.sorted.le l, T.abs.le l, T.zip.le l, T.sum.le l, T.tuple.le l, T.int.le l⟩
theorem zBA {a b : Int} (h0 : -1000 ≤ a) (h1 : b ≤ 1000) (h2 : -1000 ≤ b) (h3 : a ≤ 1000) : Builtin.Range.small a b 1 = true := by
  have f : ∀ x : Int, -1000 ≤ x → x ≤ 10000 → Builtin.Range.rangeFitsLong x = true := fun x h1 h2 => by unfold Builtin.Range.rangeFitsLong; simp; omega
  have hz := f (Builtin.Range.rangeSize a b 1) (by rw [rangeSize_one]; split <;> omega) (by rw [rangeSize_one]; split <;> omega)
  unfold Builtin.Range.small
  simp [f a (by omega) (by omega), f 1 (by omega) (by omega), f b (by omega) (by omega), hz]
theorem zBI {x : Str} {px : Pos} {m : Int} {nn : Nat} (hn : μ.n = true) (e : m = (nn : Nat)) (h : nn ≤ 1000) : Src prog w μ φ (.Name x px) (zC5 0 m) nn (fun i => [(x, vInt (i : Nat))]) :=
  zAp hn (by omega) (zBA (by omega) (by omega) (by omega) (by omega))
theorem zHx {f : Nat → VP} {n : Nat} : ((List.range n).filter fun _ => false).map f = [] := by rw [List.filter_eq_nil_iff.mpr (fun _ _ => by simp)]; rfl
theorem zCt {f : Nat → VP} {n : Nat} : ((List.range n).filter fun _ => true).map f = (List.range n).map f := by rw [List.filter_eq_self.mpr (fun _ _ => rfl)]
theorem zHN {α β : Type} {f : α → β} {d : α} (l : List α) : (List.range l.length).map (fun i => f (l.getD i d)) = l.map f := by
  apply List.ext_getElem?
  intro i
  rw [List.getElem?_map, List.getElem?_map]
  by_cases h : i < l.length
  · rw [List.getElem?_range h, List.getElem?_eq_getElem h, Option.map_some, Option.map_some, List.getD_eq_getElem?_getD, List.getElem?_eq_getElem h]; rfl
  · rw [List.getElem?_eq_none (by simpa using h), List.getElem?_eq_none (by omega)]; rfl
theorem zAw {α : Type} {f : α → VP} {d : α} (l : List α) : ((List.range l.length).filter fun _ => true).map (fun i => f (l.getD i d)) = l.map f := by rw [zCt]; exact zHN l
section
variable {α : Type} {P : α → VP} {ad : α → Addr}
theorem zAo {a : Addr} {pm cd : Value} {xs : List α} {d : α} (T : zGV φ) (hP : ∀ x ψ v, (P x).p ψ v → v = .ref (ad x)) (hsz : xs.length ≤ 1000) (K : FnK φ a (zA1 (st1 17) "_law_same" [] .none .none .none pm cd .none)) : zj prog w ⟨k + 2, true⟩ φ (.ref a) [zB (xs.map P), zB (xs.map P)] (zN true) := by
  refine zl (names := ["told", "due"]) K rfl rfl rfl (fun vs h => by obtain ⟨a, b, rfl⟩ := zZ h; rfl) (by rfl) (by rfl) (by rfl) (by rfl) (zBP.ok ?_)
  intro X ψ s E hsc c l hft hdp b
  have hline : sizeLine = 16777216 := rfl
  have T1 := T.le l
  have hlen : ∀ (ψ : PM) kk, zj prog w ⟨kk, true⟩ ψ (.builtin "len") [zB (xs.map P)] (vInt (xs.length : Nat)) := fun ψ kk => by
    have h := zB3 (prog := prog) (w := w) (μ := ⟨kk, true⟩) (φ := ψ) (ps := xs.map P) (by rw [List.length_map]; omega)
    rw [List.length_map] at h; exact h
  refine zDd b (r := false || (((xs.length : Int) != (xs.length : Int)) || false)) (TI.of c hsc (zGE (z0 (zFN T1.type (e1 v_v) zHB) (v_b T1.list) zAy) fun _ => zGE (z0 (zB4 T1.len (e1 v_v) (hlen _ _)) (zB4 T1.len (e1 v_v) (hlen _ _)) zAJ) fun _ => zFc)) fun ψ1 s1 l1 b1 => ?_
  have e : (false || (((xs.length : Int) != (xs.length : Int)) || false)) = false := by simp
  rw [e]
  refine zR ?_
  show Ex prog w X _ _ _ s1
  have T2 := T1.le l1
  refine zDL b1 (EI.of c hsc (zF7 ((zAM (nn := xs.length) (keep := fun _ => false) (R := fun _ => zCT) (k := k) (zFN T2.range (e1 (zB4 T2.len (e1 v_v) (hlen _ _))) zi) (zBI rfl rfl hsz) (by rfl) (fun i hi => zEZ)
    (fun i hi => zIo (z0 (zG v_v v_v (zAh (f := P) (d := d) hi (by omega))) (zG v_v v_v (zAh (f := P) (d := d) hi (by omega))) (zFO (x := ad (xs.getD i d)) (hP _) (hP _)))) (fun i hi h => by cases h) (by omega)).conv (congrArg zB zHx)) (zEm e0 (by decide)) (zHh (by show 1 ≤ k + 1; omega))))
end
theorem zFU {α : Type} {P : α → VP} {ds : Nat → Stmt} {PF : VP} {a ad kd : Addr} {pm cd pmd cdd : Value} {xs : List α} (hdict : BN φ "dict" (.type "dict")) (hte : BN φ "TypeError" (.type "TypeError")) (hkd : zD φ kd "unhashable_fallback" (some (.bool false))) (hx : 0 < xs.length) (hP : ∀ x, ∃ R, ∀ ψ v, (P x).p ψ v → (vK ds PF R).p ψ v) (gd : GN φ "_deduplicate" (.ref ad)) (Kd : FnK φ ad (fdDd kd pmd cdd)) (K : FnK φ a (zA1 (st1 19) "_law_refused" [] .none .none .none pm cd .none)) : zj prog w ⟨k + 3, true⟩ φ (.ref a) [zB (xs.map P)] (zN true) := by
  refine zl (names := ["keys"]) K rfl rfl rfl (fun vs h => by obtain ⟨a, rfl⟩ := zB0 h; rfl) (by rfl) (by rfl) (by rfl) (by rfl) (zBP.ok ?_)
  intro X ψ s E hsc c l hft hdp b
  refine zEk (φ := φ) (Eb := fun e s => ∃ x ψ' ω', e = .ref x ∧ Le φ ψ' ∧ FlO X ([("keys", zB (xs.map P))] : List (Str × VP)) ψ' ω' "TypeError" .none x s) hdp c hsc hte (by rfl) (by rfl) F.isExc_TypeError F.notTuple_TypeError ?_ ?_
  · exact y_exprR hsc b c (v_g (zD.le gd l)) (Kd.le l).keepOk (e1 v_v) ((zF8 (k := k) hdict hte hkd hx hP Kd).le l) (fun x ψ' s' l' f => ⟨x, ψ', _, rfl, l.trans l', f⟩) (by unfold interactive; rw [hsc]; rfl)
  · rintro e s1 ⟨x, ψ1, ω1, rfl, L1, f1⟩
    refine ⟨x, _, ψ1, ω1, "TypeError", .none, rfl, L1, F.self_TypeError, .inl rfl, .inr (.inl f1), fun s2 ψ2 l2 h2 => ?_⟩
    exact zBm h2.plain (EI.of c.mk2 hsc zHo) fun v ψ' s' l4 p4 b4 => ⟨ψ', b4.toGrow, p4⟩
theorem zC3 {α : Type} {P : α → VP} {adr : α → Addr} {ds : Nat → Stmt} {PF : VP} {a ad as ar au kd : Addr} {pm cd pmd cdd pms cds pmr cdr pmu cdu : Value} {xs ys : List α} {eq : α → α → Bool} {d : α} (T : zGV φ) (hdict : BN φ "dict" (.type "dict")) (hte : BN φ "TypeError" (.type "TypeError")) (hkd : zD φ kd "unhashable_fallback" (some (.bool false))) (hx : 0 < xs.length) (hsz : xs.length ≤ 1000) (hP : ∀ x, ∃ R, ∀ ψ v, (P x).p ψ v → (vK ds PF R).p ψ v) (hA : ∀ x ψ v, (P x).p ψ v → v = .ref (adr x)) {k0 : Nat} (hk0 : k0 ≤ k) (he : ∀ k', k0 ≤ k' → ∀ x y, zDG prog w ⟨k', false⟩ φ (P x) (P y) (eq x y)) (hdd : ddE eq xs = ys) (gd : GN φ "_deduplicate" (.ref ad)) (Kd : FnK φ ad (fdDd kd pmd cdd)) (gs : GN φ "_law_same" (.ref as)) (Ks : FnK φ as (zA1 (st1 17) "_law_same" [] .none .none .none pms cds .none)) (gr : GN φ "_law_refused" (.ref ar)) (Kr : FnK φ ar (zA1 (st1 19) "_law_refused" [] .none .none .none pmr cdr .none)) (gu : GN φ "_deduplicate_unhashable" (.ref au)) (Ku : FnK φ au (zA1 (st1 2) "_deduplicate_unhashable" [] .none .none .none pmu cdu .none)) (K : FnK φ a (zA1 (st1 20) "_law_weeded" [] .none .none .none pm cd .none)) : zj prog w ⟨k + 5, true⟩ φ (.ref a) [zB (xs.map P), zB (ys.map P)] (zN true) := by
  refine zl (names := ["keys", "due"]) K rfl rfl rfl (fun vs h => by obtain ⟨a, b, rfl⟩ := zZ h; rfl) (by rfl) (by rfl) (by rfl) (by rfl) (zBP.ok ?_)
  intro X ψ s E hsc c l hft hdp b
  have hline : sizeLine = 16777216 := rfl
  have heT : ∀ k', k0 ≤ k' → ∀ x y, zDG prog w ⟨k', true⟩ φ (P x) (P y) (eq x y) := fun k' hk x y A ψ s u v cc => he k' hk x y A ψ s u v cc.any
  have hys : ys.length ≤ 1000 := by rw [← hdd]; exact Nat.le_trans (zAm _) hsz
  subst hdd
  refine zP b (EI.of c hsc (zFN (T.le l).list (e1 v_v) (zIF (.inl rfl) (by rw [List.length_map]; omega)))) (sto hsc) fun v1 ψ1 s1 l1 p1 b1 => ?_
  have L1 := l.trans l1
  refine zDd b1 (r := (!true) || ((!true) || false)) (TI.of c hsc (zGE (zEf (b_v (zCV (zD.le gs L1) (Ks.le L1) (e2 (zCV (zD.le gu L1) (Ku.le L1) (e1 v_v) ((zBl (k := k + 2) (d := d) (fun ψ => zFR) (fun x y => heT (k + 2) (by omega) x y) (by omega) Ku).le L1)) v_v) ((zAo (k := k + 2) (d := d) T hA hys Ks).le L1)) zAF)) fun _ => zGE (zEf (b_v (zCV (zD.le gr L1) (Kr.le L1) (e1 v_v) ((zFU (k := k + 1) hdict hte hkd hx hP gd Kd Kr).le L1)) zAF)) fun _ => zFc)) fun ψ2 s2 l2 b2 => ?_
  refine zR ?_
  show Ex prog w X _ _ _ s2
  have L2 := L1.trans l2
  refine zDd b2 (r := !true) (TI.of c hsc (zEf (b_v (zCV (zD.le gs L2) (Ks.le L2) (e2 (v_callKw (zD.le gd L2) (Kd.le L2) v_v fun A ψ' s v cc l' p => (zFe (k := k + 1) (eq := eq) (d := d) hdict hte hx hsz hP (k0 := k0) (by omega) he gu Ku Kd) A ψ' s [v] cc (L2.trans l') (.cons p .nil)) v_v) ((zAo (k := k + 2) (d := d) T hA hys Ks).le L2)) zAF))) fun ψ3 s3 l3 b3 => ?_
  refine zR ?_
  show Ex prog w X _ _ _ s3
  have L3 := L2.trans l3
  exact zDL b3 (EI.of c hsc (zCV (zD.le gs L3) (Ks.le L3) (e2 v_v v_v) ((zAo (k := k + 2) (d := d) T hA hsz Ks).le L3)))
end
section
variable {rest : List Stmt} {Q : Flow → Shared → Prop} {cls : String} {ctx : Value}
theorem zGe {β : Type} {f : Nat → β} {n i : Nat} {d : β} (h : i < n) : ((List.range n).map f).getD i d = f i := by
  rw [List.getD_eq_getElem?_getD, List.getElem?_map, List.getElem?_range h]; rfl
noncomputable def farB (row : List Int) (r : Int) (i j : Nat) : Bool := decide (r < row.getD i 0 - row.getD j 0)
noncomputable def zFw (row : List Int) (r : Int) (i j : Nat) : Bool := decide (row.getD i 0 - row.getD j 0 ≤ r)
theorem zIJ {a : Addr} {pm cd : Value} {row : List Int} {r : Int} {sz : Nat → Int} {lf : List Nat} (T : zGV φ) (hn : row.length ≤ 1000) (h0 : 0 < row.length) (hstep : ∀ i < row.length, 1 + maxL (0 :: ((List.range i).filter (farB row r i)).map sz) = sz i) (hmax : maxL ((List.range row.length).map sz) = (lf.length : Nat)) (hlf : ∀ t < lf.length, lf.getD t 0 < row.length ∧ sz (lf.getD t 0) = (t : Int) + 1 ∧ ∀ i < lf.getD t 0, sz i ≠ (t : Int) + 1) (hll : lf.length ≤ 900) (K : FnK φ a (zA1 (st1 14) "_law_left" [] .none .none .none pm cd .none)) : zj prog w ⟨k + 2, true⟩ φ (.ref a) [zB (row.map vInt), vInt r] (zB (lf.map fun (i : Nat) => vInt (i : Nat))) := by
  refine zl (names := ["row", "reach"]) K rfl rfl rfl (fun vs h => by obtain ⟨a, b, rfl⟩ := zZ h; rfl) (by rfl) (by rfl) (by rfl) (by rfl) (zBP.ok ?_)
  intro X ψ s E hsc c l hft hdp b
  have hline : sizeLine = 16777216 := rfl
  have T1 := T.le l
  have hlen : ∀ (ψ : PM) kk, zj prog w ⟨kk, true⟩ ψ (.builtin "len") [zB (row.map vInt)] (vInt (row.length : Nat)) := fun ψ kk => by
    have h := zB3 (prog := prog) (w := w) (μ := ⟨kk, true⟩) (φ := ψ) (ps := row.map vInt) (by rw [List.length_map]; omega)
    rw [List.length_map] at h; exact h
  refine zBj b (stoC hsc hft) fun az s1 hz1 hz2 b1 => ?_
  refine zFT hsc b1 c (zFN T1.range (e1 (zB4 T1.len (e1 v_v) (hlen _ _))) zi) (zBI rfl rfl hn) (fun i Γ' ψ' ω' => Γ' = ([("sizes", zT (.ref az)), ("row", zB (row.map vInt)), ("reach", vInt r)] : List (Str × VP)) ∧ OwnL ψ' ω' az (((List.range i).map sz).map vInt)) (fun i hi => stoCT hsc hft) ?_ ?_ ?_ ?_
  · rintro i Γ' ψ' ω₁ ω₂ ⟨rfl, vs, j, ha, hall⟩ hω
    exact ⟨rfl, vs, j, by rw [hω az _ (zA _ _ _)]; exact ha, hall⟩
  · intro ψ' l'
    exact ⟨rfl, [], 0, zA _ _ _, .nil⟩
  · intro i Γi ψi ωi si hi hI li b2
    refine Ex.opq fun QQ hQ => ?_
    obtain ⟨rfl, vs, j, ha, hall⟩ := hI
    have hb := zA6 b2.noOwn
    have T2 := T1.le (li.trans hb)
    have hvl : vs.length = i := by have := hall.length; simp at this; omega
    have hgr : ∀ j', j' < row.length → ∀ (ψ' : PM) kk, Op2 prog w ⟨kk, true⟩ ψ' getItem (zB (row.map vInt)) (vInt (j' : Nat)) (vInt (row.getD j' 0)) := fun j' hj ψ' kk => zCc hj (by omega)
    have hgs : ∀ j', j' < i → ∀ (ψ' : PM) kk, Op2 prog w ⟨kk, true⟩ ψ' getItem (zB (((List.range i).map sz).map vInt)) (vInt (j' : Nat)) (vInt (sz j')) := fun j' hj ψ' kk => by
      have h := zCc (prog := prog) (w := w) (μ := ⟨kk, true⟩) (φ := ψ') (ns := (List.range i).map sz) (i := j') (by simpa using hj) (by simp; omega)
      rw [zGe hj] at h; exact h
    have ecomp : ((List.range i).filter (farB row r i)).map (fun j' => vInt (sz j')) = (((List.range i).filter (farB row r i)).map sz).map vInt := by rw [List.map_map]; rfl
    have hfl : (((List.range i).filter (farB row r i)).map sz).length ≤ i := by
      rw [List.length_map]; exact Nat.le_trans (List.length_filter_le _ _) (by rw [List.length_range]; exact Nat.le_refl _)
    refine zHe hsc b2 ha (P := vInt (sz i)) (EI.own (Γ' := [("sizes", zB (((List.range i).map sz).map vInt)), ("i", vInt (i : Nat)), ("row", zB (row.map vInt)), ("reach", vInt r)]) c hsc (fun m t => ?_) (EV.conv (zAI zH (zB4 T2.max (e1 (zAI (zEm (Ps := [vInt 0]) (e1 zH) (by decide))
      ((zAM (nn := i) (keep := farB row r i) (R := fun j' => vInt (sz j')) (k := k) (zFN T2.range (e1 v_v) zi) (zBI rfl rfl (by omega)) (by rfl) (fun i hi => zEZ) (fun j' hj => zIo (z0 (zAI (zG v_v v_v (hgr i hi _ _)) (zG v_v v_v (hgr j' (by omega) _ _)) z8) v_v zAW)) (fun j' hj _ => zG v_v v_v (hgs j' hj _ _)) (by omega)).conv (congrArg zB ecomp)) (zC8 (ps := [vInt 0]) (by show 1 + (List.map vInt _).length ≤ _; rw [List.length_map]; omega)))) (zD8 (ns := 0 :: ((List.range i).filter (farB row r i)).map sz) rfl (by simp))) zAR) (by rw [hstep i hi])) (zCY _)) (by omega) fun v ψ3 s3 j3 l3 p3 b3 => ?_
    · have := zAz ha b2.noOwn hall
      exact pk (Typ.view (x := "sizes") t (by rfl) this) (pk t (pk t (pk t Typ.nil)))
    · refine zR (hQ _ _ ⟨_, ψ3, _, ⟨rfl, vs ++ [v], j3, zA _ _ _, ?_⟩, l3, b3.retype fun m t => pk t (pk t (pk t Typ.nil)), fun a' o ho hn => ?_⟩)
      · rw [List.range_succ, List.map_append, List.map_append]
        exact (hall.imp fun (P : VP) v y => P.mono l3 y).append (.cons p3 .nil)
      · have : a' ≠ az := fun q => by rw [q, zA] at hn; cases hn
        rw [zC this]; exact ho
  · rintro Γ' ψ' ω' s' ⟨rfl, vs, j, ha, hall⟩ l' b'
    have b2 := b'.freeze ha
    have lp : Le ψ' (put ψ' az (lst vs j)) := zL (b'.ownNone ha)
    have T2 := T1.le (l'.trans lp)
    have b3 := b2.view (x := "sizes") (P := zB (((List.range row.length).map sz).map vInt)) (by rfl) ⟨az, vs, j, rfl, zA _ _ _, hall.imp fun (P : VP) v y => P.mono lp y⟩
    refine zDL b3 (EI.of c hsc ((zAM (nn := lf.length) (keep := fun _ => true) (R := fun t => vInt ((lf.getD t 0 : Nat) : Int)) (k := k) (zFN T2.range (e2 zH (EV.conv (zAI (zB4 T2.max (e1 v_v) (zD8 (ns := (List.range row.length).map sz) rfl (by simpa using h0))) zH zAR) (by rw [hmax]))) zFL) (zFI rfl (by omega) (zBA (by omega) (by omega) (by omega) (by omega))) (by rfl) (fun i hi => zEZ) (fun i hi => zBy)
      (fun t ht _ => ?_) (by omega)).conv (congrArg zB (zAw (f := fun (i : Nat) => vInt (i : Nat)) (d := 0) lf))))
    obtain ⟨h1, h2, h3⟩ := hlf t ht
    refine v_index (ns := (List.range row.length).map sz) v_v v_v (by rw [List.getElem?_map, List.getElem?_range h1, Option.map_some, h2]; congr 1; omega) (fun i hi => ?_) (by simp; omega)
    rw [List.getElem?_map, List.getElem?_range (by omega), Option.map_some]
    intro q
    exact h3 i hi (by have := Option.some.inj q; omega)
end
section
variable {rest : List Stmt} {Q : Flow → Shared → Prop} {cls : String} {ctx : Value}
theorem zDI {a : Addr} {pm cd : Value} {row : List Int} {r : Int} {cc : Nat → Int} (T : zGV φ) (hn : row.length ≤ 900) (hr : 0 ≤ r) (hc0 : cc 0 = 0) (hstep : ∀ i < row.length, 1 + minL (((List.range (i + 1)).filter (zFw row r i)).map cc) = cc (i + 1)) (K : FnK φ a (zA1 (st1 15) "_law_stretches" [] .none .none .none pm cd .none)) : zj prog w ⟨k + 2, true⟩ φ (.ref a) [zB (row.map vInt), vInt r] (vInt (cc row.length)) := by
  refine zl (names := ["row", "reach"]) K rfl rfl rfl (fun vs h => by obtain ⟨a, b, rfl⟩ := zZ h; rfl) (by rfl) (by rfl) (by rfl) (by rfl) (zBP.ok ?_)
  intro X ψ s E hsc c l hft hdp b
  have hline : sizeLine = 16777216 := rfl
  have T1 := T.le l
  have hlen : ∀ (ψ : PM) kk, zj prog w ⟨kk, true⟩ ψ (.builtin "len") [zB (row.map vInt)] (vInt (row.length : Nat)) := fun ψ kk => by
    have h := zB3 (prog := prog) (w := w) (μ := ⟨kk, true⟩) (φ := ψ) (ps := row.map vInt) (by rw [List.length_map]; omega)
    rw [List.length_map] at h; exact h
  refine y_listS (Ps := [vInt 0]) hsc b c (e1 zH) (by decide) (stoC hsc hft) fun az vs0 ψ1 s1 hz1 hz2 l1 p1 b1 => ?_
  have T1 := T1.le l1
  refine zFT hsc b1 c (zFN T1.range (e1 (zB4 T1.len (e1 v_v) (hlen _ _))) zi) (zBI rfl rfl (by omega)) (fun i Γ' ψ' ω' => Γ' = ([("fewest", zT (.ref az)), ("row", zB (row.map vInt)), ("reach", vInt r)] : List (Str × VP)) ∧ OwnL ψ' ω' az (((List.range (i + 1)).map cc).map vInt)) (fun i hi => stoCT hsc hft) ?_ ?_ ?_ ?_
  · rintro i Γ' ψ' ω₁ ω₂ ⟨rfl, vs, j, ha, hall⟩ hω
    exact ⟨rfl, vs, j, by rw [hω az _ (zA _ _ _)]; exact ha, hall⟩
  · intro ψ' l'
    refine ⟨rfl, vs0, 0, zA _ _ _, ?_⟩
    have e : ((List.range (0 + 1)).map cc).map vInt = [vInt 0] := by show [vInt (cc 0)] = _; rw [hc0]
    rw [e]
    exact p1.imp fun (P : VP) v y => P.mono l' y
  · intro i Γi ψi ωi si hi hI li b2
    refine Ex.opq fun QQ hQ => ?_
    obtain ⟨rfl, vs, j, ha, hall⟩ := hI
    have hb := zA6 b2.noOwn
    have T2 := T1.le (li.trans hb)
    have hvl : vs.length = i + 1 := by have := hall.length; simp at this; omega
    have hgr : ∀ j', j' < row.length → ∀ (ψ' : PM) kk, Op2 prog w ⟨kk, true⟩ ψ' getItem (zB (row.map vInt)) (vInt (j' : Nat)) (vInt (row.getD j' 0)) := fun j' hj ψ' kk => zCc hj (by omega)
    have hgs : ∀ j', j' < i + 1 → ∀ (ψ' : PM) kk, Op2 prog w ⟨kk, true⟩ ψ' getItem (zB (((List.range (i + 1)).map cc).map vInt)) (vInt (j' : Nat)) (vInt (cc j')) := fun j' hj ψ' kk => by
      have h := zCc (prog := prog) (w := w) (μ := ⟨kk, true⟩) (φ := ψ') (ns := (List.range (i + 1)).map cc) (i := j') (by simpa using hj) (by simp; omega)
      rw [zGe hj] at h; exact h
    have ecomp : ((List.range (i + 1)).filter (zFw row r i)).map (fun j' => vInt (cc j')) = (((List.range (i + 1)).filter (zFw row r i)).map cc).map vInt := by rw [List.map_map]; rfl
    have hne : 0 < (((List.range (i + 1)).filter (zFw row r i)).map cc).length := by
      rw [List.length_map]
      exact List.length_pos_of_mem (a := i) (List.mem_filter.mpr ⟨List.mem_range.mpr (Nat.lt_succ_self i), by unfold zFw; simp; omega⟩)
    refine zHe hsc b2 ha (P := vInt (cc (i + 1))) (EI.own (Γ' := [("fewest", zB (((List.range (i + 1)).map cc).map vInt)), ("i", vInt (i : Nat)), ("row", zB (row.map vInt)), ("reach", vInt r)]) c hsc (fun m t => ?_) (EV.conv (zAI zH (zB4 T2.min (e1
      ((zAM (nn := i + 1) (keep := zFw row r i) (R := fun j' => vInt (cc j')) (k := k) (zFN T2.range (e1 (zAI v_v zH zAR)) zi) (zBI rfl (by omega) (by omega)) (by rfl) (fun i hi => zEZ) (fun j' hj => zIo (z0 (zAI (zG v_v v_v (hgr i hi _ _)) (zG v_v v_v (hgr j' (by omega) _ _)) z8) v_v zCu)) (fun j' hj _ => zG v_v v_v (hgs j' hj _ _)) (by omega)).conv (congrArg zB ecomp))) (call_min (ns := ((List.range (i + 1)).filter (zFw row r i)).map cc) rfl hne)) zAR) (by rw [hstep i hi])) (zCY _)) (by omega) fun v ψ3 s3 j3 l3 p3 b3 => ?_
    · have := zAz ha b2.noOwn hall
      exact pk (Typ.view (x := "fewest") t (by rfl) this) (pk t (pk t (pk t Typ.nil)))
    · refine zR (hQ _ _ ⟨_, ψ3, _, ⟨rfl, vs ++ [v], j3, zA _ _ _, ?_⟩, l3, b3.retype fun m t => pk t (pk t (pk t Typ.nil)), fun a' o ho hn => ?_⟩)
      · rw [List.range_succ, List.map_append, List.map_append]
        exact (hall.imp fun (P : VP) v y => P.mono l3 y).append (.cons p3 .nil)
      · have : a' ≠ az := fun q => by rw [q, zA] at hn; cases hn
        rw [zC this]; exact ho
  · rintro Γ' ψ' ω' s' ⟨rfl, vs, j, ha, hall⟩ l' b'
    refine zDL b' (EI.own c hsc (zIP (x := "fewest") (o := lst vs j) (by rfl) (zAz ha b'.noOwn hall)) (zG v_v (v_un zH zAO) (zCO (by decide) (by simp; omega) (by decide) ?_)) (zCY _))
    rw [List.getElem?_map, List.getElem?_map]
    have e : (-1 + ((((List.range (row.length + 1)).map cc).map vInt).length : Int)).toNat = row.length := by simp; omega
    rw [e, List.getElem?_range (by omega)]; rfl
end
section
variable {rest : List Stmt} {Q : Flow → Shared → Prop} {cls : String} {ctx : Value}
noncomputable def zAK : List Int → List Int → Int
  | a :: as, b :: bs => if a = b then zAK as bs else if a < b then -1 else 1
  | as, bs => b2i (decide (bs.length < as.length)) - b2i (decide (as.length < bs.length))
theorem zFt {xs ys : List Int} {i : Nat} (h1 : i < xs.length) (h2 : i < ys.length) : zAK (xs.drop i) (ys.drop i) = if xs.getD i 0 = ys.getD i 0 then zAK (xs.drop (i + 1)) (ys.drop (i + 1)) else if xs.getD i 0 < ys.getD i 0 then -1 else 1 := by
  rw [List.drop_eq_getElem_cons h1, List.drop_eq_getElem_cons h2, List.getD_eq_getElem?_getD, List.getD_eq_getElem?_getD, List.getElem?_eq_getElem h1, List.getElem?_eq_getElem h2]
  rfl
theorem zIj {a : Addr} {pm cd : Value} {xs ys : List Int} (T : zGV φ) (hx : xs.length ≤ 900) (hy : ys.length ≤ 900) (K : FnK φ a (zA1 (st1 18) "_law_sign" [] .none .none .none pm cd .none)) : zj prog w ⟨k + 2, true⟩ φ (.ref a) [zB (xs.map vInt), zB (ys.map vInt)] (vInt (zAK xs ys)) := by
  refine zl (names := ["one", "other"]) K rfl rfl rfl (fun vs h => by obtain ⟨a, b, rfl⟩ := zZ h; rfl) (by rfl) (by rfl) (by rfl) (by rfl) (zBP.ok ?_)
  intro X ψ s E hsc c l hft hdp b
  have T1 := T.le l
  have hlen : ∀ (zs : List Int) (ψ : PM) kk, zs.length ≤ 900 → zj prog w ⟨kk, true⟩ ψ (.builtin "len") [zB (zs.map vInt)] (vInt (zs.length : Nat)) := fun zs ψ kk hz => by
    have h := zB3 (prog := prog) (w := w) (μ := ⟨kk, true⟩) (φ := ψ) (ps := zs.map vInt) (by rw [List.length_map]; omega)
    rw [List.length_map] at h; exact h
  refine y_forB b c (BS.congr (nn' := min xs.length ys.length) (Tg' := fun i => [("b", vInt (ys.getD i 0)), ("a", vInt (xs.getD i 0))]) (BS.of c hsc (zH4 (nn := min xs.length ys.length) rfl T1.zip (ps := xs.map vInt) (qs := ys.map vInt) v_v v_v (by rw [List.length_map, List.length_map])) b) rfl fun i hi => ?_)
    (fun i Γ' ψ' ω' => Γ' = ([("one", zB (xs.map vInt)), ("other", zB (ys.map vInt))] : List (Str × VP)) ∧ zAK xs ys = zAK (xs.drop i) (ys.drop i)) (fun i hi p hp => ?_) (fun i Γ' ψ' ω₁ ω₂ h _ => h) (fun ψ' l' => ⟨rfl, rfl⟩) ?_ ?_
  · show [(Str.ofString "b", (ys.map vInt).getD i zCT), (Str.ofString "a", (xs.map vInt).getD i zCT)] = _
    rw [List.getD_eq_getElem?_getD, List.getD_eq_getElem?_getD, List.getElem?_map, List.getElem?_map, List.getElem?_eq_getElem (by omega), List.getElem?_eq_getElem (by omega), List.getD_eq_getElem?_getD, List.getD_eq_getElem?_getD, List.getElem?_eq_getElem (by omega), List.getElem?_eq_getElem (by omega)]
    rfl
  · rcases List.mem_cons.mp hp with rfl | hp
    · exact sto hsc
    · rw [List.mem_singleton.mp hp]; exact sto hsc
  · rintro i Γi ψi ωi si hi ⟨rfl, hs⟩ li b2
    rw [zFt (by omega) (by omega)] at hs
    refine zDd b2 (r := xs.getD i 0 != ys.getD i 0) (TI.of c hsc (z0 v_v v_v zAJ)) fun ψ3 s3 l3 b3 => ?_
    by_cases q : xs.getD i 0 = ys.getD i 0
    · have e : (xs.getD i 0 != ys.getD i 0) = false := by rw [q]; simp
      rw [e]
      rw [if_pos q] at hs
      exact zR (zR ⟨_, ψ3, ωi, ⟨rfl, hs⟩, l3, b3.retype fun m t => pk t (pk t Typ.nil), fun a o h _ => h⟩)
    · have e : (xs.getD i 0 != ys.getD i 0) = true := by simpa using q
      rw [e]
      rw [if_neg q] at hs
      have e2 : (if xs.getD i 0 < ys.getD i 0 then (-1 : Int) else 1) = zAK xs ys := hs.symm
      refine zBm (P := vInt (zAK xs ys)) b3 (EI.of c hsc (v_if (c := decide (xs.getD i 0 < ys.getD i 0)) (z0 v_v v_v zAk) (fun h => EV.conv (v_un zH zAO) ?_) fun h => EV.conv zH ?_)) fun v ψ' s' l4 p4 b4 => ⟨ψ', b4.toGrow, p4⟩
      · rw [← e2, if_pos (of_decide_eq_true h)]
      · rw [← e2, if_neg (of_decide_eq_false h)]
  · rintro Γ' ψ' ω' s' ⟨rfl, hs⟩ l' b'
    have T2 := T1.le l'
    have hs' : zAK xs ys = b2i (decide ((ys.length : Int) < xs.length)) - b2i (decide ((xs.length : Int) < ys.length)) := by
      rw [hs]
      have hc : ∀ as bs : List Int, (as = [] ∨ bs = []) → zAK as bs = b2i (decide (bs.length < as.length)) - b2i (decide (as.length < bs.length)) := fun as bs h => by
        cases as with
        | nil => cases bs <;> rfl
        | cons a as => cases bs with
          | nil => rfl
          | cons b bs => rcases h with h | h <;> cases h
      by_cases hle : xs.length ≤ ys.length
      · rw [Nat.min_eq_left hle, hc _ _ (.inl (List.drop_eq_nil_of_le (Nat.le_refl _))), List.length_drop, List.length_drop]
        congr 2 <;> (apply decide_eq_decide.mpr; omega)
      · rw [Nat.min_eq_right (by omega), hc _ _ (.inr (List.drop_eq_nil_of_le (Nat.le_refl _))), List.length_drop, List.length_drop]
        congr 2 <;> (apply decide_eq_decide.mpr; omega)
    rw [hs']
    exact zDL b' (EI.of c hsc (zAI (zF7 (zB4 T2.len (e1 v_v) (hlen _ _ _ hx)) (zB4 T2.len (e1 v_v) (hlen _ _ _ hy)) zAW) (zF7 (zB4 T2.len (e1 v_v) (hlen _ _ _ hx)) (zB4 T2.len (e1 v_v) (hlen _ _ _ hy)) zAk) zCr))
theorem zDD {n : Bool} {a : Addr} {pm cd : Value} {P Q : VP} {g l : Bool} (K : FnK φ a (zA1 (st1 10) "three_way_cmp" [] .none .none .none pm cd .none)) (hg : Op2 prog w ⟨k, n⟩ φ (compareOp .Gt) P Q (zN g)) (hl : Op2 prog w ⟨k, n⟩ φ (compareOp .Lt) P Q (zN l)) : zj prog w ⟨k + 1, n⟩ φ (.ref a) [P, Q] (vInt (b2i g - b2i l)) := by
  refine zl (names := ["x", "y"]) K rfl rfl rfl (fun vs h => by obtain ⟨a, b, rfl⟩ := zZ h; rfl) (by rfl) (by rfl) (by rfl) (by rfl) (zBP.ok ?_)
  intro X ψ s E hsc c l' hft hdp b
  exact zDL b (EI.of c hsc (zAI (zF7 v_v v_v (hg.le l')) (zF7 v_v v_v (hl.le l')) zCr))
end
section
variable {rest : List Stmt} {Q : Flow → Shared → Prop} {cls : String} {ctx : Value}
noncomputable def in0 (x : Int) : Bool := (x.fdiv 40).fmod 3 != 1
noncomputable def in1 (x : Int) : Bool := (x.fdiv 40).fmod 3 != 0
noncomputable def zA0 (ini : List Int) (p : Int → Bool) (xs : List Int) (i : Nat) : List Int := ini ++ ((xs.take i).filter p).map fun x => x.fmod 40
theorem zDq {ini : List Int} {p : Int → Bool} {xs : List Int} {i : Nat} (h : i < xs.length) : zA0 ini p xs (i + 1) = zA0 ini p xs i ++ if p (xs.getD i 0) then [(xs.getD i 0).fmod 40] else [] := by
  unfold zA0
  rw [List.take_add_one, List.getElem?_eq_getElem h, List.getD_eq_getElem?_getD, List.getElem?_eq_getElem h, List.filter_append, List.map_append, List.append_assoc]
  congr 2
  show List.map _ (List.filter p [xs[i]]) = if p xs[i] = true then _ else _
  by_cases q : p xs[i] = true
  · rw [if_pos q, List.filter_cons_of_pos q]; rfl
  · rw [if_neg q, List.filter_cons_of_neg q]; rfl
theorem zAG {ini : List Int} {p : Int → Bool} {xs : List Int} {i : Nat} : (zA0 ini p xs i).length ≤ ini.length + i := by
  unfold zA0
  rw [List.length_append, List.length_map]
  have h1 := List.length_filter_le p (xs.take i)
  rw [List.length_take] at h1
  omega
noncomputable def row0 (ns : List Int) : List Int := sortI (zA0 [3, 20] in0 (ns.take 7) (ns.take 7).length)
noncomputable def row1 (ns : List Int) : List Int := sortI (zA0 [5, 30] in1 (ns.take 7) (ns.take 7).length)
theorem zER {t o e : Expr} {r : Bool} {ap cpos pos ipos : Pos} {P : VP} {ps : List VP} {a : Addr} {vs : List Value} {j : Nat} (hsc : X.env.scope = sc) (b : B X Γ ψ ω s) (ht : TI prog w X Γ ψ ω t r) (ha : ω a = some (lst vs j)) (hall : zO (fun (P : VP) v => P.p ψ v) ps vs) (ho : ∀ ψ' s', Le ψ ψ' → B X Γ ψ' ω s' → EI prog w X Γ ψ' ω o (zT (.ref a))) (h : ∀ ψ', Le ψ ψ' → EI prog w X Γ ψ' ω e P) (hsz : vs.length ≤ sizeLine) (q : ∀ ψ' s' vs' j', Le ψ ψ' → zO (fun (P : VP) v => P.p ψ' v) (ps ++ if r then [P] else []) vs' → B X Γ ψ' (put ω a (lst vs' j')) s' → Ex prog w X rest Q E s') (hi : interactive X.env = false) (hb : autoParam (∀ env t, attributeBase o "append" env t = t) au1) (hn : autoParam (zM e = true) au0) (hl : autoParam ((ap.endLine == cpos.line) = true) au0) : Ex prog w X (.If t [.Expr (.Call (.Attribute o "append" ap) [e] [] cpos) ipos] [] pos :: rest) Q E s := by
  refine zDd b ht fun ψ1 s1 l1 b1 => ?_
  cases r with
  | true =>
    refine y_appE hsc b1 ha (ho ψ1 s1 l1 b1) (fun ψ2 l2 => h ψ2 (l1.trans l2)) hsz (fun v ψ2 s2 j2 l2 p2 b2 => ?_) hi hb hn hl
    refine zR ?_
    exact q ψ2 s2 _ j2 (l1.trans l2) ((hall.imp fun (P : VP) v y => P.mono (l1.trans l2) y).append (.cons p2 .nil)) b2
  | false =>
    refine zR ?_
    exact q ψ1 s1 vs j l1 (by simpa using hall.imp fun (P : VP) v y => P.mono l1 y) (by
      have e : put ω a (lst vs j) = ω := by
        funext b
        by_cases q : b = a
        · subst q; rw [zA, ha]
        · rw [zC q]
      rw [e]; exact b1)
inductive RowI (ψ ω : PM) (ar a1 a2 : Addr) (ps qs : List VP) : Prop
  | mk (us1 : List Value) (j1 : Nat) (us2 : List Value) (j2 : Nat) (w1 : ω ar = some (lst [.ref a1, .ref a2] 0)) (w2 : ω a1 = some (lst us1 j1)) (w3 : ω a2 = some (lst us2 j2)) (w4 : zO (fun (P : VP) v => P.p ψ v) ps us1) (w5 : zO (fun (P : VP) v => P.p ψ v) qs us2)
theorem RowI.ext {ψ ω ω' : PM} {ar a1 a2 : Addr} {ps qs : List VP} (h : RowI ψ ω ar a1 a2 ps qs) (e : ω' ar = ω ar) (e1 : ω' a1 = ω a1) (e2 : ω' a2 = ω a2) : RowI ψ ω' ar a1 a2 ps qs := by
  obtain ⟨us1, j1, us2, j2, w1, w2, w3, w4, w5⟩ := h
  exact ⟨us1, j1, us2, j2, e.trans w1, e1.trans w2, e2.trans w3, w4, w5⟩
theorem zIp {a : Addr} {pm cd : Value} {ns : List Int} (T : zGV φ) (hn : ns.length ≤ 63) (K : FnK φ a (zA1 (st1 12) "_law_rows" [] .none .none .none pm cd .none)) : zj prog w ⟨k + 2, true⟩ φ (.ref a) [zB (ns.map vInt)] (zCQ [zB ((row0 ns).map vInt), zB ((row1 ns).map vInt)]) := by
  refine zl (names := ["script"]) K rfl rfl rfl (fun vs h => by obtain ⟨a, rfl⟩ := zB0 h; rfl) (by rfl) (by rfl) (by rfl) (by rfl) (zBP.ok ?_)
  intro X ψ s E hsc c l hft hdp b
  have hline : sizeLine = 16777216 := rfl
  have T1 := T.le l
  have hint : interactive X.env = false := by unfold interactive; rw [hsc]; rfl
  refine zGh (Ps1 := [vInt 3, vInt 20]) (Ps2 := [vInt 5, vInt 30]) hsc b c (e2 zH zH) (e2 zH zH) (by show 2 ≤ sizeLine; decide) (by show 2 ≤ sizeLine; decide) (sto hsc) fun ar a1 a2 vs1 vs2 ψ1 s1 n1 n2 n3 h12 h1r h2r l1 p1 p2 b1 => ?_
  have hlt : (ns.take 7).length ≤ 7 := by rw [List.length_take]; omega
  generalize hxs : ns.take 7 = xs at hlt
  refine zFT hsc b1 c (zG v_v (zDB evp0 (zEq zH) evp0) (get_take (n := 7) (by omega))) (zv (f := vInt) (d := 0) (zW rfl)) (fun i Γ' ψ' ω' => Γ' = ([("rows", zT (.ref ar)), ("script", zB (ns.map vInt))] : List (Str × VP)) ∧ RowI ψ' ω' ar a1 a2 ((zA0 [3, 20] in0 xs i).map vInt) ((zA0 [5, 30] in1 xs i).map vInt)) (fun i hi => stoT hsc) ?_ ?_ ?_ ?_
  · rintro i Γ' ψ' ω₁ ω₂ ⟨rfl, h⟩ hω
    exact ⟨rfl, h.ext (hω ar _ (zA _ _ _)) (hω a1 _ (by rw [zC h1r, zC h12, zA])) (hω a2 _ (by rw [zC h2r, zA]))⟩
  · intro ψ' l'
    exact ⟨rfl, vs1, 0, vs2, 0, zA _ _ _, by rw [zC h1r, zC h12, zA], by rw [zC h2r, zA], p1.imp fun (P : VP) v y => P.mono l' y, p2.imp fun (P : VP) v y => P.mono l' y⟩
  · rw [hxs]
    intro i Γi ψi ωi si hi hI li b2
    refine Ex.opq fun QQ hQ => ?_
    obtain ⟨rfl, us1, j1, us2, j2, w1, w2, w3, w4, w5⟩ := hI
    have hz1 : us1.length ≤ 100 := by have h1 := w4.length; rw [List.length_map] at h1; have := zAG (ini := [3, 20]) (p := in0) (xs := xs) (i := i); simp at this; omega
    have hz2 : us2.length ≤ 100 := by have h1 := w5.length; rw [List.length_map] at h1; have := zAG (ini := [5, 30]) (p := in1) (xs := xs) (i := i); simp at this; omega
    have see : ∀ {ψ' : PM} {ω' : PM} {s' : Shared} {x : VP} (b' : B X ([("x", x), ("rows", zT (.ref ar)), ("script", zB (ns.map vInt))] : List (Str × VP)) ψ' ω' s'), ω' ar = some (lst [.ref a1, .ref a2] 0) → ∀ m, Typ ([("x", x), ("rows", zT (.ref ar)), ("script", zB (ns.map vInt))] : List (Str × VP)) (zAa ψ' ω') m → Typ ([("rows", zB [zT (.ref a1), zT (.ref a2)])] : List (Str × VP)) (zAa ψ' ω') m := fun b' hw m t =>
      pk (Typ.view (x := "rows") t (by rfl) (zAz hw b'.noOwn (.cons rfl (.cons rfl .nil)))) Typ.nil
    refine zER (r := in0 (xs.getD i 0)) hsc b2 (TI.of c hsc (z0 (zAI (zAI v_v zH (zDh (by decide) zEo)) zH (zAP (by decide))) zH zAJ)) w2 w4 (fun ψ' s' l' b' => EI.own (Γ' := [("rows", zB [zT (.ref a1), zT (.ref a2)])]) c hsc (see b' w1) (zG v_v zH (zY (by decide) (by decide) rfl)) (zAN _)) (fun ψ' l' => EI.of c hsc (zAI v_v zH (zAP (by decide)))) (by omega) (fun ψ3 s3 us1' j1' l3 w4' b3 => ?_) hint
    have w3' : put ωi a1 (lst us1' j1') a2 = some (lst us2 j2) := by rw [zC h12.symm]; exact w3
    have w1' : put ωi a1 (lst us1' j1') ar = some (lst [.ref a1, .ref a2] 0) := by rw [zC h1r.symm]; exact w1
    refine zER (r := in1 (xs.getD i 0)) hsc b3 (TI.of c hsc (z0 (zAI (zAI v_v zH (zDh (by decide) zEo)) zH (zAP (by decide))) zH zAJ)) w3' (w5.imp fun (P : VP) v y => P.mono l3 y) (fun ψ' s' l' b' => EI.own (Γ' := [("rows", zB [zT (.ref a1), zT (.ref a2)])]) c hsc (see b' w1') (zG v_v zH (zY (by decide) (by decide) rfl)) (zAN _)) (fun ψ' l' => EI.of c hsc (zAI v_v zH (zAP (by decide)))) (by omega) (fun ψ4 s4 us2' j2' l4 w5' b4 => ?_) hint
    refine zR (hQ _ _ ⟨_, ψ4, _, ⟨rfl, us1', j1', us2', j2', by rw [zC h2r.symm]; exact w1', by rw [zC h12, zA], zA _ _ _, ?_, ?_⟩, l3.trans l4, b4.retype fun m t => pk t (pk t Typ.nil), fun a' o ho hn => ?_⟩)
    · rw [zDq hi, List.map_append]
      have e : (if in0 (xs.getD i 0) = true then [vInt ((xs.getD i 0).fmod 40)] else []) = List.map vInt (if in0 (xs.getD i 0) = true then [(xs.getD i 0).fmod 40] else []) := by split <;> rfl
      rw [← e]
      exact w4'.imp fun (P : VP) v y => P.mono l4 y
    · rw [zDq hi, List.map_append]
      have e : (if in1 (xs.getD i 0) = true then [vInt ((xs.getD i 0).fmod 40)] else []) = List.map vInt (if in1 (xs.getD i 0) = true then [(xs.getD i 0).fmod 40] else []) := by split <;> rfl
      rw [← e]
      exact w5'
    · have q1 : a' ≠ a1 := fun q => by rw [q, zC h1r, zC h12, zA] at hn; cases hn
      have q2 : a' ≠ a2 := fun q => by rw [q, zC h2r, zA] at hn; cases hn
      rw [zC q2, zC q1]; exact ho
  · rw [hxs]
    rintro Γ' ψ' ω' s' ⟨rfl, us1, j1, us2, j2, w1, w2, w3, w4, w5⟩ l' b'
    have f1 := b'.freeze w2
    have l2 : Le ψ' (put ψ' a1 (lst us1 j1)) := zL (b'.ownNone w2)
    have w3' : (fun c => if c = a1 then none else ω' c) a2 = some (lst us2 j2) := by simp [h12.symm, w3]
    have f2 := f1.freeze w3'
    have l3 : Le (put ψ' a1 (lst us1 j1)) (put (put ψ' a1 (lst us1 j1)) a2 (lst us2 j2)) := zL (f1.ownNone w3')
    have w1' : (fun c => if c = a2 then none else (fun c => if c = a1 then none else ω' c) c) ar = some (lst [.ref a1, .ref a2] 0) := by simp [h1r.symm, h2r.symm, w1]
    have f3 := f2.freeze w1'
    have l4 := zL (o := lst [.ref a1, .ref a2] 0) (f2.ownNone w1')
    have T2 := T1.le (l1.trans (l'.trans (l2.trans (l3.trans l4))))
    have hl1 : ((zA0 [3, 20] in0 xs xs.length)).length < 64 := by have := zAG (ini := [3, 20]) (p := in0) (xs := xs) (i := xs.length); simp at this; omega
    have hl2 : ((zA0 [5, 30] in1 xs xs.length)).length < 64 := by have := zAG (ini := [5, 30]) (p := in1) (xs := xs) (i := xs.length); simp at this; omega
    have f4 := f3.view (x := "rows") (P := zB [zB ((zA0 [3, 20] in0 xs xs.length).map vInt), zB ((zA0 [5, 30] in1 xs xs.length).map vInt)]) (by rfl) ⟨ar, _, 0, rfl, zA _ _ _, .cons ⟨a1, us1, j1, rfl, (l3.trans l4) _ _ (zA _ _ _), w4.imp fun (P : VP) v y => P.mono (l2.trans (l3.trans l4)) y⟩ (.cons ⟨a2, us2, j2, rfl, l4 _ _ (zA _ _ _), w5.imp fun (P : VP) v y => P.mono (l2.trans (l3.trans l4)) y⟩ .nil)⟩
    have e0 : row0 ns = sortI (zA0 [3, 20] in0 xs xs.length) := by unfold row0; rw [hxs]
    have e1' : row1 ns = sortI (zA0 [5, 30] in1 xs xs.length) := by unfold row1; rw [hxs]
    rw [e0, e1']
    exact zDL f4 (EI.of c hsc (v_tup (e2 (zB4 T2.sorted (e1 (zG v_v zH (zY (by decide) (by decide) rfl))) (zDn hl1)) (zB4 T2.sorted (e1 (zG v_v zH (zY (by decide) (by decide) rfl))) (zDn hl2))) (by show 2 ≤ sizeLine; decide)))
end
section
variable {rest : List Stmt} {Q : Flow → Shared → Prop} {cls : String} {ctx : Value}
noncomputable def zHw (r a b : Int) : Int := if zAU (a - b) ≤ r then 0 else b2i (decide (b < a)) - b2i (decide (a < b))
def zEw (prog : Program) (w : World) (μ : Md) (φ : PM) (f : Value) (P P2 : Addr) (Ps : List VP) (R : VP) : Prop :=
  ∀ A ψ s vs (Q : Value → Shared → Prop) (E : Value → Shared → Prop), Cx μ A ψ s → Le φ ψ → zO (fun (P : VP) v => P.p ψ v) Ps vs → (s.heap.get? P = some (tabObj #[]) ∧ ψ P = none ∧ P ∉ frs A) → (s.heap.get? P2 = some (tabObj #[]) ∧ ψ P2 = none ∧ P2 ∉ frs A) →
    (∀ v ψ' s' ps ps2, zQ (P :: P2 :: frs A) ψ s ψ' s' → s'.heap.get? P = some (tabObj ps) → s'.heap.get? P2 = some (tabObj ps2) → ψ' P = none → ψ' P2 = none → R.p ψ' v → Q v s') → wpAny (model prog w) A (call f vs) Q E s
theorem zEw.le {μ : Md} {f : Value} {P P2 : Addr} {Ps : List VP} {R : VP} (h : zEw prog w μ φ f P P2 Ps R) (l : Le φ ψ) : zEw prog w μ ψ f P P2 Ps R := fun A ψ' s vs Q E c l' => h A ψ' s vs Q E c (l.trans l')
theorem spec_key {kk : Nat} {a cc P1 act cct P2 ath : Addr} {pm pmc pmth cdth : Value} {r : Int} (K : FnK φ a (zA1 (st1 13) "_law_key" [] .none .none .none pm (.ref cc) .none)) (C : zX φ cc P1) (gct : GN φ "cmp_to_key" (.ref act)) (Kc : FnK φ act (zA1 (st1 5) "cmp_to_key" [] .none .none .none pmc (.ref cct) .none)) (Cc : zX φ cct P2) (hobj : BN φ "object" (.type "object")) (hbc : zD φ builtinsNs "__build_class__" (some (.builtin "__build_class__"))) (hany : zD φ cStatics "thirdparty.any" none) (hmods : ∃ o, φ sysModules = some o) (hT : zB6 φ) (habs : BN φ "abs" (.builtin "abs")) (gth : GN φ "three_way_cmp" (.ref ath)) (Kth : FnK φ ath (zA1 (st1 10) "three_way_cmp" [] .none .none .none pmth cdth .none)) (hne : P1 ≠ P2) : zEw prog w ⟨k + 26, n⟩ φ (.ref a) P1 P2 [vInt r] (vCls ds1 (vFn prog w ⟨kk + 3, false⟩ vInt (zHw r))) := by
  intro A ψ s vs Q E c l hv h1 h2 q
  obtain ⟨v, rfl, hv1⟩ := za hv
  refine zo (k := k + 25) (tb := [(P1, tabObj #[]), (P2, tabObj #[])]) (binds := [("reach", v)]) (fun p hp => ?_) c (K.le l) rfl rfl (BindsTo.of_eq rfl) (by rfl) (by rfl) (by rfl) fun env s' he hcd x' => ?_
  · rcases List.mem_cons.mp hp with rfl | hp
    · exact h1
    · rw [List.mem_singleton.mp hp]; exact h2
  have hX : ∃ X : Fix, X = ⟨A, A.deeper env, ψ, s, env.locals :: env.cells.map (·.2), env, none, [(P1, tabObj #[]), (P2, tabObj #[])]⟩ := ⟨_, rfl⟩
  obtain ⟨X, hX⟩ := hX
  have eA : A.deeper env = X.A := by rw [hX]
  have eenv : env = X.env := by rw [hX]
  have hcx : CX ⟨k + 25, n⟩ X := by rw [hX]; exact CX.of c rfl
  have htb : X.tb = [(P1, tabObj #[]), (P2, tabObj #[])] := by rw [hX]
  have hF : X.F = P1 :: P2 :: frs A := by rw [hX]; rfl
  have hψ0 : X.ψ₀ = ψ := by rw [hX]
  have hs0 : X.s₀ = s := by rw [hX]
  have hft : ∀ c ∈ env.cells.map (·.2), c ∈ X.ft := by rw [hX]; exact fun c hc => List.mem_cons_of_mem _ hc
  rw [← hX] at x'
  rw [eA, eenv]
  rw [eenv] at he hcd hft
  have hsc : X.env.scope = (zA1 (st1 13) "_law_key" [] .none .none .none pm (.ref cc) .none).scope := he
  have hcode : X.env.code = .ref cc := hcd.1
  clear hX eA eenv
  generalize zCq prog w A env E = E'
  have F := x'.fram
  obtain ⟨cl, hcl, hcell⟩ := F.cel "reach" (.inl (by show X.env.scope.names.lookup _ = _; rw [hsc]; rfl))
  generalize hm : (fun x => List.lookup x [(("reach" : Str), v)].reverse) = m at x'
  have hmr : m "reach" = some v := by rw [← hm]; rfl
  have T0 : Typ ([] : List (Str × VP)) ψ m := Typ.nil
  refine wpAny_execs_cons (wpAny_Return_some ?_)
  refine wpAny_Call_Name_kw ?_
  refine ((zEF (zD.le gct l) (by rfl) rfl : Ev prog w ⟨k + 25, n⟩ (zA1 (st1 13) "_law_key" [] .none .none .none pm (.ref cc) .none).scope [] ψ (.Name "cmp_to_key" _) _) X.A X.env m ψ s' hsc (x'.cx hcx) (Le.refl _) x'.fram T0).use fun v2 ψ2 s2 g2 p2' => ?_
  cases p2'
  have Y2 := x'.grow hcx g2
  have L2 := l.trans g2.le
  refine zBk rfl ?_
  rw [arm_eval_Lambda]
  refine zIt (wpAny_evalAll_nil (zIt (zIw (zIu ?_))))
  refine S.mkFunT (P := P1) (ps := #[]) Y2 (hT.le L2) (zn (y := "reach") (c := cl) hcl (by rfl) (by rfl)) F.gl hcode (C.le L2) (by rw [htb]; exact .head _) trivial (by rfl) trivial fun f c' s3 ct pmf ψ3 l3 hf3 hc3 Y3 => ?_
  have L3 := L2.trans l3
  refine ⟨zEM (L3 _ _ Kc.obj.choose_spec.1) Kc.obj.choose_spec.2 _ _ Y3.sub, ?_⟩
  generalize hps : (#[] ++ #[rawInt _, rawInt _, Value.ref c'] : Array Value) = ps1 at Y3
  have c3 : CX ⟨k + 25, n⟩ (X.setTb P1 (tabObj ps1)) := hcx.tb2
  have hPc3 : (P2, tabObj #[]) ∈ (X.setTb P1 (tabObj ps1)).tb := by
    refine List.mem_map.mpr ⟨(P2, tabObj #[]), by rw [htb]; exact .tail _ (.head _), ?_⟩
    show (if P2 = P1 then _ else _) = _
    rw [if_neg (Ne.symm hne)]
  obtain ⟨t1, t2, t3, t4, t5, t6, t7⟩ := Y3.tab _ hPc3
  have hoff : P2 ∉ frs X.A := fun hm => by
    obtain ⟨fr, e, _⟩ := c3.stk
    rcases Y3.link.frs e hm with q | q
    · exact t3 (by rw [q]; exact Y3.loc)
    · exact t5 q
  refine (spec_ctk (k := k) (PF := zT (.ref f)) Kc Cc hobj hbc hany hmods hT).le L3 X.A ψ3 s3 [.ref f] _ _ (Y3.cx c3) (Le.refl _) (.cons rfl .nil) t1 t2 hoff fun vK ψ4 s4 ps g4 hP4 hψ4 pK => ?_
  have Y4 := Y3.growT c3 hPc3 g4 hP4 hψ4
  have L4 := L3.trans g4.le
  obtain ⟨K0, cc0, o, fv, rfl, hK, ho, hod, hpf⟩ := pK
  cases hpf
  obtain ⟨cl', hcl', hc4⟩ := Y4.fram.cel "reach" (.inl (by show X.env.scope.names.lookup _ = _; rw [hsc]; rfl))
  have hcc : cl' = cl := by have : some cl' = some cl := hcl'.symm.trans hcl; exact Option.some.inj this
  subst hcc
  rw [hmr] at hc4
  obtain ⟨oc, hoc, hocd⟩ := hc4
  have hftc : cl' ∈ X.ft := hft _ (List.mem_map.mpr ⟨_, mem_of_lookup hcl, rfl⟩)
  obtain ⟨ho1, ho2⟩ := Y4.off cl' hftc
  have hin1 : (P1, tabObj ps1) ∈ ((X.setTb P1 (tabObj ps1)).setTb P2 (tabObj ps)).tb := by
    refine List.mem_map.mpr ⟨(P1, tabObj ps1), List.mem_map.mpr ⟨(P1, tabObj #[]), by rw [htb]; exact .head _, by simp⟩, by simp [hne]⟩
  have hin2 : (P2, tabObj ps) ∈ ((X.setTb P1 (tabObj ps1)).setTb P2 (tabObj ps)).tb := List.mem_map.mpr ⟨(P2, tabObj #[]), hPc3, by simp⟩
  have q1 := Y4.tab _ hin1
  have q2 := Y4.tab _ hin2
  have hPc1 : P1 ≠ cl' := fun z => q1.2.2.1 (by show P1 ∈ _; rw [z]; exact hftc)
  have hPc2 : P2 ≠ cl' := fun z => q2.2.2.1 (by show P2 ∈ _; rw [z]; exact hftc)
  have lc := zL (o := oc) ho1
  have Lc := L4.trans lc
  have hext : Ext (P1 :: P2 :: frs A) s s4 := by have z := Y4.ext; rw [zAi, zAi, hF] at z; rw [← hs0]; exact z
  refine q (.ref K0) (put ψ4 cl' oc) s4 ps1 ps ⟨hext, (by rw [← hψ0]; exact Y4.le.trans lc), fun b ob e => ?_, fun b ob e => ?_⟩ q1.1 q2.1 (by rw [zC hPc1]; exact q1.2.1) (by rw [zC hPc2]; exact q2.2.1) ⟨K0, cc0, o, .ref f, rfl, hK.le lc, lc _ _ ho, hod, zEM (lc _ _ (g4.le _ _ hf3)) rfl, fun x y => ?_⟩
  · by_cases z : b = cl'
    · subst z; rw [zA] at e; cases e; exact hoc
    · rw [zC z] at e; exact Y4.sub b ob e
  · by_cases z : b = cl'
    · subst z; rw [← hs0]; exact .inr ho2
    · rw [zC z] at e; rw [← hs0, ← hψ0]; exact Y4.new b ob e
  · have FN : FnK (put ψ4 cl' oc) f _ := ⟨⟨_, lc _ _ (g4.le _ _ hf3), rfl⟩, rfl, rfl, by rfl, by rfl, by rfl, (hc3.le g4.le).le lc, K.lim.le Lc⟩
    have T1 : BN (put ψ4 cl' oc) "abs" (.builtin "abs") := ⟨habs.1.le Lc, habs.2.le Lc⟩
    refine zHt (k := kk + 2) (y := "reach") (names := ["a", "b"]) (PF := vInt r) FN rfl rfl (zA _ _ _) hocd hv1 rfl (fun vs h => by obtain ⟨a, b, rfl⟩ := zZ h; rfl) (by decide +kernel) (by rfl) (by rfl) (by rfl) (by rfl) ?_
    refine v_if (c := decide (zAU (x - y) ≤ r)) (z0 (zB4 T1 (e1 (zAI v_v v_v z8)) zGF) v_v zCu) (fun h => EV.conv zH ?_) fun h => EV.conv (zCV (zD.le gth Lc) (Kth.le Lc) (e2 v_v v_v) ((zDD (k := kk + 1) (P := vInt x) (Q := vInt y) Kth zAW zAk).le Lc)) ?_
    · unfold zHw; rw [if_pos (of_decide_eq_true h)]
    · unfold zHw; rw [if_neg (of_decide_eq_false h)]
end
section
variable {rest : List Stmt} {Q : Flow → Shared → Prop}
theorem Op2.deep {k k' : Nat} {n : Bool} {t : Value → Value → Sem Value} {P P' R : VP} (h : Op2 prog w ⟨k, false⟩ φ t P P' R) (hk : k ≤ k') : Op2 prog w ⟨k', n⟩ φ t P P' R := fun A ψ s a b c l pa pb => h A ψ s a b (c.weak hk).any l pa pb
theorem zG5 : typeLookup (.type "type") "__call__" = pure (some (.builtin "type.__call__")) := by rw [typeLookup_type, builtinLookup_eq_fast]; kernel_rfl
theorem keep_cls {ds : Nat → Stmt} {c K : Addr} (hK : zCb ds c φ K) : zw φ (.ref K) := by
  obtain ⟨g, tn, tq, n2, d, md', tk, st', sts, kvs', h1, h2, h3, h4, h5, h6⟩ := hK
  intro M h hs
  refine ⟨.machine, .inr (.inl rfl), fun A Q E s k q => ?_⟩
  unfold keeperOf
  have ho := k _ _ (hs _ _ h1)
  refine zIt (wpAny_load ho ?_)
  refine zIt ?_
  unfold specialOf
  refine zIt (wpAny_typeOf (T := "type") ⟨_, ho, rfl⟩ (wpAny_of_eq zG5 ?_))
  exact zIu q
theorem y_callT2 {x f : Str} {px p1 p3 pos : Pos} {args : List Expr} {fv : Value} {P1 P2 : Addr} {Ps : List VP} {R : VP} (hsc : X.env.scope = sc) (b : B X Γ ψ ω s) (c : CX ⟨k, n⟩ X) (hf : EV prog w ⟨k, n⟩ sc Γ ψ (.Name f p1) (zT fv)) (hk : zw ψ fv) (ha : EA prog w ⟨k, n⟩ sc Γ ψ args Ps) (hs : zEw prog w ⟨k, n⟩ ψ fv P1 P2 Ps R) (hne : P1 ≠ P2) (hP1 : (P1, tabObj #[]) ∈ X.tb) (hP2 : (P2, tabObj #[]) ∈ X.tb) (hst : zK X x) (q : ∀ ψ' s' t1 t2, Le ψ ψ' → B ((X.setTb P1 (tabObj t1)).setTb P2 (tabObj t2)) ((x, R) :: Γ) ψ' ω s' → Ex prog w ((X.setTb P1 (tabObj t1)).setTb P2 (tabObj t2)) rest Q E s') : Ex prog w X (.Assign [.Name x px] (.Call (.Name f p1) args [] p3) pos :: rest) Q E s := by
  obtain ⟨m, Y, t⟩ := b
  refine ⟨wpAny_execs_cons (wpAny_Assign_Name (zA4 hsc hf hk ha (Y.cx c) (Le.refl _) Y.fram t fun vs ψ1 s1 g1 p1 => ?_) (by rfl))⟩
  have Y1 := Y.grow c g1
  have tb : ∀ P, (P, tabObj #[]) ∈ X.tb → s1.heap.get? P = some (tabObj #[]) ∧ ψ1 P = none ∧ P ∉ frs X.A := fun P hP => by
    obtain ⟨t1, t2, t3, t4, t5, t6, t7⟩ := Y1.tab _ hP
    refine ⟨t1, t2, fun hm => ?_⟩
    obtain ⟨fr, e, _⟩ := c.stk
    rcases Y1.link.frs e hm with q | q
    · exact t3 (by rw [q]; exact Y1.loc)
    · exact t5 q
  refine hs X.A ψ1 s1 vs _ _ (Y1.cx c) g1.le p1 (tb P1 hP1) (tb P2 hP2) fun v ψ2 s2 t1 t2 g2 h1 h2 h3 h4 pR => ?_
  have Y2 := Y1.growT2 c hne hP1 hP2 g2 h1 h2 h3 h4
  have hst2 : zK ((X.setTb P1 (tabObj t1)).setTb P2 (tabObj t2)) x := hst
  exact Y2.store (x := x) hst2 fun s3 Y3 => (q ψ2 s3 t1 t2 (g1.le.trans g2.le) ⟨_, Y3, (t.le (g1.le.trans g2.le)).cons pR⟩).go
theorem zIT {x f : Str} {px p1 p3 lp pos : Pos} {largs : Arguments} {lbody : Expr} {lsc : Scope} {args : List Expr} {fv : Value} {clw P : Addr} {Ps : List VP} {R : VP} (hsc : X.env.scope = sc) (b : B X Γ ψ ω s) (c : CX ⟨k, n⟩ X) (hf : EV prog w ⟨k, n⟩ sc Γ ψ (.Name f p1) (zT fv)) (hk : zw ψ fv) (ha : EA prog w ⟨k, n⟩ sc Γ ψ args Ps) (hdef : defaultsOf largs X.env = ([], [])) (hclo : closureFor lsc X.env = pure []) (hmk : zB6 ψ) (hge : X.env.globals = mainGlobals) (hcode : X.env.code = .ref clw) (C : zX ψ clw P) (hP : (P, tabObj #[]) ∈ X.tb) (hs : ∀ ψ' l ct pm c', Le ψ ψ' → ψ' l = some { cls := .type "function", data := .func (fnD "<lambda>" (X.env.qual ++ "<lambda>") largs (.expr lbody) lsc [] pm (.ref c') ct) } → zEg ψ' (.ref c') (X.env.qual ++ "<lambda>") → zj prog w ⟨k, n⟩ ψ' fv (zT (.ref l) :: Ps) R) (hst : zK X x)
    (q : ∀ ψ' s' t1, Le ψ ψ' → B (X.setTb P (tabObj t1)) ((x, R) :: Γ) ψ' ω s' → Ex prog w (X.setTb P (tabObj t1)) rest Q E s') : Ex prog w X (.Assign [.Name x px] (.Call (.Name f p1) (.Lambda largs lbody lsc lp :: args) [] p3) pos :: rest) Q E s := by
  obtain ⟨m, Y, t⟩ := b
  refine ⟨wpAny_execs_cons (wpAny_Assign_Name ?_ (by rfl))⟩
  rw [arm_eval_Call_Name']
  refine zIt ((hf.go X.A X.env m ψ s hsc (Y.cx c) (Le.refl _) Y.fram t).use fun v ψ1 s1 g1 p1' => ?_)
  cases p1'
  have Y1 := Y.grow c g1
  have c1 := c
  show wpAny (model prog w) X.A (callWith p3 fv [] (backTo p3 (starEach (.Lambda largs lbody lsc lp :: args) X.env)) []) _ _ s1
  refine callWith_of (P := fun h => ∃ k, (k = Keeper.frame ∨ k = Keeper.machine ∨ k = Keeper.boundFrame) ∧ Looks (model prog w) h (keeperOf fv) k) (by rw [zI (by rfl)]; show (_ || (backTo p3 (starEach args X.env)).any (·.1) || _) = false; rw [zBw ha.go]; rfl) (fun _ x => x) ?_
  rw [zI (by rfl)]
  refine evalArgs_plain ?_
  show wpAny _ _ (spliced ((false, if (false = true) then _ else eval (.Lambda largs lbody lsc lp) X.env) :: backTo p3 (starEach args X.env))) _ _ _
  unfold spliced
  simp only [Bool.false_eq_true, if_false]
  refine zIt ?_
  rw [arm_eval_Lambda, hdef]
  refine zIt (wpAny_evalAll_nil (zIt (zIw (zIu ?_))))
  refine S.mkFunT (P := P) (ps := #[]) Y1 (hmk.le g1.le) hclo hge hcode (C.le g1.le) hP trivial (by rfl) trivial fun l c' s2 ct pm ψ2 l2 hf2 hc2 Y2 => ?_
  generalize hps : (#[] ++ #[rawInt _, rawInt _, Value.ref c'] : Array Value) = ps1 at Y2
  have c2 : CX ⟨k, n⟩ (X.setTb P (tabObj ps1)) := c.tb2
  have L2 := g1.le.trans l2
  refine zIt (zIu (zIt (zIw (zAE hsc ha.go (Y2.cx c2) L2 Y2.fram (t.le L2) fun vs ψ3 s3 g3 p3' => zIu ?_))))
  have Y3 := Y2.grow c2 g3
  have L3 := L2.trans g3.le
  refine ⟨hk _ _ (fun a o e => g3.sub a o (L3 _ _ e)), ?_⟩
  refine (hs ψ3 l ct pm c' L3 (g3.le _ _ hf2) (hc2.le g3.le) X.A ψ3 s3 (.ref l :: vs) (Y3.cx c2) (Le.refl _) (.cons rfl p3')).use fun v ψ4 s4 g4 pR => ?_
  have Y4 := Y3.grow c2 g4
  have hst2 : zK (X.setTb P (tabObj ps1)) x := hst
  exact Y4.store (x := x) hst2 fun s5 Y5 => (q ψ4 s5 ps1 (L3.trans g4.le) ⟨_, Y5, (t.le (L3.trans g4.le)).cons pR⟩).go
end
section
variable {rest : List Stmt} {Q : Flow → Shared → Prop} {cls : String} {ctx : Value}
noncomputable abbrev vN (i : Nat) : VP := vInt (i : Nat)
noncomputable def two {α : Type} (x y : α) (s : Nat) : α := if s = 0 then x else y
noncomputable def zAc (row : Nat → List Int) (lf : Nat → List Nat) : List T3 := (List.range 2).flatMap fun s => (lf s).map fun i => ((row s).getD i 0, s, i)
noncomputable def d3 : T3 := (0, 0, 0)
noncomputable def zd (row : Nat → List Int) (lf : Nat → List Nat) : List T3 := zB5 lt3 d3 (zAc row lf)
noncomputable def endB (pts : List T3) (r : Int) (k : Nat) : Bool := (((k : Int) + 1) == (pts.length : Nat)) || (decide (r < (pts.getD (k + 1) d3).1 - (pts.getD k d3).1) || false)
noncomputable def zG9 (z : Int) : Bool := z.fmod 2 == 1
noncomputable def zBu (c : Bool) (t : T3) (l : Nat → List Nat) (s : Nat) : List Nat := l s ++ if (c && (t.2.1 == s)) = true then [t.2.2] else []
noncomputable def zAT (pts : List T3) (r : Int) : Nat → Int × (Nat → List Nat)
  | 0 => (0, fun _ => [])
  | k + 1 => if endB pts r k then (0, zBu (zG9 ((zAT pts r k).1 + 1)) (pts.getD k d3) (zAT pts r k).2) else ((zAT pts r k).1 + 1, (zAT pts r k).2)
theorem zE3 {pts : List T3} {r : Int} {k : Nat} : zAT pts r (k + 1) = if endB pts r k then (0, zBu (zG9 ((zAT pts r k).1 + 1)) (pts.getD k d3) (zAT pts r k).2) else ((zAT pts r k).1 + 1, (zAT pts r k).2) := rfl
noncomputable def zDc (row : Nat → List Int) (lf : Nat → List Nat) (s : Nat) : Int := (row (1 - s)).getD ((lf (1 - s)).getD ((lf (1 - s)).length - 1) 0) 0
noncomputable def zAx (row : Nat → List Int) (lf : Nat → List Nat) (lk : Nat → List Nat) (s : Nat) : List Nat := (lk s).filter fun i => decide (zDc row lf s < (row s).getD i 0)
noncomputable def zAf (row : Nat → List Int) (lf : Nat → List Nat) (lk : Nat → List Nat) (s : Nat) : List Nat :=
  match zAx row lf lk s with
  | [] => lk s
  | b :: _ => (lk s).filter (fun i => decide (i < b)) ++ (List.range ((row s).length - b)).map (b + ·)
theorem zCd {pts : List T3} {r : Int} {s : Nat} : ∀ k, ((zAT pts r k).2 s).length ≤ k
  | 0 => Nat.le_refl _
  | k + 1 => by
    have ih := zCd (pts := pts) (r := r) (s := s) k
    rw [zE3]
    split
    · show (zBu _ _ _ s).length ≤ _
      unfold zBu
      rw [List.length_append]
      split <;> simp <;> omega
    · show ((zAT pts r k).2 s).length ≤ _; omega
theorem zEW {pts : List T3} {r : Int} {s : Nat} : ∀ k, k ≤ pts.length → ∀ i ∈ (zAT pts r k).2 s, ∃ v, (v, s, i) ∈ pts
  | 0, _, i, h => nomatch h
  | k + 1, hk, i, h => by
    have ih := zEW (pts := pts) (r := r) (s := s) k (by omega)
    rw [zE3] at h
    split at h
    · change i ∈ zBu _ _ _ s at h
      unfold zBu at h
      rcases List.mem_append.mp h with h | h
      · exact ih i h
      · split at h
        · rename_i q
          rw [List.mem_singleton.mp h]
          have hk' : k < pts.length := by omega
          have e : pts.getD k d3 = pts[k] := by rw [List.getD_eq_getElem?_getD, List.getElem?_eq_getElem hk']; rfl
          have hs : pts[k].2.1 = s := by
            rw [e] at q
            have := (Bool.and_eq_true _ _ ▸ q : _ ∧ _).2
            simpa using this
          rw [e, ← hs]
          exact ⟨pts[k].1, List.getElem_mem hk'⟩
        · cases h
    · exact ih i h
theorem upTo_nat {a n : Nat} : zFX (a : Int) n = ((List.range n).map (a + ·)).map fun (i : Nat) => (i : Int) := by
  unfold zFX
  rw [List.map_map]
  apply List.map_congr_left
  intro i _
  show (a : Int) + (i : Nat) = ((a + i : Nat) : Int)
  push_cast; rfl
theorem zEh {α β : Type} {f : α → β} {d : α} {p : α → Bool} (l : List α) : ((List.range l.length).filter fun i => p (l.getD i d)).map (fun i => f (l.getD i d)) = (l.filter p).map f := by
  induction l with
  | nil => rfl
  | cons a l ih =>
    rw [List.length_cons, List.range_succ_eq_map, List.filter_cons]
    have e0 : (a :: l).getD 0 d = a := rfl
    have e1 : ∀ i, (a :: l).getD (i + 1) d = l.getD i d := fun i => rfl
    have ih' : (((List.range l.length).map Nat.succ).filter fun i => p ((a :: l).getD i d)).map (fun i => f ((a :: l).getD i d)) = (l.filter p).map f := by
      rw [List.filter_map, List.map_map]
      exact ih
    rw [e0, List.filter_cons]
    split
    · rw [List.map_cons, List.map_cons, ih', e0]
    · exact ih'
theorem zAH {α : Type} {l : List α} {i : Nat} {d : α} (h : i < l.length) : l.getD i d ∈ l := by
  rw [List.getD_eq_getElem?_getD, List.getElem?_eq_getElem h]; exact List.getElem_mem h
theorem zBe {α : Type} {f : α → VP} {l : List α} {μ : Md} {φ : PM} (h : l.length ≤ 1000) : zj prog w μ φ (.builtin "len") [zB (l.map f)] (vInt (l.length : Nat)) := by
  have h' := zB3 (prog := prog) (w := w) (μ := μ) (φ := φ) (ps := l.map f) (by rw [List.length_map]; omega)
  rw [List.length_map] at h'; exact h'
theorem zFq {P0 P1 : VP} {s : Nat} (hs : s < 2) {μ : Md} {φ : PM} : Op2 prog w μ φ getItem (zB [P0, P1]) (vInt (s : Nat)) (two P0 P1 s) := by
  refine zY (by omega) (by omega) ?_
  rcases (show s = 0 ∨ s = 1 by omega) with rfl | rfl <;> rfl
theorem get_twoT {P0 P1 : VP} {s : Nat} (hs : s < 2) {μ : Md} {φ : PM} : Op2 prog w μ φ getItem (zCQ [P0, P1]) (vInt (s : Nat)) (two P0 P1 s) := by
  refine zBG (by omega) ?_
  rcases (show s = 0 ∨ s = 1 by omega) with rfl | rfl <;> rfl
theorem get_mapV {α : Type} {f : α → VP} {d : α} {l : List α} {z : Int} {i : Nat} (e : z = (i : Nat)) (hi : i < l.length) (hs : l.length ≤ 1000) {μ : Md} {φ : PM} : Op2 prog w μ φ getItem (zB (l.map f)) (vInt z) (f (l.getD i d)) := by
  subst e; exact zAh hi (by omega)
theorem zCC {X : Fix} {sc : Scope} {elt : Expr} {gs : List Comprehension} {scope : Scope} {p pos : Pos} {t : Str} {line : Nat} (hsc : X.env.scope = sc) (hk : sc.names.lookup t = some .cell) : swapsWith (.ListComp elt gs scope p) (some (.Name t pos)) line X.env = pure false := by
  have e : X.env.kindOf t = some .cell := by show X.env.scope.names.lookup t = _; rw [hsc]; exact hk
  show (pure (X.env.blockKind == .function && X.env.kindOf t == some .local && pos.line == p.line && !(scope.names.any fun (n, k) => n == t && (k == .local || k == .cell))) : Sem Bool) = pure false
  rw [e]
  have : ((some NameKind.cell : Option NameKind) == some .local) = false := by decide
  rw [this]
  simp
theorem Typ.flat {Γ : List (Str × VP)} {ψ ψ' : PM} {m : Str → Option Value} (h : ∀ x P, Γ.lookup x = some P → zHZ P) (t : Typ Γ ψ m) : Typ Γ ψ' m := fun x P e => let ⟨v, h1, h2⟩ := t x P e; ⟨v, h1, h x P e _ _ _ h2⟩
noncomputable abbrev vL (l : List Nat) : VP := zB (l.map vN)
theorem zIh (l : List Nat) : vL l = zB ((l.map fun (i : Nat) => (i : Int)).map vInt) := by show zB _ = _; rw [List.map_map]; rfl
theorem zGs {l : List Nat} (hk : 7 ≤ μ.k) : Op2 prog w μ φ (compareOp .NotEq) (vL l) (zB []) (zN (!l.isEmpty)) := by
  have h := zGr (prog := prog) (w := w) (φ := φ) (da := .list ((l.map fun (i : Nat) => (i : Int)).map PyData.int)) (db := .list []) hk (P := vL l) (Q := zB []) (by rw [zIh]; exact zH9 (rd_map rd_int _)) (zH9 .nil) (zFz _) (by decide)
  rw [eqv_nil] at h
  rw [zFh] at h
  exact h
noncomputable def zAD (row : Nat → List Int) (lf lk : Nat → List Nat) (i s : Nat) : List Nat := if s < i then zAf row lf lk s else lk s
structure zHg (ψ ω : PM) (ar : Addr) (ad : Nat → Addr) (lk : Nat → List Nat) : Prop where
  ar : ω ar = some (lst [.ref (ad 0), .ref (ad 1)] 0)
  ad : ∀ s < 2, ∃ us j, ω (ad s) = some (lst us j) ∧ zO (fun (P : VP) v => P.p ψ v) ((lk s).map vN) us
theorem zHg.le {ψ ψ' ω : PM} {ar : Addr} {ad : Nat → Addr} {lk : Nat → List Nat} (h : zHg ψ ω ar ad lk) (l : Le ψ ψ') : zHg ψ' ω ar ad lk :=
  ⟨h.ar, fun s hs => let ⟨us, j, a, b⟩ := h.ad s hs; ⟨us, j, a, b.imp fun (P : VP) v y => P.mono l y⟩⟩
theorem zEu : ∀ x P, List.lookup x ([] : List (Str × VP)) = some P → zHZ P := fun _ _ h => nomatch h
theorem zAB {n : Str} {P : VP} {Γ : List (Str × VP)} (h : zHZ P) (t : ∀ x Q, Γ.lookup x = some Q → zHZ Q) : ∀ x Q, List.lookup x ((n, P) :: Γ) = some Q → zHZ Q := fun x Q e => by
  rw [List.lookup_cons] at e
  split at e
  · cases e; exact h
  · exact t x Q e
theorem cur_now {row : Nat → List Int} {lf lk : Nat → List Nat} {i : Nat} (hi : i < 2) : two (vL (zAD row lf lk i 0)) (vL (zAD row lf lk i 1)) i = vL (lk i) := by
  rcases (show i = 0 ∨ i = 1 by omega) with rfl | rfl
  · show vL (zAD row lf lk 0 0) = _; unfold zAD; rw [if_neg (by omega)]
  · show vL (zAD row lf lk 1 1) = _; unfold zAD; rw [if_neg (by omega)]
theorem cur_next {row : Nat → List Int} {lf lk : Nat → List Nat} {i : Nat} (hi : i < 2) {ψ ψz : PM} (lz : Le ψ ψz) {x0 x1 y : Addr} (h0 : (vL (zAD row lf lk i 0)).p ψ (.ref x0)) (h1 : (vL (zAD row lf lk i 1)).p ψ (.ref x1)) (hy : (vL (zAf row lf lk i)).p ψz (.ref y)) : (vL (zAD row lf lk (i + 1) 0)).p ψz (.ref (two y x0 i)) ∧ (vL (zAD row lf lk (i + 1) 1)).p ψz (.ref (two x1 y i)) := by
  rcases (show i = 0 ∨ i = 1 by omega) with rfl | rfl
  · exact ⟨hy, (vL _).mono lz h1⟩
  · exact ⟨(vL _).mono lz h0, hy⟩
theorem cur_keep {row : Nat → List Int} {lf lk : Nat → List Nat} {i : Nat} (hi : i < 2) {ψ ψz : PM} (lz : Le ψ ψz) {x0 x1 : Addr} (h0 : (vL (zAD row lf lk i 0)).p ψ (.ref x0)) (h1 : (vL (zAD row lf lk i 1)).p ψ (.ref x1)) (hf : zAf row lf lk i = lk i) : (vL (zAD row lf lk (i + 1) 0)).p ψz (.ref x0) ∧ (vL (zAD row lf lk (i + 1) 1)).p ψz (.ref x1) := by
  have e : ∀ s, zAD row lf lk (i + 1) s = zAD row lf lk i s := fun s => by
    unfold zAD
    by_cases q : s < i
    · rw [if_pos (by omega), if_pos q]
    · rw [if_neg q]
      by_cases q2 : s = i
      · subst q2; rw [if_pos (Nat.lt_succ_self s), hf]
      · rw [if_neg (by omega)]
  rw [e, e]
  exact ⟨(vL _).mono lz h0, (vL _).mono lz h1⟩
theorem set_two {i : Nat} (hi : i < 2) {x0 x1 y : Addr} {j : Nat} : some (lst ([.ref x0, .ref x1].set i (.ref y)) j) = some (lst [.ref (two y x0 i), .ref (two x1 y i)] j) := by
  rcases (show i = 0 ∨ i = 1 by omega) with rfl | rfl <;> rfl
noncomputable abbrev gL0 (PR PL : VP) (r : Int) : List (Str × VP) := [("rows", PR), ("left", PL), ("reach", vInt r)]
noncomputable abbrev gL1 (z : Int) (ar : Addr) (PP PR PL : VP) (r : Int) : List (Str × VP) := ("size", vInt z) :: ("lacking", zT (.ref ar)) :: ("points", PP) :: gL0 PR PL r
theorem zEb {a : Addr} {pm cd : Value} {row : Nat → List Int} {lf : Nat → List Nat} {r : Int} (T : zGV φ) (hrow : ∀ s < 2, (row s).length ≤ 20) (hlf : ∀ s < 2, 0 < (lf s).length ∧ (lf s).length ≤ 20 ∧ ∀ i ∈ lf s, i < (row s).length) (hpm : ∀ t ∈ zd row lf, t ∈ zAc row lf) (K : FnK φ a (zA1 (st1 16) "_law_lacking" [] .none .none .none pm cd .none)) : zj prog w ⟨k + 12, true⟩ φ (.ref a) [zCQ [zB ((row 0).map vInt), zB ((row 1).map vInt)], zB [zB ((lf 0).map vN), zB ((lf 1).map vN)], vInt r] (zB ((List.range 2).map fun s => zB ((zAf row lf (zAT (zd row lf) r (zd row lf).length).2 s).map vN))) := by
  refine zl (names := ["rows", "left", "reach"]) K rfl rfl rfl (fun vs h => by obtain ⟨a, b, c, rfl⟩ := zHq h; rfl) (by decide +kernel) (by rfl) (by rfl) (by rfl) (zBP.ok ?_)
  intro X ψ s E hsc c l hft hdp b
  have hline : sizeLine = 16777216 := rfl
  have T1 := T.le l
  have hint : interactive X.env = false := by unfold interactive; rw [hsc]; rfl
  have erow : ∀ s < 2, two (zB ((row 0).map vInt)) (zB ((row 1).map vInt)) s = zB ((row s).map vInt) := fun s hs => by rcases (show s = 0 ∨ s = 1 by omega) with rfl | rfl <;> rfl
  have elf : ∀ s < 2, two (zB ((lf 0).map vN)) (zB ((lf 1).map vN)) s = zB ((lf s).map vN) := fun s hs => by rcases (show s = 0 ∨ s = 1 by omega) with rfl | rfl <;> rfl
  have grow : ∀ s < 2, ∀ (ψ' : PM) μ, Op2 prog w μ ψ' getItem (zCQ [zB ((row 0).map vInt), zB ((row 1).map vInt)]) (vInt (s : Nat)) (zB ((row s).map vInt)) := fun s hs ψ' μ => by rw [← erow s hs]; exact get_twoT hs
  have glf : ∀ s < 2, ∀ (ψ' : PM) μ, Op2 prog w μ ψ' getItem (zB [zB ((lf 0).map vN), zB ((lf 1).map vN)]) (vInt (s : Nat)) (zB ((lf s).map vN)) := fun s hs ψ' μ => by rw [← elf s hs]; exact zFq hs
  clear erow elf
  generalize [zB ((row 0).map vInt), zB ((row 1).map vInt)] = PRs at b grow
  generalize [zB ((lf 0).map vN), zB ((lf 1).map vN)] = PLs at b glf
  have b : B X (gL0 (zCQ PRs) (zB PLs) r) ψ (fun _ => none) s := b
  have hall : (List.range 2).flatMap (zHY (fun s => (lf s).length) (fun _ _ => true) (fun s j => vT3 ((row s).getD ((lf s).getD j 0) 0, s, (lf s).getD j 0))) = (zAc row lf).map vT3 := by
    unfold zAc
    rw [List.map_flatMap]
    refine congrArg (fun f => (List.range 2).flatMap f) (funext fun s => ?_)
    unfold zHY
    rw [zCI, zAw (f := fun i => vT3 ((row s).getD i 0, s, i)) (d := 0) (lf s), List.map_map]; rfl
  have hlen : (zAc row lf).length ≤ 40 := by
    unfold zAc
    have h0 := (hlf 0 (by omega)).2.1
    have h1 := (hlf 1 (by omega)).2.1
    show ((List.range 2).flatMap _).length ≤ 40
    have e : List.range 2 = [0, 1] := rfl
    rw [e]
    simp only [List.flatMap_cons, List.flatMap_nil, List.length_append, List.length_map, List.append_nil]
    omega
  have hsz : ∀ i < 2, ((List.range i).flatMap (zHY (fun s => (lf s).length) (fun _ _ => true) (fun s j => vT3 ((row s).getD ((lf s).getD j 0) 0, s, (lf s).getD j 0)))).length + (lf i).length ≤ sizeLine := fun i hi => by
    have h0 := (hlf 0 (by omega)).2.1
    have h1 := (hlf 1 (by omega)).2.1
    rcases (show i = 0 ∨ i = 1 by omega) with rfl | rfl
    · show 0 + _ ≤ _; omega
    · have e : List.range 1 = [0] := rfl
      rw [e]
      simp only [List.flatMap_cons, List.flatMap_nil, List.append_nil]
      have : (zHY (fun s => (lf s).length) (fun _ _ => true) (fun s j => vT3 ((row s).getD ((lf s).getD j 0) 0, s, (lf s).getD j 0)) 0).length ≤ (lf 0).length := zC4 _ _ _
      omega
  have hptl : (zd row lf).length = (zAc row lf).length := zCP _
  refine zP (P := zB ((zd row lf).map vT3)) b (EI.of c hsc (zB4 T1.sorted (e1 (EV.conv (v_comp2 (k := k + 10) (n1 := 2) (n2 := fun s => (lf s).length) (keep := fun _ _ => true) (R := fun s j => vT3 ((row s).getD ((lf s).getD j 0) 0, s, (lf s).getD j 0)) (P2 := fun s => zB ((lf s).map vN)) (Tg2 := fun s j => [("i", vInt (((lf s).getD j 0 : Nat) : Int))]) (zFN T1.range (e1 zH) zi) (zAp rfl (by rfl) (by rfl)) (by rfl) (fun i hi => zEZ)
    (fun s hs => zG v_v v_v (glf s hs _ _)) (fun s hs => zv (f := vN) (d := 0) (zW rfl)) (fun s hs j hj p hp => by rw [List.mem_singleton.mp hp]; exact ⟨by rfl, by rfl⟩) (fun s hs j hj => zBy)
    (fun s hs j hj _ => v_tup (Ps := [vInt ((row s).getD ((lf s).getD j 0) 0), vN s, vN ((lf s).getD j 0)]) (e3 (zG (zAq v_v v_v (grow s hs _ _)) v_v (zAh (f := vInt) (d := 0) ((hlf s hs).2.2 _ (zAH hj)) (by have := hrow s hs; omega))) v_v v_v) (by show 3 ≤ sizeLine; decide)) hsz) (congrArg zB hall))) (zF1 (k := k + 9) (d := d3) (by omega)))) (sto hsc) fun v1 ψ1 s1 l1 p1 b1 => ?_
  have L1 := l.trans l1
  generalize hpts : zd row lf = pts at b1 hptl hpm
  have hside : ∀ t ∈ pts, t.2.1 < 2 ∧ t.2.2 ∈ lf t.2.1 := fun t ht => by
    have h := hpm t ht
    unfold zAc at h
    obtain ⟨s, hs, h⟩ := List.mem_flatMap.mp h
    obtain ⟨i, hi, rfl⟩ := List.mem_map.mp h
    exact ⟨List.mem_range.mp hs, hi⟩
  have hlk : ∀ k ≤ pts.length, ∀ s, s < 2 → ∀ i ∈ (zAT pts r k).2 s, i < (row s).length := fun k hk s hs i hi => by
    obtain ⟨v, hv⟩ := zEW k hk i hi
    exact (hlf s hs).2.2 i (hside _ hv).2
  have gpt : ∀ i, i < pts.length → ∀ (ψ' : PM) μ z, z = ((i : Nat) : Int) → Op2 prog w μ ψ' getItem (zB (pts.map vT3)) (vInt z) (vT3 (pts.getD i d3)) := fun i hi ψ' μ z e => get_mapV (d := d3) e hi (by omega)
  have glen : ∀ (ψ' : PM) μ, zj prog w μ ψ' (.builtin "len") [zB (pts.map vT3)] (vInt (pts.length : Nat)) := fun ψ' μ => zBe (by omega)
  generalize pts.map vT3 = PPs at b1 gpt glen
  refine zGh (Ps1 := []) (Ps2 := []) hsc b1 c e0 e0 (by decide) (by decide) (sto hsc) fun ar a1 a2 vs1 vs2 ψ2 s2 n1 n2 n3 h12 h1r h2r l2 p1 p2 b2 => ?_
  cases p1
  cases p2
  have L2 := L1.trans l2
  have hadr : ∀ s, s < 2 → two a1 a2 s ≠ ar := fun s hs => by
    rcases (show s = 0 ∨ s = 1 by omega) with rfl | rfl
    · exact h1r
    · exact h2r
  have had : ∀ s t, s < 2 → t < 2 → s ≠ t → two a1 a2 s ≠ two a1 a2 t := fun s t hs ht hst => by
    rcases (show s = 0 ∨ s = 1 by omega) with rfl | rfl <;> rcases (show t = 0 ∨ t = 1 by omega) with rfl | rfl
    · exact absurd rfl hst
    · exact h12
    · exact h12.symm
    · exact absurd rfl hst
  have hI0 : ∀ ψ', zHg ψ' (put (put (put (fun _ => none) a1 (lst [] 0)) a2 (lst [] 0)) ar (lst [.ref a1, .ref a2] 0)) ar (two a1 a2) (fun _ => []) := fun ψ' => ⟨zA _ _ _, fun s hs => ⟨[], 0, by
    rcases (show s = 0 ∨ s = 1 by omega) with rfl | rfl
    · show put _ ar _ a1 = _; rw [zC h1r, zC h12, zA]
    · show put _ ar _ a2 = _; rw [zC h2r, zA], .nil⟩⟩
  have hsome : ∀ x, x = ar ∨ (∃ s, s < 2 ∧ x = two a1 a2 s) → ∃ o, put (put (put (fun _ => (none : Option Obj)) a1 (lst [] 0)) a2 (lst [] 0)) ar (lst [.ref a1, .ref a2] 0) x = some o := fun x hx => by
    rcases hx with rfl | ⟨s, hs, rfl⟩
    · exact ⟨_, zA _ _ _⟩
    · obtain ⟨us, j, e, _⟩ := (hI0 ψ2).ad s hs
      exact ⟨_, e⟩
  generalize put (put (put (fun _ => (none : Option Obj)) a1 (lst [] 0)) a2 (lst [] 0)) ar (lst [.ref a1, .ref a2] 0) = ω0 at b2 hI0 hsome
  generalize two a1 a2 = ad at hadr had hI0 hsome
  refine zP b2 (EI.of c hsc zH) (sto hsc) fun v3 ψ3 s3 l3 p3 b3 => ?_
  have L3 := L2.trans l3
  have T3 := (T.le L3)
  refine zFT hsc b3 c (zFN T3.range (e1 (zB4 T3.len (e1 v_v) (glen _ _))) zi) (zBI rfl rfl (by omega)) (fun i Γ' ψ' ω' => Γ' = gL1 (zAT pts r i).1 ar (zB PPs) (zCQ PRs) (zB PLs) r ∧ zHg ψ' ω' ar ad (zAT pts r i).2) (fun i hi => stoT hsc) ?_ ?_ ?_ ?_
  · rintro i Γ' ψ' ω₁ ω₂ ⟨rfl, h⟩ hω
    have hω' : ∀ x, (x = ar ∨ ∃ s, s < 2 ∧ x = ad s) → ω₂ x = ω₁ x := fun x hx => let ⟨o, e⟩ := hsome x hx; hω x o e
    exact ⟨rfl, by rw [hω' ar (.inl rfl)]; exact h.ar, fun s hs => by rw [hω' _ (.inr ⟨s, hs, rfl⟩)]; exact h.ad s hs⟩
  · intro ψ' l'
    exact ⟨rfl, hI0 ψ'⟩
  · intro i Γi ψi ωi si hi hI li b4
    refine Ex.opq fun QQ hQ => ?_
    obtain ⟨rfl, hI⟩ := hI
    have Ti := T3.le li
    refine zFg (P₁ := vInt (zAT pts r i).1) (R := vInt ((zAT pts r i).1 + 1)) hsc b4 c (EI.of c hsc zH) zp (sto hsc) (fun v5 ψ5 s5 l5 p5 b5 => ?_)
    have T5 := Ti.le l5
    have hI5 := hI.le l5
    have hnx : (((i : Nat) : Int) + 1 == ((pts.length : Nat) : Int)) = false → i + 1 < pts.length := fun h => by
      have : ¬ ((i : Int) + 1) = (pts.length : Nat) := by simpa using h
      omega
    refine zDd b5 (r := endB pts r i) (TI.of c hsc (zGE (z0 (zAI v_v zH zAR) (zB4 T5.len (e1 v_v) (glen _ _)) zAn) fun hne => zGE (z0 (zAI (zAq (zG v_v (zAI v_v zH zAR) (gpt (i + 1) (hnx hne) _ _ _ (by push_cast; rfl))) zH (zBG (i := 0) (by decide) rfl)) (zAq (zG v_v v_v (gpt i hi _ _ _ rfl)) zH (zBG (i := 0) (by decide) rfl)) z8) v_v zAW) fun _ => zFc)) fun ψ6 s6 l6 b6 => ?_
    have hI6 := hI5.le l6
    have hpt := hside _ (zAH (d := d3) hi)
    generalize hst : pts.getD i d3 = pt at hpt
    obtain ⟨us, j, ha, hal⟩ := hI6.ad pt.2.1 hpt.1
    have hul : us.length ≤ 100 := by have h1 := hal.length; rw [List.length_map] at h1; have := zCd (pts := pts) (r := r) (s := pt.2.1) i; omega
    have stp : zAT pts r (i + 1) = if endB pts r i then (0, zBu (zG9 ((zAT pts r i).1 + 1)) pt (zAT pts r i).2) else ((zAT pts r i).1 + 1, (zAT pts r i).2) := by rw [← hst]; rfl
    cases hb : endB pts r i with
    | false =>
      rw [hb] at stp
      refine zR (zR (hQ _ _ ⟨_, ψ6, ωi, ⟨rfl, ?_⟩, l5.trans l6, b6.retype fun m t => ?_, fun a o h _ => h⟩))
      · rw [stp]; exact hI6
      · rw [stp]; exact pk t (pk t (pk t (pk t (pk t (pk t Typ.nil)))))
    | true =>
      rw [hb] at stp
      refine zER (r := zG9 ((zAT pts r i).1 + 1)) hsc b6 (TI.of c hsc (z0 (zAI v_v zH (zAP (by decide))) zH zAn)) ha hal
        (fun ψ' s' l' b' => EI.own (Γ' := [("lacking", zB [zT (.ref (ad 0)), zT (.ref (ad 1))]), ("k", vInt (i : Nat)), ("points", zB PPs)]) c hsc (fun m t => pk (Typ.view (x := "lacking") t (by rfl) (zAz hI6.ar b'.noOwn (.cons rfl (.cons rfl .nil)))) (pk t (pk t Typ.nil))) (EV.conv (zG v_v (zAq (zG v_v v_v (gpt i hi _ _ _ rfl)) zH (zBG (i := 1) (by decide) rfl)) (zFq (by rw [hst]; exact hpt.1))) (by rw [hst]; rcases (show pt.2.1 = 0 ∨ pt.2.1 = 1 by omega) with q | q <;> (rw [q]; rfl))) (zAN _))
        (fun ψ' l' => EI.of c hsc (zAq (zG v_v v_v (gpt i hi _ _ _ rfl)) zH (zBG (i := 2) (by decide) rfl))) (by omega) (fun ψ7 s7 us' j' l7 hal7 b7 => ?_) hint
      have hI7 := hI6.le l7
      refine zP b7 (EI.of c hsc zH) (sto hsc) fun v8 ψ8 s8 l8 p8 b8 => ?_
      have hI8 := hI7.le l8
      refine zR (zR (hQ _ _ ⟨_, ψ8, put ωi (ad pt.2.1) (lst us' j'), ⟨rfl, ?_⟩, l5.trans (l6.trans (l7.trans l8)), b8.retype fun m t => ?_, fun a' o h hn => ?_⟩))
      · rw [stp]
        refine ⟨by rw [zC (hadr _ hpt.1).symm]; exact hI8.ar, fun s hs => ?_⟩
        by_cases q : s = pt.2.1
        · subst q
          refine ⟨us', j', zA _ _ _, ?_⟩
          show zO _ ((zBu _ _ _ pt.2.1).map vN) us'
          unfold zBu
          rw [List.map_append]
          have e : ∀ (cd : Bool) (x : Nat), List.map vN (if (cd && (pt.2.1 == pt.2.1)) = true then [x] else []) = if cd = true then [vN x] else [] := fun cd x => by cases cd <;> simp
          rw [e]
          refine zO.imp (fun (P : VP) v y => P.mono l8 y) ?_
          rw [hst] at hal7
          exact hal7
        · obtain ⟨us2, j2, e1, e2⟩ := hI8.ad s hs
          refine ⟨us2, j2, by rw [zC (had s pt.2.1 hs hpt.1 q)]; exact e1, ?_⟩
          show zO _ ((zBu _ _ _ s).map vN) us2
          unfold zBu
          have e : ∀ (cd : Bool), (cd && (pt.2.1 == s)) = false := fun cd => by rw [show (pt.2.1 == s) = false by simpa using Ne.symm q, Bool.and_false]
          rw [e, if_neg (by simp), List.append_nil]
          exact e2
      · rw [stp]
        exact pk t (pk t (pk t (pk t (pk t (pk t Typ.nil)))))
      · have q : a' ≠ ad pt.2.1 := fun q => by obtain ⟨o', e⟩ := hsome a' (.inr ⟨_, hpt.1, q⟩); rw [e] at hn; cases hn
        rw [zC q]; exact h
  · rintro Γ' ψ' ω' s' ⟨rfl, hI⟩ l' b'
    have hlen2 : ∀ s, s < 2 → ((zAT pts r pts.length).2 s).length ≤ 40 := fun s hs => by have := zCd (pts := pts) (r := r) (s := s) pts.length; omega
    have hin : ∀ s, s < 2 → ∀ i ∈ (zAT pts r pts.length).2 s, i < (row s).length := fun s hs => hlk pts.length (Nat.le_refl _) s hs
    generalize (zAT pts r pts.length).2 = lk at hI hlen2 hin ⊢
    obtain ⟨us0, j0, w0, al0⟩ := hI.ad 0 (by omega)
    obtain ⟨us1, j1, w1, al1⟩ := hI.ad 1 (by omega)
    have hne01 := had 0 1 (by omega) (by omega) (by omega)
    have f1 := b'.freeze w0
    have m1 : Le ψ' (put ψ' (ad 0) (lst us0 j0)) := zL (b'.ownNone w0)
    have w1' : (fun c => if c = ad 0 then none else ω' c) (ad 1) = some (lst us1 j1) := by simp [hne01.symm, w1]
    have f2 := f1.freeze w1'
    have m2 := zL (o := lst us1 j1) (f1.ownNone w1')
    have f3 := f2.forget (ω' := put (fun _ => none) ar (lst [.ref (ad 0), .ref (ad 1)] 0)) (fun a o e => by
      by_cases q : a = ar
      · subst q; rw [zA] at e; rw [← e]; simp [(hadr 0 (by omega)).symm, (hadr 1 (by omega)).symm, hI.ar]
      · rw [zC q] at e; cases e)
    have hx0 : (vL (lk 0)).p (put (put ψ' (ad 0) (lst us0 j0)) (ad 1) (lst us1 j1)) (.ref (ad 0)) := ⟨ad 0, us0, j0, rfl, m2 _ _ (zA _ _ _), al0.imp fun (P : VP) v y => P.mono (m1.trans m2) y⟩
    have hx1 : (vL (lk 1)).p (put (put ψ' (ad 0) (lst us0 j0)) (ad 1) (lst us1 j1)) (.ref (ad 1)) := ⟨ad 1, us1, j1, rfl, zA _ _ _, al1.imp fun (P : VP) v y => P.mono (m1.trans m2) y⟩
    have Lf := L3.trans (l'.trans (m1.trans m2))
    generalize put (put ψ' (ad 0) (lst us0 j0)) (ad 1) (lst us1 j1) = ψf at f3 hx0 hx1 Lf
    obtain ⟨vr, hvr, f4⟩ := f3.pin (x := "rows") (by rfl)
    obtain ⟨vl, hvl, f5⟩ := f4.pin (x := "left") (by rfl)
    have f6 : B X ([("lacking", zT (.ref ar)), ("rows", zT vr), ("left", zT vl)] : List (Str × VP)) ψf (put (fun _ => none) ar (lst [.ref (ad 0), .ref (ad 1)] 0)) s' := f5.retype fun m t => pk t (pk t (pk t Typ.nil))
    have Tf := T.le Lf
    refine zFT hsc f6 c (zFN Tf.range (e1 zH) zi) (zAp rfl (nn := 2) (by rfl) (by rfl)) (fun i Γ' ψ' ω' => Γ' = ([("lacking", zT (.ref ar)), ("rows", zT vr), ("left", zT vl)] : List (Str × VP)) ∧ ∃ x0 x1 j, ω' ar = some (lst [.ref x0, .ref x1] j) ∧ (vL (zAD row lf lk i 0)).p ψ' (.ref x0) ∧ (vL (zAD row lf lk i 1)).p ψ' (.ref x1)) (fun i hi => stoCT hsc hft) ?_ ?_ ?_ ?_
    · rintro i Γ' ψ' ω₁ ω₂ ⟨rfl, x0, x1, j, h1, h2, h3⟩ hω
      exact ⟨rfl, x0, x1, j, by rw [hω ar _ (zA _ _ _)]; exact h1, h2, h3⟩
    · intro ψ' l'
      exact ⟨rfl, ad 0, ad 1, 0, zA _ _ _, (vL _).mono l' hx0, (vL _).mono l' hx1⟩
    · intro i Γi ψi ωi si hi hI li bi
      refine Ex.opq fun QQ hQ => ?_
      obtain ⟨rfl, x0, x1, j, har, hx0, hx1⟩ := hI
      have hi' : i = 0 ∨ i = 1 := by omega
      have fr := bi.fresh har
      have bf := bi.freeze har
      have lpf : Le ψi (put ψi ar (lst [.ref x0, .ref x1] j)) := zL (bi.ownNone har)
      have hψar : ψi ar = none := bi.ownNone har
      have hlack : (zB [vL (zAD row lf lk i 0), vL (zAD row lf lk i 1)]).p (put ψi ar (lst [.ref x0, .ref x1] j)) (.ref ar) := ⟨ar, _, j, rfl, zA _ _ _, .cons ((vL _).mono lpf hx0) (.cons ((vL _).mono lpf hx1) .nil)⟩
      have hψf : put ψi ar (lst [.ref x0, .ref x1] j) ar = some (lst [.ref x0, .ref x1] j) := zA _ _ _
      have hωar : (fun c => if c = ar then none else ωi c) ar = none := by simp
      have hωo : ∀ a, a ≠ ar → (fun c => if c = ar then none else ωi c) a = ωi a := fun a h => by simp [h]
      generalize (fun c => if c = ar then none else ωi c) = ωr at bf hωar hωo
      have hLe : Le (put ψi ar (lst [.ref x0, .ref x1] j)) (put ψi ar (lst [.ref x0, .ref x1] j)) := Le.refl _
      have Lp := Lf.trans (li.trans lpf)
      have hvr' := (zCQ PRs).mono (li.trans lpf) hvr
      have hvl' := (zB PLs).mono (li.trans lpf) hvl
      generalize hψp : put ψi ar (lst [.ref x0, .ref x1] j) = ψp at bf hlack hψf Lp hvr' hvl'
      have hput : Le (put ψi ar (lst [.ref x0, .ref x1] j)) ψp := by rw [hψp]; exact Le.refl _
      have h1i : 1 - i < 2 := by omega
      have c1 : ((1 : Int) - (i : Nat)) = ((1 - i : Nat) : Int) := by omega
      have hl1 := hlf (1 - i) h1i
      have hr1 := hrow (1 - i) h1i
      refine zP (P := vInt (zDc row lf i)) bf (EI.of c hsc (zG (zAq (v_p hvr') (EV.conv (zAI zH v_v z8) (congrArg vInt c1)) (grow (1 - i) h1i _ _)) (zG (zG (v_p hvl') (EV.conv (zAI zH v_v z8) (congrArg vInt c1)) (glf (1 - i) h1i _ _)) (v_un zH zAO) (zCO (P := vN ((lf (1 - i)).getD ((lf (1 - i)).length - 1) 0)) (by decide) (by rw [List.length_map]; omega) (by decide) ?_)) (zAh (f := vInt) (d := 0) (hl1.2.2 _ (zAH (by omega))) (by omega)))) (stoC hsc hft) fun v7 ψ7 s7 l7 p7 b7 => ?_
      · have e : (-1 + (((lf (1 - i)).map vN).length : Int)).toNat = (lf (1 - i)).length - 1 := by rw [List.length_map]; omega
        rw [e, List.getElem?_map, List.getElem?_eq_getElem (by omega), List.getD_eq_getElem?_getD, List.getElem?_eq_getElem (by omega)]; rfl
      have hlack7 := (zB [vL (zAD row lf lk i 0), vL (zAD row lf lk i 1)]).mono l7 hlack
      have hvr7 := (zCQ PRs).mono l7 hvr'
      have T7 := T.le (Lp.trans l7)
      have glack : ∀ (ψ' : PM) μ, Op2 prog w μ ψ' getItem (zB [vL (zAD row lf lk i 0), vL (zAD row lf lk i 1)]) (vInt (i : Nat)) (vL (lk i)) := fun ψ' μ => by rw [← cur_now hi]; exact zFq hi
      have hli := hlen2 i hi
      have hini := hin i hi
      have hri := hrow i hi
      refine zP (P := vL (zAx row lf lk i)) b7 (EI.of c hsc (EV.conv (zAM (nn := (lk i).length) (keep := fun j => decide (zDc row lf i < (row i).getD ((lk i).getD j 0) 0)) (R := fun j => vN ((lk i).getD j 0)) (k := k + 10) (zG (v_p hlack7) v_v (glack _ _)) (zv (f := vN) (d := 0) (zW rfl)) (by rfl) (fun i hi => zEZ)
        (fun j hj => zIo (z0 (zG (zAq (v_p hvr7) v_v (grow i hi _ _)) v_v (zAh (f := vInt) (d := 0) (hini _ (zAH hj)) (by omega))) v_v zAW)) (fun j hj _ => v_v) (by omega)) (congrArg zB (zEh (f := vN) (d := 0) (p := fun i' => decide (zDc row lf i < (row i).getD i' 0)) (lk i))))) (stoC hsc hft) (fun v8 ψ8 s8 l8 p8 b8 => ?_) (zCC hsc (by rfl))
      obtain ⟨vb, hvb, b9⟩ := b8.pin (x := "beyond") (by rfl)
      have hbl : (zAx row lf lk i).length ≤ 40 := Nat.le_trans (List.length_filter_le _ _) hli
      refine zDd b9 (r := !(zAx row lf lk i).isEmpty) (TI.of c hsc (z0 (v_p hvb) (zEm e0 (by decide)) (zGs (by show 7 ≤ k + 11; omega)))) fun ψ10 s10 l10 b10 => ?_
      have lall : Le ψp ψ10 := l7.trans (l8.trans l10)
      cases hbe : zAx row lf lk i with
      | nil =>
        have hfin : zAf row lf lk i = lk i := by unfold zAf; rw [hbe]
        refine zR (zR ?_)
        have har10 : ψ10 ar = some (lst [.ref x0, .ref x1] j) := lall _ _ hψf
        have bm := b10.melt (Γ' := ([("lacking", zT (.ref ar)), ("rows", zT vr), ("left", zT vl)] : List (Str × VP))) c hdp.hx har10 fr.1 fr.2 (fun m t => Typ.flat (zAB (zAN _) (zAB (zAN _) (zAB (zAN _) zEu))) (pk t (pk t (pk t Typ.nil))))
        have hk := cur_keep hi (zD7 (hput.trans lall) hψar) hx0 hx1 hfin
        refine hQ _ _ ⟨_, _, _, ⟨rfl, x0, x1, j, zA _ _ _, hk.1, hk.2⟩, zD7 (hput.trans lall) hψar, bm, fun a o ho hn => ?_⟩
        have q : a ≠ ar := fun q => by rw [q, zA] at hn; cases hn
        rw [zC q, hωo a q]; exact ho
      | cons bh bt =>
        have hfin : zAf row lf lk i = (lk i).filter (fun i' => decide (i' < bh)) ++ (List.range ((row i).length - bh)).map (bh + ·) := by unfold zAf; rw [hbe]
        have hbm : bh ∈ lk i := by
          have : bh ∈ zAx row lf lk i := by rw [hbe]; exact .head _
          exact (List.mem_filter.mp this).1
        have hbr := hini bh hbm
        have T10 := T.le (Lp.trans lall)
        have hvb10 := (vL (zAx row lf lk i)).mono l10 hvb
        rw [hbe] at hvb10
        have hvr10 := (zCQ PRs).mono (l8.trans l10) hvr7
        have hlack10 := (zB [vL (zAD row lf lk i 0), vL (zAD row lf lk i 1)]).mono (l8.trans l10) hlack7
        have gb0 : ∀ (ψ' : PM) μ, Op2 prog w μ ψ' getItem (vL (bh :: bt)) (vInt 0) (vN bh) := fun ψ' μ => zY (by decide) (by decide) rfl
        have efin : (((lk i).filter (fun i' => decide (i' < bh))).map vN ++ (zFX (bh : Int) (((row i).length : Int) - (bh : Int)).toNat).map vInt) = (zAf row lf lk i).map vN := by
          rw [hfin, List.map_append]
          congr 1
          rw [upTo_nat, List.map_map]
          have e : (((row i).length : Int) - (bh : Int)).toNat = (row i).length - bh := by omega
          rw [e]; rfl
        refine ⟨z9 (wpAny_Assign_Subscript ((EI.of (P := vL (zAf row lf lk i)) c hsc (EV.conv (zAI (EV.conv (zAM (nn := (lk i).length) (keep := fun j => decide ((((lk i).getD j 0 : Nat) : Int) < (bh : Nat))) (R := fun j => vN ((lk i).getD j 0)) (k := k + 10) (zG (v_p hlack10) v_v (glack _ _)) (zv (f := vN) (d := 0) (zW rfl)) (by rfl) (fun i hi => zEZ)
          (fun j hj => zIo (z0 v_v (zG (v_p hvb10) zH (gb0 _ _)) zAk)) (fun j hj _ => v_v) (by omega)) (congrArg zB (zEh (f := vN) (d := 0) (p := fun i' => decide (((i' : Nat) : Int) < (bh : Nat))) (lk i)))) (zFN T10.list (e1 (zFN T10.range (e2 (zG (v_p hvb10) zH (gb0 _ _)) (zB4 T10.len (e1 (zAq (v_p hvr10) v_v (grow i hi _ _))) (zBe (by omega)))) zFL)) (zDE rfl (zBA (by omega) (by omega) (by omega) (by omega)) (by omega))) (zC8 ?_)) ?_)).go s10 _ _ b10 fun v11 ψ11 s11 l11 p11 b11 => ?_) (by rfl))⟩
        · rw [List.length_map, List.length_map, zC2]
          have := List.length_filter_le (fun i' => decide (((i' : Nat) : Int) < (bh : Nat))) (lk i)
          omega
        · have e : (lk i).filter (fun i' => decide (((i' : Nat) : Int) < (bh : Nat))) = (lk i).filter (fun i' => decide (i' < bh)) := by
            congr 1; funext i'; apply decide_eq_decide.mpr; omega
          rw [e]
          exact congrArg zB efin
        · have har11 : ψ11 ar = some (lst [.ref x0, .ref x1] j) := l11 _ _ (lall _ _ hψf)
          have lz := zD7 (hput.trans (lall.trans l11)) hψar
          have bm := b11.melt (Γ' := ([("side", vInt (i : Nat)), ("lacking", zT (.ref ar)), ("rows", zT vr), ("left", zT vl)] : List (Str × VP))) c hdp.hx har11 fr.1 fr.2 (fun m t => Typ.flat (zAB (zCY _) (zAB (zAN _) (zAB (zAN _) (zAB (zAN _) zEu)))) (pk t (pk t (pk t (pk t Typ.nil)))))
          have pv : (vL (zAf row lf lk i)).p (zCy ψ11 ar) v11 := by
            rw [zIh] at p11 ⊢
            exact zG6 har11 p11
          refine (EI.of c hsc (v_v (x := "lacking") (P := zT (.ref ar)))).go _ _ _ bm fun u ψ12 s12 l12 p12 b12 => ?_
          cases p12
          refine (EI.of c hsc (v_v (x := "side") (P := vInt (i : Nat)))).go _ _ _ b12 fun u ψ13 s13 l13 p13 b13 => ?_
          obtain ⟨tk, rfl⟩ := p13
          have lz2 := lz.trans (l12.trans l13)
          have pv2 := (vL (zAf row lf lk i)).mono (l12.trans l13) pv
          obtain ⟨y, ys, jy, rfl, _⟩ := id pv2
          refine zF9 (i := i) b13 (zA _ _ _) (by show i < 2; exact hi) (by omega) fun s14 j14 b14 => ?_
          refine (zR (zR ?_) : Ex prog w X [] _ _ _).go
          rw [zA7] at b14
          have hk := cur_next hi lz2 hx0 hx1 pv2
          refine hQ _ _ ⟨_, ψ13, _, ⟨rfl, two y x0 i, two x1 y i, j14, ?_, hk.1, hk.2⟩, lz2, b14.retype fun m t => pk t (pk t (pk t Typ.nil)), fun a o ho hn => ?_⟩
          · rw [zA, set_two hi]
          · have q : a ≠ ar := fun q => by rw [q, zA] at hn; cases hn
            rw [zC q, hωo a q]; exact ho
    · rintro Γ' ψ' ω' s' ⟨rfl, x0, x1, j, har, hx0, hx1⟩ l' b'
      refine zGi hsc b' c har (ps := (List.range 2).map fun s => vL (zAf row lf lk s)) ?_
      exact .cons hx0 (.cons hx1 .nil)
end
noncomputable abbrev zCK : Type := Addr × Int
noncomputable abbrev PFr (prog : Program) (w : World) (r : Int) : VP := vFn prog w ⟨3, false⟩ vInt (zHw r)
noncomputable def zAA (prog : Program) (w : World) (r : Int) (p : zCK) : VP := vKx ds1 (PFr prog w r) (vInt p.2) p.1
noncomputable def keq (r : Int) (p q : zCK) : Bool := decide (zHw r p.2 q.2 = 0)
noncomputable def klt (r : Int) (p q : zCK) : Bool := decide (zHw r p.2 q.2 < 0)
noncomputable def kgt (r : Int) (p q : zCK) : Bool := decide (zHw r p.2 q.2 > 0)
theorem zCB {r a b : Int} (hr : 0 ≤ r) : (zAU (a - b) ≤ r ∧ zHw r a b = 0) ∨ (r < b - a ∧ zHw r a b = -1) ∨ (r < a - b ∧ zHw r a b = 1) := by
  unfold zHw
  by_cases h : zAU (a - b) ≤ r
  · exact .inl ⟨h, by rw [if_pos h]⟩
  · rw [if_neg h]
    unfold zAU at h
    by_cases q : a < b
    · refine .inr (.inl ⟨by split at h <;> omega, ?_⟩)
      rw [decide_eq_false (by omega), decide_eq_true q]; rfl
    · refine .inr (.inr ⟨by split at h <;> omega, ?_⟩)
      rw [decide_eq_true (by split at h <;> omega), decide_eq_false q]; rfl
theorem zDV {r : Int} (hr : 0 ≤ r) (p q : zCK) : keq r p q = decide (zAU (p.2 - q.2) ≤ r) := by
  unfold keq
  apply decide_eq_decide.mpr
  rcases zCB (r := r) (a := p.2) (b := q.2) hr with ⟨h, e⟩ | ⟨h, e⟩ | ⟨h, e⟩ <;> rw [e] <;> (try unfold zAU at *) <;> (try split at h) <;> (try split) <;> omega
theorem klt_is {r : Int} (hr : 0 ≤ r) (p q : zCK) : klt r p q = decide (r < q.2 - p.2) := by
  unfold klt
  apply decide_eq_decide.mpr
  rcases zCB (r := r) (a := p.2) (b := q.2) hr with ⟨h, e⟩ | ⟨h, e⟩ | ⟨h, e⟩ <;> rw [e] <;> (try unfold zAU at *) <;> (try split at h) <;> omega
theorem kgt_is {r : Int} (hr : 0 ≤ r) (p q : zCK) : kgt r p q = decide (r < p.2 - q.2) := by
  unfold kgt
  apply decide_eq_decide.mpr
  rcases zCB (r := r) (a := p.2) (b := q.2) hr with ⟨h, e⟩ | ⟨h, e⟩ | ⟨h, e⟩ <;> rw [e] <;> (try unfold zAU at *) <;> (try split at h) <;> omega
theorem zCA (z : Int) (ψ : PM) (v : Value) (h : (vInt z).p ψ v) : handedIn v = true := by obtain ⟨t, rfl⟩ := h; rfl
section
variable {r : Int}
theorem key_lt (hlim : zD φ cStatics "sys.recursionlimit" none) (hk : 4 ≤ k) (p q : zCK) : Op2 prog w ⟨k, n⟩ φ (compareOp .Lt) (zAA prog w r p) (zAA prog w r q) (zN (klt r p q)) :=
  Op2.deep (K1_op (k := 3) (nm := "__lt__") (rf := "__gt__") (sym := "<") (i := 1) hlim zCA p.2 q.2 (.inl ⟨rfl, rfl, rfl, rfl⟩)) hk
theorem key_gt (hlim : zD φ cStatics "sys.recursionlimit" none) (hk : 4 ≤ k) (p q : zCK) : Op2 prog w ⟨k, n⟩ φ (compareOp .Gt) (zAA prog w r p) (zAA prog w r q) (zN (kgt r p q)) :=
  Op2.deep (K1_op (k := 3) (nm := "__gt__") (rf := "__lt__") (sym := ">") (i := 2) hlim zCA p.2 q.2 (.inr (.inl ⟨rfl, rfl, rfl, rfl⟩))) hk
theorem key_eq (hlim : zD φ cStatics "sys.recursionlimit" none) (hk : 4 ≤ k) (p q : zCK) : Op2 prog w ⟨k, n⟩ φ (compareOp .Eq) (zAA prog w r p) (zAA prog w r q) (zN (keq r p q)) :=
  Op2.deep (K1_op (k := 3) (nm := "__eq__") (rf := "__eq__") (sym := "==") (i := 3) hlim zCA p.2 q.2 (.inr (.inr ⟨rfl, rfl, rfl, rfl⟩))) hk
theorem key_opEq (hr : 0 ≤ r) (hlim : zD φ cStatics "sys.recursionlimit" none) (hk : 4 ≤ k) (p q : zCK) : zDG prog w ⟨k, n⟩ φ (zAA prog w r p) (zAA prog w r q) (keq r p q) := by
  refine zFs (key_eq hlim hk p q) (fun ψ v hp hq => ?_) fun ψ v hp => ?_
  · obtain ⟨_, x, K, dx, u, c, o, fv, rfl, h1, h2, ⟨t, rfl⟩, _⟩ := hp
    obtain ⟨_, y, K', dy, u', c', o', fv', e, h1', h2', ⟨t', rfl⟩, _⟩ := hq
    cases e
    rw [h1] at h1'
    have e2 : inO K dx (.int p.2 t) = inO K' dy (.int q.2 t') := Option.some.inj h1'
    have e3 : p.2 = q.2 := by
      have e4 := congrArg Obj.slots e2
      have e5 : (#[some (Value.int p.2 t)] : Array (Option Value)) = #[some (Value.int q.2 t')] := e4
      have e6 : some (some (Value.int p.2 t)) = some (some (Value.int q.2 t')) := congrArg (fun a => a[0]?) e5
      injection e6 with e7
      injection e7 with e8
      injection e8
    rw [zDV hr, e3]
    refine decide_eq_true ?_
    unfold zAU
    split <;> omega
  · obtain ⟨e, _⟩ := hp
    rw [e]; rfl
theorem zEs (p : zCK) (ψ : PM) (v : Value) (h : (zAA prog w r p).p ψ v) : v = .ref p.1 := h.1
theorem key_vK (p : zCK) : ∃ R, ∀ ψ v, (zAA prog w r p).p ψ v → (vK ds1 (PFr prog w r) R).p ψ v := ⟨vInt p.2, fun ψ v h => h.2⟩
theorem zII {K : Addr} {row : List Int} {ψ : PM} : ∀ {vs : List Value}, zO (fun (P : VP) v => P.p ψ v) (row.map fun x => vKat K ds1 (PFr prog w r) (vInt x)) vs → ∃ xs : List zCK, xs.map (·.2) = row ∧ zO (fun (P : VP) v => P.p ψ v) (xs.map (zAA prog w r)) vs := by
  induction row with
  | nil => intro vs h; cases h; exact ⟨[], rfl, .nil⟩
  | cons x row ih =>
    intro vs h
    cases h with
    | cons h t =>
      obtain ⟨xs, e, hx⟩ := ih t
      obtain ⟨h1, a, dx, u, e2, _⟩ := h
      refine ⟨(a, x) :: xs, by rw [List.map_cons, e], .cons ⟨e2, h1⟩ hx⟩
end
inductive KnF (φ : PM) (i : Nat) (nm : Str) : Prop
  | mk (a : Addr) (pm cd : Value) (g : GN φ nm (.ref a)) (k : FnK φ a (zA1 (st1 i) nm [] .none .none .none pm cd .none))
inductive KnC (φ : PM) (i : Nat) (nm : Str) (T : Addr) : Prop
  | mk (a cc : Addr) (pm : Value) (g : GN φ nm (.ref a)) (k : FnK φ a (zA1 (st1 i) nm [] .none .none .none pm (.ref cc) .none)) (c : zX φ cc T)
structure Law1 (φ : PM) (a clw Plaw Pkey Pctk : Addr) : Prop where
  T : zGV φ
  law : ∃ pm, FnK φ a (zA1 (st1 21) "law" [] .none .none .none pm (.ref clw) .none)
  lawC : zX φ clw Plaw
  rows : KnF φ 12 "_law_rows"
  key : KnC φ 13 "_law_key" Pkey
  left : KnF φ 14 "_law_left"
  stretches : KnF φ 15 "_law_stretches"
  lacking : KnF φ 16 "_law_lacking"
  same : KnF φ 17 "_law_same"
  sign : KnF φ 18 "_law_sign"
  refused : KnF φ 19 "_law_refused"
  weeded : KnF φ 20 "_law_weeded"
  dd : ∃ a kd pm cd, GN φ "_deduplicate" (.ref a) ∧ FnK φ a (fdDd kd pm cd) ∧ zD φ kd "unhashable_fallback" (some (.bool false))
  ddu : KnF φ 2 "_deduplicate_unhashable"
  cao : KnF φ 3 "_compare_args_orderless"
  sld : KnF φ 9 "sorted_list_difference"
  three : KnF φ 10 "three_way_cmp"
  ctk : KnC φ 5 "cmp_to_key" Pctk
  reduce : ∃ a T im oT nT oim pm cd, GN φ "reduce" (.ref a) ∧ FnK φ a (zA1 (st1 7) "reduce" [] (.ref T) .none .none pm cd .none) ∧ φ T = some oT ∧ oT.data = .seq #[.ref im] nT ∧ GN φ "_initial_missing" (.ref im) ∧ φ im = some oim ∧ oim.cls = .type "object"
  iter : BN φ "iter" (.builtin "iter")
  dict : BN φ "dict" (.type "dict")
  te : BN φ "TypeError" (.type "TypeError")
  ve : BN φ "ValueError" (.type "ValueError")
  ie : BN φ "IndexError" (.type "IndexError")
  obj : BN φ "object" (.type "object")
  bc : zD φ builtinsNs "__build_class__" (some (.builtin "__build_class__"))
  any : zD φ cStatics "thirdparty.any" none
  mods : ∃ o, φ sysModules = some o
  mkT : zB6 φ
  lim : zD φ cStatics "sys.recursionlimit" none
section
variable {row : Nat → Int} {r : Int}
noncomputable def cg (row : Nat → Int) (r : Int) : Nat → Nat × Nat
  | 0 => (0, 0)
  | j + 1 => if (j == 0 || decide (r < row j - row (cg row r j).2)) = true then ((cg row r j).1 + 1, j) else cg row r j
noncomputable def cn (row : Nat → Int) (r : Int) (j : Nat) : Nat := (cg row r j).1
noncomputable def gl (row : Nat → Int) (r : Int) (j : Nat) : Nat := (cg row r j).2
noncomputable def kp (row : Nat → Int) (r : Int) (j : Nat) : Bool := j == 0 || decide (r < row j - row (gl row r j))
theorem zD2 (j : Nat) : cn row r (j + 1) = (if kp row r j = true then cn row r j + 1 else cn row r j) ∧ gl row r (j + 1) = if kp row r j = true then j else gl row r j := by
  unfold cn gl kp
  show (if _ then _ else _ : Nat × Nat).1 = _ ∧ (if _ then _ else _ : Nat × Nat).2 = _
  by_cases h : (j == 0 || decide (r < row j - row (cg row r j).2)) = true
  · have h' : (j == 0 || decide (r < row j - row (gl row r j))) = true := h
    rw [if_pos h', if_pos h', if_pos h]; exact ⟨rfl, rfl⟩
  · have h' : ¬ (j == 0 || decide (r < row j - row (gl row r j))) = true := h
    rw [if_neg h', if_neg h', if_neg h]; exact ⟨rfl, rfl⟩
theorem zIi {j : Nat} (h : kp row r j = true) : cn row r (j + 1) = cn row r j + 1 ∧ gl row r (j + 1) = j := by
  have := zD2 (row := row) (r := r) j
  rw [if_pos h, if_pos h] at this; exact this
theorem cn_no {j : Nat} (h : kp row r j = false) : cn row r (j + 1) = cn row r j ∧ gl row r (j + 1) = gl row r j := by
  have := zD2 (row := row) (r := r) j
  rw [if_neg (by rw [h]; decide), if_neg (by rw [h]; decide)] at this; exact this
theorem zHl : kp row r 0 = true := rfl
theorem zA2 {i j : Nat} (h : i ≤ j) : cn row r i ≤ cn row r j := by
  induction h with
  | refl => exact Nat.le_refl _
  | @step m _ ih =>
    have e := (zD2 (row := row) (r := r) m).1
    refine Nat.le_trans ih ?_
    rw [e]
    split
    · exact Nat.le_succ _
    · exact Nat.le_refl _
theorem zBb : ∀ {j : Nat}, 1 ≤ j → gl row r j < j ∧ kp row r (gl row r j) = true ∧ cn row r (gl row r j) + 1 = cn row r j ∧ cn row r (gl row r j + 1) = cn row r j ∧ ∀ i, i < j → kp row r i = true → i ≤ gl row r j
  | 0, h => absurd h (by omega)
  | j + 1, _ => by
    by_cases h : kp row r j = true
    · obtain ⟨e1, e2⟩ := zIi h
      rw [e2, e1]
      exact ⟨by omega, h, rfl, rfl, fun i hi _ => by omega⟩
    · have h' : kp row r j = false := by simpa using h
      have hj : 1 ≤ j := by
        cases j with
        | zero => rw [zHl] at h'; cases h'
        | succ j => omega
      obtain ⟨e1, e2⟩ := cn_no h'
      obtain ⟨a, b, c, d, e⟩ := zBb (j := j) hj
      rw [e2, e1]
      exact ⟨by omega, b, c, d, fun i hi hk => e i (by
        by_cases q : i = j
        · rw [q, h'] at hk; cases hk
        · omega) hk⟩
theorem zE1 {j : Nat} (hj : 1 ≤ j) (h : kp row r j = true) : r < row j - row (gl row r j) := by
  unfold kp at h
  have h0 : (j == 0) = false := by simpa using (by omega : j ≠ 0)
  rw [h0, Bool.false_or] at h
  exact of_decide_eq_true h
theorem zF6 {j : Nat} (h : kp row r j = false) : row j - row (gl row r j) ≤ r := by
  unfold kp at h
  have := (Bool.or_eq_false_iff.mp h).2
  have := of_decide_eq_false this
  omega
def Up (row : Nat → Int) (n : Nat) : Prop := ∀ i j, i ≤ j → j < n → row i ≤ row j
theorem zEl (hr : 0 ≤ r) (i : Nat) : row i - row (gl row r (i + 1)) ≤ r := by
  by_cases h : kp row r i = true
  · rw [(zIi h).2]; omega
  · have h' : kp row r i = false := by simpa using h
    rw [(cn_no h').2]; exact zF6 h'
theorem far_lt {n : Nat} (hu : Up row n) (hr : 0 ≤ r) {i j : Nat} (hi : i < n) (hji : j ≤ i) (hf : r < row i - row j) : j < gl row r (i + 1) := by
  have h1 := zEl (row := row) (r := r) hr i
  have h2 := (zBb (row := row) (r := r) (j := i + 1) (by omega)).1
  by_cases q : j < gl row r (i + 1)
  · exact q
  · have := hu (gl row r (i + 1)) j (by omega) (by omega)
    omega
theorem zIS {n : Nat} (hu : Up row n) (hr : 0 ≤ r) {i j : Nat} (hi : i < n) (hji : j ≤ i) (hf : r < row i - row j) : cn row r (j + 1) + 1 ≤ cn row r (i + 1) := by
  have h1 := far_lt hu hr hi hji hf
  have h2 := (zBb (row := row) (r := r) (j := i + 1) (by omega)).2.2.1
  have := zA2 (row := row) (r := r) (i := j + 1) (j := gl row r (i + 1)) (by omega)
  omega
theorem zGa {n : Nat} (hu : Up row n) {i : Nat} (hi : i < n) (h : 1 ≤ gl row r (i + 1)) : r < row i - row (gl row r (gl row r (i + 1))) := by
  have h2 := zBb (row := row) (r := r) (j := i + 1) (by omega)
  have h3 := zE1 h h2.2.1
  have := hu (gl row r (i + 1)) i (by omega) hi
  omega
theorem zH5 {n : Nat} (hu : Up row n) (hr : 0 ≤ r) {i : Nat} (hi : i < n) {p : Nat → Bool} (hp : ∀ j, p j = decide (r < row i - row j)) : 1 + maxL (0 :: ((List.range i).filter p).map fun j => (cn row r (j + 1) : Int)) = (cn row r (i + 1) : Nat) := by
  have h2 := zBb (row := row) (r := r) (j := i + 1) (by omega)
  have e : maxL (0 :: ((List.range i).filter p).map fun j => (cn row r (j + 1) : Int)) = (cn row r (gl row r (i + 1)) : Nat) := by
    refine zFm ?_ fun a ha => ?_
    · by_cases q : 1 ≤ gl row r (i + 1)
      · have h3 := zBb (row := row) (r := r) (j := gl row r (i + 1)) q
        refine .tail _ (List.mem_map.mpr ⟨gl row r (gl row r (i + 1)), List.mem_filter.mpr ⟨List.mem_range.mpr (by omega), ?_⟩, by rw [h3.2.2.2.1]⟩)
        rw [hp]; exact decide_eq_true (zGa hu hi q)
      · have : gl row r (i + 1) = 0 := by omega
        rw [this]; exact .head _
    · rcases List.mem_cons.mp ha with rfl | ha
      · omega
      · obtain ⟨j, hj, rfl⟩ := List.mem_map.mp ha
        obtain ⟨hj1, hj2⟩ := List.mem_filter.mp hj
        have hj1' := List.mem_range.mp hj1
        rw [hp] at hj2
        have := far_lt hu hr hi (by omega) (of_decide_eq_true hj2)
        have := zA2 (row := row) (r := r) (i := j + 1) (j := gl row r (i + 1)) (by omega)
        omega
  rw [e]
  have := h2.2.2.1
  omega
theorem zEd {n : Nat} (hu : Up row n) (hr : 0 ≤ r) {i : Nat} (hi : i < n) {p : Nat → Bool} (hp : ∀ j, p j = decide (row i - row j ≤ r)) : 1 + minL (((List.range (i + 1)).filter p).map fun j => (cn row r j : Int)) = (cn row r (i + 1) : Nat) := by
  have h2 := zBb (row := row) (r := r) (j := i + 1) (by omega)
  have e : minL (((List.range (i + 1)).filter p).map fun j => (cn row r j : Int)) = (cn row r (gl row r (i + 1)) : Nat) := by
    refine zHc (List.mem_map.mpr ⟨gl row r (i + 1), List.mem_filter.mpr ⟨List.mem_range.mpr h2.1, ?_⟩, rfl⟩) fun a ha => ?_
    · rw [hp]; exact decide_eq_true (zEl hr i)
    · obtain ⟨j, hj, rfl⟩ := List.mem_map.mp ha
      obtain ⟨hj1, hj2⟩ := List.mem_filter.mp hj
      have hj1' := List.mem_range.mp hj1
      rw [hp] at hj2
      have hn := of_decide_eq_true hj2
      by_cases q : gl row r (i + 1) ≤ j
      · have := zA2 (row := row) (r := r) q
        omega
      · have h3 := zBb (row := row) (r := r) (j := gl row r (i + 1)) (by omega)
        have h4 := zGa (row := row) (r := r) hu hi (by omega)
        have : gl row r (gl row r (i + 1)) + 1 ≤ j := by
          by_cases q2 : j ≤ gl row r (gl row r (i + 1))
          · have := hu j (gl row r (gl row r (i + 1))) q2 (by omega)
            omega
          · omega
        have := zA2 (row := row) (r := r) this
        rw [h3.2.2.2.1] at this
        omega
  rw [e]
  have := h2.2.2.1
  omega
noncomputable def zU (row : Nat → Int) (r : Int) (n : Nat) : List Nat := (List.range n).filter (kp row r)
theorem zC7 (n : Nat) : zU row r (n + 1) = zU row r n ++ if kp row r n = true then [n] else [] := by
  unfold zU
  rw [List.range_succ, List.filter_append]
  congr 1
  by_cases h : kp row r n = true
  · rw [if_pos h, List.filter_cons_of_pos h]; rfl
  · rw [if_neg h, List.filter_cons_of_neg h]; rfl
theorem zBL : ∀ n, (zU row r n).length = cn row r n
  | 0 => rfl
  | n + 1 => by
    rw [zC7, List.length_append, zBL n]
    have := (zD2 (row := row) (r := r) n).1
    split at this <;> rename_i h
    · rw [if_pos h, this]; rfl
    · rw [if_neg h, this]; rfl
theorem zIc : ∀ (n t : Nat), t < (zU row r n).length → cn row r ((zU row r n).getD t 0) = t ∧ kp row r ((zU row r n).getD t 0) = true ∧ (zU row r n).getD t 0 < n
  | 0, t, h => absurd h (by simp [zU])
  | n + 1, t, h => by
    rw [zC7] at h ⊢
    by_cases q : t < (zU row r n).length
    · have ih := zIc n t q
      have e : (zU row r n ++ if kp row r n = true then [n] else []).getD t 0 = (zU row r n).getD t 0 := by
        rw [List.getD_eq_getElem?_getD, List.getD_eq_getElem?_getD, List.getElem?_append_left q]
      rw [e]
      exact ⟨ih.1, ih.2.1, by omega⟩
    · by_cases hk : kp row r n = true
      · rw [if_pos hk] at h ⊢
        have ht : t = (zU row r n).length := by rw [List.length_append] at h; simp at h; omega
        have e : (zU row r n ++ [n]).getD t 0 = n := by
          rw [List.getD_eq_getElem?_getD, ht, List.getElem?_append_right (Nat.le_refl _), Nat.sub_self]; rfl
        rw [e, ht, zBL]
        exact ⟨rfl, hk, by omega⟩
      · rw [if_neg hk, List.append_nil] at h
        exact absurd h q
theorem left_max {n : Nat} (hn : 0 < n) : maxL ((List.range n).map fun i => (cn row r (i + 1) : Int)) = ((zU row r n).length : Nat) := by
  rw [zBL]
  refine zFm (List.mem_map.mpr ⟨n - 1, List.mem_range.mpr (by omega), by rw [show n - 1 + 1 = n by omega]⟩) fun a ha => ?_
  obtain ⟨i, hi, rfl⟩ := List.mem_map.mp ha
  have hi' := List.mem_range.mp hi
  have := zA2 (row := row) (r := r) (i := i + 1) (j := n) (by omega)
  omega
theorem zHA {n t : Nat} (h : t < (zU row r n).length) : (zU row r n).getD t 0 < n ∧ ((cn row r ((zU row r n).getD t 0 + 1) : Nat) : Int) = (t : Int) + 1 ∧ ∀ i < (zU row r n).getD t 0, ((cn row r (i + 1) : Nat) : Int) ≠ (t : Int) + 1 := by
  obtain ⟨h1, h2, h3⟩ := zIc n t h
  refine ⟨h3, by rw [(zIi h2).1, h1]; push_cast; rfl, fun i hi => ?_⟩
  have := zA2 (row := row) (r := r) (i := i + 1) (j := (zU row r n).getD t 0) (by omega)
  omega
theorem cn_one : cn row r 1 = 1 := rfl
theorem rev_lt' {n k : Nat} (h : k < n) : n - 1 - k < n := Nat.lt_of_le_of_lt (Nat.sub_le _ _) (Nat.sub_lt (Nat.zero_lt_of_lt h) Nat.one_pos)
theorem zGg {n k : Nat} (h : k < n) : n - 1 - k + 1 = n - k := by omega
theorem neg_gap {r x y : Int} (h : r < -x - -y) : r < y - x := by omega
theorem rev_sum {c d c1 e f : Nat} (m1 : c ≤ d) (h5 : d + 1 ≤ c1) (h6 : c1 + e ≤ f) : c + (e + 1) ≤ f := by omega
theorem rev_le {row' : Nat → Int} {n : Nat} (hn : 0 < n) (hu : Up row n) (hr : 0 ≤ r) (h : ∀ i, i < n → row' i = - row (n - 1 - i)) : cn row' r n ≤ cn row r n := by
  have P : ∀ j, j < n → cn row r (n - j) + cn row' r (j + 1) ≤ cn row r n + 1 := by
    intro j
    induction j using Nat.strongRecOn with
    | ind j ih =>
      intro hj
      obtain ⟨a0, a1, a2, a3, -⟩ := zBb (row := row') (r := r) (j := j + 1) (Nat.succ_pos j)
      generalize gl row' r (j + 1) = a at a0 a1 a2 a3
      have han : a < n := Nat.lt_of_le_of_lt (Nat.le_of_lt_succ a0) hj
      have m1 := zA2 (row := row) (r := r) (Nat.sub_le_sub_left (Nat.le_of_lt_succ a0) n)
      by_cases q : 1 ≤ a
      · have h4 := zE1 q a1
        obtain ⟨b0, b1, b2, b3, -⟩ := zBb (row := row') (r := r) (j := a) q
        generalize gl row' r a = b at b0 b1 b2 b3 h4
        have hbn := Nat.lt_trans b0 han
        rw [h _ han, h _ hbn] at h4
        have h5 := zIS hu hr (rev_lt' hbn) (Nat.sub_le_sub_left (Nat.le_of_lt b0) _) (neg_gap h4)
        rw [zGg han, zGg hbn] at h5
        have h6 := ih b (Nat.lt_of_lt_of_le b0 (Nat.le_of_lt_succ a0)) hbn
        rw [b3] at h6
        rw [a2.symm]
        exact rev_sum m1 h5 h6
      · have e : a = 0 := Nat.lt_one_iff.mp (Nat.lt_of_not_le q)
        rw [e] at a2
        rw [← a2]
        exact Nat.add_le_add (zA2 (Nat.sub_le _ _)) (Nat.le_refl 1)
  have := P (n - 1) (by omega)
  rw [show n - (n - 1) = 1 by omega, show n - 1 + 1 = n by omega, cn_one] at this
  omega
end
section
variable {α : Type} {eq : α → α → Bool} {f : α → Int} {r : Int} {xs : List α} {d : α}
theorem zGH (hr : 0 ≤ r) (heq : ∀ x y, eq x y = decide (zAU (f x - f y) ≤ r)) (hu : Up (fun i => f (xs.getD i d)) xs.length) : ∀ j, j ≤ xs.length → ddN eq xs j = (zU (fun i => f (xs.getD i d)) r j).map fun i => xs.getD i d
  | 0, _ => rfl
  | j + 1, hj => by
    have ih := zGH hr heq hu j (by omega)
    rw [zGC (d := d) (by omega), ih, zC7]
    have key : ((zU (fun i => f (xs.getD i d)) r j).map fun i => xs.getD i d).any (fun y => eq y (xs.getD j d)) = !(kp (fun i => f (xs.getD i d)) r j) := by
      cases hk : kp (fun i => f (xs.getD i d)) r j with
      | true =>
        rw [Bool.not_true, List.any_eq_false]
        intro y hy
        obtain ⟨i, hi, rfl⟩ := List.mem_map.mp hy
        obtain ⟨h1, h2⟩ := List.mem_filter.mp hi
        have h1' := List.mem_range.mp h1
        have hj1 : 1 ≤ j := by omega
        have g := zE1 hj1 hk
        have l := (zBb (row := fun i => f (xs.getD i d)) (r := r) hj1).2.2.2.2 i h1' h2
        have u := hu i (gl (fun i => f (xs.getD i d)) r j) l (by have := (zBb (row := fun i => f (xs.getD i d)) (r := r) hj1).1; omega)
        dsimp only at g u
        rw [heq]
        unfold zAU
        simp only [decide_eq_true_eq]
        split <;> omega
      | false =>
        rw [Bool.not_false, List.any_eq_true]
        have hj1 : 1 ≤ j := by
          cases j with
          | zero => rw [zHl] at hk; cases hk
          | succ j => omega
        have o := zBb (row := fun i => f (xs.getD i d)) (r := r) hj1
        have g := zF6 hk
        have u := hu (gl (fun i => f (xs.getD i d)) r j) j (by omega) (by omega)
        dsimp only at g u
        refine ⟨_, List.mem_map.mpr ⟨gl (fun i => f (xs.getD i d)) r j, List.mem_filter.mpr ⟨List.mem_range.mpr o.1, o.2.1⟩, rfl⟩, ?_⟩
        rw [heq]
        unfold zAU
        refine decide_eq_true ?_
        split <;> omega
    rw [key]
    cases kp (fun i => f (xs.getD i d)) r j with
    | true => simp
    | false => simp
theorem zID (hr : 0 ≤ r) (heq : ∀ x y, eq x y = decide (zAU (f x - f y) ≤ r)) (hu : Up (fun i => f (xs.getD i d)) xs.length) : ddE eq xs = (zU (fun i => f (xs.getD i d)) r xs.length).map fun i => xs.getD i d := by
  have h := zGH hr heq hu xs.length (Nat.le_refl _)
  unfold ddN at h
  rw [List.take_length] at h
  exact h
theorem zGc (L : List α) (x : α) : ddE eq (L ++ [x]) = if (ddE eq L).any (fun y => eq y x) then ddE eq L else ddE eq L ++ [x] := by
  unfold ddE
  rw [List.foldl_append]; rfl
theorem zIV : ∀ (L : List α), (ddE eq L).Pairwise fun a b => eq a b = false := by
  have : ∀ (L acc : List α), acc.Pairwise (fun a b => eq a b = false) → (L.foldl (fun acc x => if acc.any (fun y => eq y x) then acc else acc ++ [x]) acc).Pairwise fun a b => eq a b = false := by
    intro L
    induction L with
    | nil => intro acc h; exact h
    | cons x L ih =>
      intro acc h
      refine ih _ ?_
      show (if acc.any (fun y => eq y x) then acc else acc ++ [x]).Pairwise _
      split
      · exact h
      · rename_i q
        rw [List.pairwise_append]
        refine ⟨h, List.pairwise_singleton _ _, fun a ha b hb => ?_⟩
        rw [List.mem_singleton.mp hb]
        have := List.any_eq_false.mp (by simpa using q : acc.any (fun y => eq y x) = false) a ha
        simpa using this
  exact fun L => this L [] .nil
theorem ddE_self {L : List α} (h : L.Pairwise fun a b => eq a b = false) : ddE eq L = L := by
  have : ∀ (L acc : List α), (acc ++ L).Pairwise (fun a b => eq a b = false) → L.foldl (fun acc x => if acc.any (fun y => eq y x) then acc else acc ++ [x]) acc = acc ++ L := by
    intro L
    induction L with
    | nil => intro acc h; simp
    | cons x L ih =>
      intro acc h
      have hn : acc.any (fun y => eq y x) = false := by
        rw [List.any_eq_false]
        intro a ha
        have := (List.pairwise_append.mp h).2.2 a ha x (.head _)
        rw [this]; decide
      rw [List.foldl_cons, hn]
      have e : acc ++ x :: L = (acc ++ [x]) ++ L := by simp
      rw [e] at h ⊢
      exact ih _ h
  exact this L [] h
theorem zIb (L : List α) : L.foldl (fun kept one => ddE eq (kept ++ [one])) [] = ddE eq L := by
  have : ∀ (L R : List α), L.foldl (fun kept one => ddE eq (kept ++ [one])) (ddE eq R) = ddE eq (R ++ L) := by
    intro L
    induction L with
    | nil => intro R; simp
    | cons x L ih =>
      intro R
      rw [List.foldl_cons]
      have e : ddE eq (ddE eq R ++ [x]) = ddE eq (R ++ [x]) := by
        rw [zGc, zGc, ddE_self (zIV R)]
      rw [e, ih]
      simp
  have h := this L []
  rw [List.nil_append] at h
  exact h
noncomputable def zDM (r : Int) : List Int → List Int → Bool
  | [], [] => true
  | a :: as, b :: bs => decide (zAU (a - b) ≤ r) && zDM r as bs
  | _, _ => false
theorem rmF_hit {x b : α} {bs : List α} (h : eq b x = true) : rmF eq (b :: bs) x = some bs := by
  unfold rmF rmE
  show ((if eq b x = true then some 0 else zAd (fun y => eq y x) 1 bs).map fun p => (b :: bs).eraseIdx p) = _
  rw [if_pos h]; rfl
theorem zEa {p : α → Bool} : ∀ (l : List α) (i : Nat), zAd p (i + 1) l = (zAd p i l).map (· + 1)
  | [], _ => rfl
  | y :: ys, i => by
    show (if p y = true then some (i + 1) else zAd p (i + 1 + 1) ys) = ((if p y = true then some i else zAd p (i + 1) ys).map (· + 1))
    split
    · rfl
    · exact zEa ys (i + 1)
theorem zGX {x b : α} {bs : List α} (h : eq b x = false) : rmF eq (b :: bs) x = (rmF eq bs x).map (b :: ·) := by
  unfold rmF rmE
  show ((if eq b x = true then some 0 else zAd (fun y => eq y x) 1 bs).map fun p => (b :: bs).eraseIdx p) = _
  rw [if_neg (by rw [h]; decide), zEa]
  cases zAd (fun y => eq y x) 0 bs <;> rfl
theorem rmF_none {x : α} {bs : List α} (h : ∀ y ∈ bs, eq y x = false) : rmF eq bs x = none := by
  induction bs with
  | nil => rfl
  | cons b bs ih => rw [zGX (h b (.head _)), ih fun y hy => h y (.tail _ hy)]; rfl
theorem zFE {b : α} : ∀ {as bs : List α}, (∀ a ∈ as, eq b a = false) → as.foldlM (rmF eq) (b :: bs) = (as.foldlM (rmF eq) bs).map (b :: ·)
  | [], bs, _ => rfl
  | a :: as, bs, h => by
    rw [List.foldlM_cons, List.foldlM_cons, zGX (h a (.head _))]
    cases q : rmF eq bs a with
    | none => rfl
    | some c => exact zFE fun a' ha' => h a' (.tail _ ha')
theorem zFY (hr : 0 ≤ r) (heq : ∀ x y, eq x y = decide (zAU (f x - f y) ≤ r)) : ∀ {as bs : List α}, (as.Pairwise fun a b => r < f b - f a) → (bs.Pairwise fun a b => r < f b - f a) → (match as.foldlM (rmF eq) bs with | some c => c.isEmpty | none => false) = zDM r (as.map f) (bs.map f)
  | [], [], _, _ => rfl
  | [], b :: bs, _, _ => rfl
  | a :: as, [], _, _ => rfl
  | a :: as, b :: bs, ha, hb => by
    obtain ⟨ha1, ha2⟩ := List.pairwise_cons.mp ha
    obtain ⟨hb1, hb2⟩ := List.pairwise_cons.mp hb
    rw [List.map_cons, List.map_cons]
    show _ = (decide (zAU (f a - f b) ≤ r) && zDM r (as.map f) (bs.map f))
    by_cases h : eq b a = true
    · rw [List.foldlM_cons, rmF_hit h]
      have h' := h
      rw [heq] at h'
      have h2 : decide (zAU (f a - f b) ≤ r) = true := by
        refine decide_eq_true ?_
        have := of_decide_eq_true h'
        unfold zAU at this ⊢
        split at this <;> split <;> omega
      rw [h2, Bool.true_and]
      exact zFY hr heq ha2 hb2
    · have h' : eq b a = false := by simpa using h
      have h0 := h'
      rw [heq] at h'
      have h3 := of_decide_eq_false h'
      have h2 : decide (zAU (f a - f b) ≤ r) = false := by
        refine decide_eq_false ?_
        unfold zAU at h3 ⊢
        split at h3 <;> split <;> omega
      rw [h2, Bool.false_and]
      by_cases hlt : f a < f b
      · have hn : ∀ y ∈ b :: bs, eq y a = false := fun y hy => by
          rw [heq]
          refine decide_eq_false ?_
          rcases List.mem_cons.mp hy with rfl | hy
          · exact h3
          · have := hb1 y hy
            unfold zAU at h3 ⊢
            split at h3 <;> split <;> omega
        rw [List.foldlM_cons, rmF_none hn]; rfl
      · have hk : ∀ a' ∈ a :: as, eq b a' = false := fun a' ha' => by
          rw [heq]
          refine decide_eq_false ?_
          rcases List.mem_cons.mp ha' with rfl | ha'
          · exact h3
          · have := ha1 a' ha'
            unfold zAU at h3 ⊢
            split at h3 <;> split <;> omega
        rw [zFE hk]
        cases (a :: as).foldlM (rmF eq) bs <;> rfl
theorem zDg {r : Int} : ∀ (as bs : List Int), zDM r as bs = zDM r bs as
  | [], [] => rfl
  | [], _ :: _ => rfl
  | _ :: _, [] => rfl
  | a :: as, b :: bs => by
    show (decide (zAU (a - b) ≤ r) && zDM r as bs) = (decide (zAU (b - a) ≤ r) && zDM r bs as)
    rw [zDg as bs]
    congr 1
    apply decide_eq_decide.mpr
    unfold zAU
    constructor <;> (intro h; split at h <;> split <;> omega)
noncomputable def zBW (r : Int) (as bs : List Int) : Bool := decide (as.length = bs.length) && decide (maxL ((List.range (min as.length bs.length)).map fun i => zAU (as.getD i 0 - bs.getD i 0)) ≤ r)
theorem zEp {r : Int} : ∀ {as bs : List Int}, zDM r as bs = true ↔ (as.length = bs.length ∧ ∀ i, i < as.length → zAU (as.getD i 0 - bs.getD i 0) ≤ r)
  | [], [] => ⟨fun _ => ⟨rfl, fun i h => absurd h (by simp)⟩, fun _ => rfl⟩
  | [], _ :: _ => ⟨fun h => (nomatch h), fun h => absurd h.1 (by simp)⟩
  | _ :: _, [] => ⟨fun h => (nomatch h), fun h => absurd h.1 (by simp)⟩
  | a :: as, b :: bs => by
    show (decide (zAU (a - b) ≤ r) && zDM r as bs) = true ↔ _
    rw [Bool.and_eq_true, decide_eq_true_eq, zEp]
    constructor
    · rintro ⟨h1, h2, h3⟩
      refine ⟨by simp [h2], fun i hi => ?_⟩
      cases i with
      | zero => exact h1
      | succ i => exact h3 i (by simpa using hi)
    · rintro ⟨h1, h2⟩
      exact ⟨h2 0 (by simp), by simpa using h1, fun i hi => h2 (i + 1) (by simpa using hi)⟩
theorem zF2 {r : Int} {as bs : List Int} (ha : 0 < as.length) : zBW r as bs = zDM r as bs := by
  rw [Bool.eq_iff_iff, zEp]
  unfold zBW
  rw [Bool.and_eq_true, decide_eq_true_eq, decide_eq_true_eq]
  refine and_congr_right fun hl => ?_
  rw [hl, Nat.min_self]
  constructor
  · intro h i hi
    have hm : zAU (as.getD i 0 - bs.getD i 0) ∈ (List.range bs.length).map fun i => zAU (as.getD i 0 - bs.getD i 0) := List.mem_map.mpr ⟨i, List.mem_range.mpr hi, rfl⟩
    revert h hm
    generalize (List.range bs.length).map (fun i => zAU (as.getD i 0 - bs.getD i 0)) = l
    intro h hm
    cases l with
    | nil => cases hm
    | cons y ys =>
      obtain ⟨h1, h2, _⟩ := zCn (xs := ys) (x := y)
      have h' : ys.foldl max y ≤ r := h
      rcases List.mem_cons.mp hm with e | e
      · rw [e]; omega
      · have := h2 _ e; omega
  · intro h
    have hb : 0 < bs.length := by omega
    have hall : ∀ z ∈ (List.range bs.length).map (fun i => zAU (as.getD i 0 - bs.getD i 0)), z ≤ r := fun z hz => by
      obtain ⟨i, hi, rfl⟩ := List.mem_map.mp hz
      exact h i (List.mem_range.mp hi)
    have hne : (List.range bs.length).map (fun i => zAU (as.getD i 0 - bs.getD i 0)) ≠ [] := fun q => by
      have := congrArg List.length q
      simp at this; rw [this] at hb; simp at hb
    revert hall hne
    generalize (List.range bs.length).map (fun i => zAU (as.getD i 0 - bs.getD i 0)) = l
    intro hall hne
    cases l with
    | nil => exact absurd rfl hne
    | cons y ys =>
      obtain ⟨_, _, h3⟩ := zCn (xs := ys) (x := y)
      show ys.foldl max y ≤ r
      rcases h3 with h3 | h3
      · rw [h3]; exact hall y (.head _)
      · exact hall _ (.tail _ h3)
end
theorem zGW : ∀ (as bs : List Int), zAK as bs = b2i (zGQ (fun x y : Int => x == y) (fun x y => decide (y < x)) (decide (bs.length < as.length)) as bs) - b2i (zGQ (fun x y : Int => x == y) (fun x y => decide (x < y)) (decide (as.length < bs.length)) as bs)
  | [], [] => rfl
  | [], _ :: _ => rfl
  | _ :: _, [] => rfl
  | a :: as, b :: bs => by
    have ih := zGW as bs
    have e1 : decide ((b :: bs).length < (a :: as).length) = decide (bs.length < as.length) := by apply decide_eq_decide.mpr; simp
    have e2 : decide ((a :: as).length < (b :: bs).length) = decide (as.length < bs.length) := by apply decide_eq_decide.mpr; simp
    rw [e1, e2]
    show (if a = b then zAK as bs else if a < b then -1 else 1) = b2i (if (a == b) = true then zGQ _ _ _ as bs else decide (b < a)) - b2i (if (a == b) = true then zGQ _ _ _ as bs else decide (a < b))
    by_cases q : a = b
    · have : (a == b) = true := by simpa using q
      rw [if_pos q, if_pos this, if_pos this]; exact ih
    · have : ¬ (a == b) = true := by simpa using q
      rw [if_neg q, if_neg this, if_neg this]
      by_cases q2 : a < b
      · rw [if_pos q2, decide_eq_true q2, decide_eq_false (by omega)]; rfl
      · rw [if_neg q2, decide_eq_false q2, decide_eq_true (by omega)]; rfl
noncomputable def zAv (n b : Nat) : List Nat := (List.range (n - b)).map (b + ·)
noncomputable def mg1 (r : Int) : List T3 → List T3 → List Nat
  | [], _ => []
  | a :: as, [] => (a :: as).map (·.2.2)
  | a :: as, b :: bs => if r < b.1 - a.1 then a.2.2 :: mg1 r as (b :: bs) else if r < a.1 - b.1 then mg1 r (a :: as) bs else mg1 r as bs
termination_by as bs => as.length + bs.length
noncomputable def sl1 (r : Int) (n : Nat) : List T3 → List T3 → List Nat
  | [], _ => []
  | a :: _, [] => zAv n a.2.2
  | a :: as, b :: bs => if r < b.1 - a.1 then a.2.2 :: sl1 r n as (b :: bs) else if r < a.1 - b.1 then sl1 r n (a :: as) bs else sl1 r n as bs
termination_by as bs => as.length + bs.length
section
variable {r : Int}
theorem zB7 {bs : List T3} : mg1 r [] bs = [] := by unfold mg1; rfl
theorem zCg {as : List T3} : mg1 r as [] = as.map (·.2.2) := by cases as <;> (unfold mg1; rfl)
theorem zBK {a b : T3} {as bs : List T3} : mg1 r (a :: as) (b :: bs) = if r < b.1 - a.1 then a.2.2 :: mg1 r as (b :: bs) else if r < a.1 - b.1 then mg1 r (a :: as) bs else mg1 r as bs := by
  conv => lhs; unfold mg1
theorem zCF {n : Nat} {bs : List T3} : sl1 r n [] bs = [] := by unfold sl1; rfl
theorem zEC {n : Nat} {a : T3} {as : List T3} : sl1 r n (a :: as) [] = zAv n a.2.2 := by unfold sl1; rfl
theorem zD5 {n : Nat} {a b : T3} {as bs : List T3} : sl1 r n (a :: as) (b :: bs) = if r < b.1 - a.1 then a.2.2 :: sl1 r n as (b :: bs) else if r < a.1 - b.1 then sl1 r n (a :: as) bs else sl1 r n as bs := by
  conv => lhs; unfold sl1
noncomputable def gapB (r : Int) (t : T3) : List T3 → Bool
  | [] => true
  | u :: _ => decide (r < u.1 - t.1)
noncomputable def zBR (r : Int) (s : Nat) : Int → List T3 → List Nat
  | _, [] => []
  | sz, t :: M => if gapB r t M = true then (if (zG9 (sz + 1) && (t.2.1 == s)) = true then [t.2.2] else []) ++ zBR r s 0 M else zBR r s (sz + 1) M
theorem scan_L {pts : List T3} {s : Nat} : ∀ (m k : Nat), k + m = pts.length → (zAT pts r pts.length).2 s = (zAT pts r k).2 s ++ zBR r s (zAT pts r k).1 (pts.drop k)
  | 0, k, h => by
    have e : k = pts.length := by omega
    rw [e, List.drop_length]
    show _ = _ ++ []
    rw [List.append_nil]
  | m + 1, k, h => by
    have hk : k < pts.length := by omega
    rw [scan_L m (k + 1) (by omega), List.drop_eq_getElem_cons hk]
    have eg : endB pts r k = gapB r pts[k] (pts.drop (k + 1)) := by
      unfold endB
      have e0 : pts.getD k d3 = pts[k] := by rw [List.getD_eq_getElem?_getD, List.getElem?_eq_getElem hk]; rfl
      by_cases q : k + 1 = pts.length
      · have : (((k : Int) + 1) == (pts.length : Nat)) = true := by simp; omega
        rw [this, Bool.true_or, q, List.drop_length]; rfl
      · have hk1 : k + 1 < pts.length := by omega
        have : (((k : Int) + 1) == (pts.length : Nat)) = false := by simp; omega
        rw [this, Bool.false_or, Bool.or_false, List.drop_eq_getElem_cons hk1, e0]
        have e1 : pts.getD (k + 1) d3 = pts[k + 1] := by rw [List.getD_eq_getElem?_getD, List.getElem?_eq_getElem hk1]; rfl
        rw [e1]; rfl
    have e0 : pts.getD k d3 = pts[k] := by rw [List.getD_eq_getElem?_getD, List.getElem?_eq_getElem hk]; rfl
    have es : zAT pts r (k + 1) = if endB pts r k then (0, zBu (zG9 ((zAT pts r k).1 + 1)) pts[k] (zAT pts r k).2) else ((zAT pts r k).1 + 1, (zAT pts r k).2) := by rw [← e0]; rfl
    have er : zBR r s (zAT pts r k).1 (pts[k] :: pts.drop (k + 1)) = if gapB r pts[k] (pts.drop (k + 1)) = true then (if (zG9 ((zAT pts r k).1 + 1) && (pts[k].2.1 == s)) = true then [pts[k].2.2] else []) ++ zBR r s 0 (pts.drop (k + 1)) else zBR r s ((zAT pts r k).1 + 1) (pts.drop (k + 1)) := rfl
    rw [er, ← eg]
    cases q : endB pts r k with
    | true =>
      rw [q] at es
      rw [es]
      show zBu _ _ _ s ++ zBR r s 0 _ = _
      unfold zBu
      rw [List.append_assoc]; rfl
    | false =>
      rw [q] at es
      rw [es]; rfl
theorem zGP {z : Int} : zG9 z = decide (z % 2 = 1) := by
  unfold zG9
  rw [Int.fmod_eq_emod_of_nonneg z (by decide : (0 : Int) ≤ 2)]
  rfl
noncomputable def fs (s : Nat) (M : List T3) : List T3 := M.filter fun t => t.2.1 == s
theorem zDW {s : Nat} {t : T3} {M : List T3} (h : t.2.1 = s) : fs s (t :: M) = t :: fs s M := by unfold fs; rw [List.filter_cons_of_pos (by simpa using h)]
theorem zGw {s : Nat} {t : T3} {M : List T3} (h : t.2.1 ≠ s) : fs s (t :: M) = fs s M := by unfold fs; rw [List.filter_cons_of_neg (by simpa using h)]
theorem gap_not {r a b : Int} (hr : 0 ≤ r) (h : r < a - b) : ¬ r < b - a := by omega
theorem le_not {r a b : Int} (hr : 0 ≤ r) (h : a ≤ b) : ¬ r < a - b := by omega
theorem zGj {s t : Nat} (hs : s < 2) (ht : t < 2) : (t = s → ¬ t = 1 - s) ∧ (¬ t = s → t = 1 - s) :=
  (by decide : ∀ s < 2, ∀ t < 2, (t = s → ¬ t = 1 - s) ∧ (¬ t = s → t = 1 - s)) s hs t ht
theorem sides {s t u : Nat} (hs : s < 2) (ht : t < 2) (hu : u < 2) (hne : t ≠ u) : (t = s → ¬ u = s ∧ ¬ t = 1 - s ∧ u = 1 - s) ∧ (¬ t = s → u = s ∧ t = 1 - s ∧ ¬ u = 1 - s) :=
  ⟨fun q => have h : ¬ u = s := fun e => hne (q.trans e.symm); ⟨h, (zGj hs ht).1 q, (zGj hs hu).2 h⟩,
   fun q => have h1 := (zGj hs ht).2 q; have h : ¬ u = 1 - s := fun e => hne (h1.trans e.symm); ⟨Decidable.byContradiction fun x => h ((zGj hs hu).2 x), h1, h⟩⟩
theorem zDw {z : Int} (h : z % 2 = 0) : (z + 1) % 2 = 1 ∧ ¬ (z + 1 + 1) % 2 = 1 ∧ (z + 1 + 1) % 2 = 0 := by omega
theorem scan_mg {s : Nat} (hr : 0 ≤ r) (hs : s < 2) : ∀ (m : Nat) (M : List T3) (sz : Int), M.length ≤ m → sz % 2 = 0 → M.Pairwise (fun a b => a.1 ≤ b.1) → M.Pairwise (fun a b => a.2.1 = b.2.1 → r < b.1 - a.1) → (∀ t ∈ M, t.2.1 < 2) → zBR r s sz M = mg1 r (fs s M) (fs (1 - s) M) := by
  intro m
  induction m with
  | zero =>
    intro M sz h hz _ _ _
    obtain rfl := List.eq_nil_of_length_eq_zero (Nat.le_zero.mp h)
    show [] = mg1 r [] []; rw [zB7]
  | succ m ih =>
    intro M sz hm hz h1 h2 h3
    cases M with
    | nil => show [] = mg1 r [] []; rw [zB7]
    | cons t M =>
      obtain ⟨a1, a2⟩ := List.pairwise_cons.mp h1
      obtain ⟨b1, b2⟩ := List.pairwise_cons.mp h2
      have hlen : M.length ≤ m := by simpa using hm
      have hts := h3 t (.head _)
      have h3' : ∀ t ∈ M, t.2.1 < 2 := fun u hu => h3 u (.tail _ hu)
      have hodd : zG9 (sz + 1) = true := by rw [zGP]; exact decide_eq_true (zDw hz).1
      have er : zBR r s sz (t :: M) = if gapB r t M = true then (if (zG9 (sz + 1) && (t.2.1 == s)) = true then [t.2.2] else []) ++ zBR r s 0 M else zBR r s (sz + 1) M := rfl
      rw [er]
      by_cases hg : gapB r t M = true
      · rw [if_pos hg, hodd, Bool.true_and, ih M 0 hlen (by decide) a2 b2 h3']
        have far : ∀ u ∈ M, r < u.1 - t.1 := fun u hu => by
          cases M with
          | nil => cases hu
          | cons v M =>
            have hv := of_decide_eq_true hg
            rcases List.mem_cons.mp hu with rfl | hu
            · exact hv
            · have := (List.pairwise_cons.mp a2).1 u hu
              omega
        by_cases q : t.2.1 = s
        · rw [if_pos (by simpa using q), zDW q, zGw (s := 1 - s) ((zGj hs hts).1 q)]
          have hB : ∀ u ∈ fs (1 - s) M, r < u.1 - t.1 := fun u hu => far u (List.mem_filter.mp hu).1
          generalize fs (1 - s) M = B at hB
          cases B with
          | nil => rw [zCg, zCg]; rfl
          | cons b B => rw [zBK, if_pos (hB b (.head _))]; rfl
        · have q2 : t.2.1 = 1 - s := (zGj hs hts).2 q
          rw [if_neg (by simpa using q), List.nil_append, zGw q, zDW q2]
          have hA : ∀ u ∈ fs s M, r < u.1 - t.1 := fun u hu => far u (List.mem_filter.mp hu).1
          generalize fs s M = A at hA
          cases A with
          | nil => rw [zB7, zB7]
          | cons a A =>
            have := hA a (.head _)
            rw [zBK (b := t), if_neg (gap_not hr this), if_pos this]
      · rw [if_neg hg]
        cases M with
        | nil => exact absurd rfl hg
        | cons u M =>
          have hg' : ¬ r < u.1 - t.1 := fun h => hg (decide_eq_true h)
          have htu := a1 u (.head _)
          have hne : t.2.1 ≠ u.2.1 := fun e => hg' (b1 u (.head _) e)
          have hus := h3' u (.head _)
          obtain ⟨c1, c2⟩ := List.pairwise_cons.mp a2
          obtain ⟨e1, e2⟩ := List.pairwise_cons.mp b2
          have h3'' : ∀ t ∈ M, t.2.1 < 2 := fun v hv => h3' v (.tail _ hv)
          have hl2 : M.length ≤ m := Nat.le_of_succ_le hlen
          have hev : zG9 (sz + 1 + 1) = false := by rw [zGP]; exact decide_eq_false (zDw hz).2.1
          have er2 : zBR r s (sz + 1) (u :: M) = if gapB r u M = true then (if (zG9 (sz + 1 + 1) && (u.2.1 == s)) = true then [u.2.2] else []) ++ zBR r s 0 M else zBR r s (sz + 1 + 1) M := rfl
          have hrun : zBR r s (sz + 1) (u :: M) = mg1 r (fs s M) (fs (1 - s) M) := by
            rw [er2, hev, Bool.false_and]
            by_cases hg2 : gapB r u M = true
            · rw [if_pos hg2, if_neg (by decide), List.nil_append]
              exact ih M 0 hl2 (by decide) c2 e2 h3''
            · rw [if_neg hg2]
              exact ih M (sz + 1 + 1) hl2 (zDw hz).2.2 c2 e2 h3''
          rw [hrun]
          by_cases q : t.2.1 = s
          · obtain ⟨x1, x2, x3⟩ := (sides hs hts hus hne).1 q
            rw [zDW q, zGw (s := s) (t := u) x1, zGw (s := 1 - s) (t := t) x2, zDW (s := 1 - s) (t := u) x3, zBK, if_neg hg', if_neg (le_not hr htu)]
          · obtain ⟨x1, x2, x3⟩ := (sides hs hts hus hne).2 q
            rw [zGw q, zDW (s := s) (t := u) x1, zDW (s := 1 - s) (t := t) x2, zGw (s := 1 - s) (t := u) x3, zBK, if_neg (le_not hr htu), if_neg hg']
theorem zEJ : ∀ (m : Nat) (as bs : List T3), as.length + bs.length ≤ m → ∀ i ∈ mg1 r as bs, ∃ a ∈ as, a.2.2 = i
  | _, [], bs, _, i, h => by rw [zB7] at h; cases h
  | _, a :: as, [], _, i, h => by
    rw [zCg] at h
    obtain ⟨t, ht, e⟩ := List.mem_map.mp h
    exact ⟨t, ht, e⟩
  | 0, a :: as, b :: bs, hm, _, _ => absurd hm (by simp)
  | m + 1, a :: as, b :: bs, hm, i, h => by
    simp only [List.length_cons] at hm
    rw [zBK] at h
    split at h
    · rcases List.mem_cons.mp h with rfl | h
      · exact ⟨a, .head _, rfl⟩
      · obtain ⟨t, ht, e⟩ := zEJ m as (b :: bs) (by simp only [List.length_cons]; omega) i h
        exact ⟨t, .tail _ ht, e⟩
    · split at h
      · exact zEJ m (a :: as) bs (by simp only [List.length_cons]; omega) i h
      · obtain ⟨t, ht, e⟩ := zEJ m as bs (by omega) i h
        exact ⟨t, .tail _ ht, e⟩
noncomputable def finL (n : Nat) (last : Int) (v : Nat → Int) (l : List Nat) : List Nat :=
  match l.filter fun i => decide (last < v i) with
  | [] => l
  | b :: _ => l.filter (fun i => decide (i < b)) ++ zAv n b
theorem zGO {n : Nat} {last : Int} {v : Nat → Int} (hr : 0 ≤ r) : ∀ (m : Nat) (as bs : List T3), as.length + bs.length ≤ m → as.Pairwise (fun a b => a.2.2 < b.2.2) → as.Pairwise (fun a b => r < b.1 - a.1) → bs.Pairwise (fun a b => r < b.1 - a.1) → (∀ a ∈ as, a.1 = v a.2.2) → (bs = [] → ∀ a ∈ as, last < a.1) → (∀ b, bs.getLast? = some b → b.1 = last) → sl1 r n as bs = finL n last v (mg1 r as bs)
  | _, [], bs, _, _, _, _, _, _, _ => by rw [zCF, zB7]; rfl
  | _, a :: as, [], _, h1, _, _, h4, h5, _ => by
    rw [zEC, zCg]
    have hall : ∀ i ∈ (a :: as).map (·.2.2), decide (last < v i) = true := fun i hi => by
      obtain ⟨t, ht, rfl⟩ := List.mem_map.mp hi
      rw [← h4 t ht]
      exact decide_eq_true (h5 rfl t ht)
    unfold finL
    rw [List.filter_eq_self.mpr hall]
    show zAv n a.2.2 = ((a :: as).map (·.2.2)).filter (fun i => decide (i < a.2.2)) ++ zAv n a.2.2
    have : ((a :: as).map (·.2.2)).filter (fun i => decide (i < a.2.2)) = [] := by
      rw [List.filter_eq_nil_iff]
      intro i hi
      obtain ⟨t, ht, rfl⟩ := List.mem_map.mp hi
      rcases List.mem_cons.mp ht with rfl | ht
      · simp
      · have := (List.pairwise_cons.mp h1).1 t ht
        simp; omega
    rw [this, List.nil_append]
  | 0, a :: as, b :: bs, hm, _, _, _, _, _, _ => absurd hm (by simp)
  | m + 1, a :: as, b :: bs, hm, h1, h2, h3, h4, h5, h6 => by
    simp only [List.length_cons] at hm
    obtain ⟨i1, i2⟩ := List.pairwise_cons.mp h1
    obtain ⟨j1, j2⟩ := List.pairwise_cons.mp h2
    obtain ⟨k1, k2⟩ := List.pairwise_cons.mp h3
    have hbl : b.1 ≤ last := by
      cases bs with
      | nil => rw [h6 b rfl]; omega
      | cons c cs =>
        have hc : ∃ z ∈ c :: cs, z.1 = last := by
          obtain ⟨z, hz⟩ : ∃ z, (c :: cs).getLast? = some z := ⟨(c :: cs).getLast (by simp), by rw [List.getLast?_eq_some_getLast (by simp)]⟩
          refine ⟨z, List.mem_of_getLast? hz, h6 z ?_⟩
          rw [List.getLast?_cons_cons]; exact hz
        obtain ⟨z, hz, e⟩ := hc
        have := k1 z hz
        omega
    have h6' : ∀ z, bs.getLast? = some z → z.1 = last := fun z hz => by
      cases bs with
      | nil => cases hz
      | cons c cs => exact h6 z (by rw [List.getLast?_cons_cons]; exact hz)
    have h4' : ∀ a ∈ as, a.1 = v a.2.2 := fun t ht => h4 t (.tail _ ht)
    rw [zD5, zBK]
    by_cases c1 : r < b.1 - a.1
    · rw [if_pos c1, if_pos c1, zGO hr m as (b :: bs) (by simp only [List.length_cons]; omega) i2 j2 h3 h4' (fun e => by cases e) h6]
      have hv : decide (last < v a.2.2) = false := by rw [← h4 a (.head _)]; exact decide_eq_false (by omega)
      unfold finL
      rw [List.filter_cons_of_neg (by rw [hv]; decide)]
      cases q : (mg1 r as (b :: bs)).filter fun i => decide (last < v i) with
      | nil => rfl
      | cons z zs =>
        have hz : z ∈ mg1 r as (b :: bs) := (List.mem_filter.mp (by rw [q]; exact .head _ : z ∈ (mg1 r as (b :: bs)).filter fun i => decide (last < v i))).1
        obtain ⟨t, ht, e⟩ := zEJ _ as (b :: bs) (Nat.le_refl _) z hz
        have hlt := i1 t ht
        dsimp only
        rw [List.filter_cons_of_pos (by rw [← e]; exact decide_eq_true hlt)]
        rfl
    · rw [if_neg c1, if_neg c1]
      by_cases c2 : r < a.1 - b.1
      · rw [if_pos c2, if_pos c2]
        refine zGO hr m (a :: as) bs (by simp only [List.length_cons]; omega) h1 h2 k2 h4 (fun e t ht => ?_) h6'
        subst e
        have e2 := h6 b rfl
        rcases List.mem_cons.mp ht with rfl | ht
        · omega
        · have := j1 t ht; omega
      · rw [if_neg c2, if_neg c2]
        refine zGO hr m as bs (by omega) i2 j2 k2 h4' (fun e t ht => ?_) h6'
        subst e
        have e2 := h6 b rfl
        have := j1 t ht
        omega
end
theorem zE0 {α : Type} {l : List α} (h : l.Nodup) {i j : Nat} (hi : i < l.length) (hj : j < l.length) (e : l[i] = l[j]) : i = j := by
  have hp := List.pairwise_iff_getElem.mp h
  rcases Nat.lt_trichotomy i j with q | q | q
  · exact absurd e (hp i j hi hj q)
  · exact q
  · exact absurd e.symm (hp j i hj hi q)
section
variable {key : Nat → Int} {N : Nat}
noncomputable def ltK (key : Nat → Int) (i j : Nat) : Bool := decide (key i < key j)
noncomputable def Ky (key : Nat → Int) (p : Array Nat) (k : Nat) : Int := key (p.getD k 0)
def UpTo (key : Nat → Int) (p : Array Nat) (m : Nat) : Prop := ∀ i j, i < j → j < m → Ky key p i < Ky key p j
def DnTo (key : Nat → Int) (p : Array Nat) (m : Nat) : Prop := ∀ i j, i < j → j < m → Ky key p j < Ky key p i
structure PmN (N : Nat) (p : Array Nat) : Prop where
  pm : p.Perm (List.range N).toArray
theorem PmN.size {p : Array Nat} (h : PmN N p) : p.size = N := by have := h.pm.size_eq; simpa using this
theorem PmN.ne {p : Array Nat} (h : PmN N p) (hk : ∀ x y, x < N → y < N → key x = key y → x = y) {i j : Nat} (hi : i < N) (hj : j < N) (hij : i ≠ j) : Ky key p i ≠ Ky key p j := by
  intro e
  have hs := h.size
  have hp : p.toList.Perm (List.range N) := by have := h.pm; rwa [Array.perm_iff_toList_perm] at this
  have hnd : p.toList.Nodup := hp.nodup_iff.mpr List.nodup_range
  have lt : ∀ k, k < N → p.getD k 0 < N ∧ p.toList[k]? = some (p.getD k 0) := fun k hk => by
    have hk' : k < p.size := by omega
    have e1 : p.toList[k]? = some (p.getD k 0) := by
      rw [Array.getElem?_toList, Array.getD_eq_getD_getElem?, Array.getElem?_eq_getElem hk']; rfl
    exact ⟨List.mem_range.mp (hp.mem_iff.mp (List.mem_of_getElem? e1)), e1⟩
  have e2 := hk _ _ (lt i hi).1 (lt j hj).1 e
  have h1 := (lt i hi).2
  have h2 := (lt j hj).2
  rw [← e2] at h2
  have hi' : i < p.toList.length := by rw [Array.length_toList]; omega
  have hj' : j < p.toList.length := by rw [Array.length_toList]; omega
  rw [List.getElem?_eq_getElem hi'] at h1
  rw [List.getElem?_eq_getElem hj'] at h2
  exact hij (zE0 hnd hi' hj' ((Option.some.inj h1).trans (Option.some.inj h2).symm))
theorem zAl {α β : Type} {lt : Nat → Nat → Bool} {f : α → KasT β} : ∀ {t : KasT α}, zh lt (t.bind f) = zh lt (f (zh lt t))
  | .ret _ => rfl
  | .ask i j k => zAl (t := k (lt i j))
variable {p : Array Nat}
theorem zHz (hp : PmN N p) (hk : ∀ x y, x < N → y < N → key x = key y → x = y) : ∀ (f k : Nat), 1 ≤ k → UpTo key p k → k + f ≤ N → k ≤ zh (ltK key) (kas_asc p f k) ∧ zh (ltK key) (kas_asc p f k) ≤ k + f ∧ UpTo key p (zh (ltK key) (kas_asc p f k)) ∧ (zh (ltK key) (kas_asc p f k) = k + f ∨ Ky key p (zh (ltK key) (kas_asc p f k)) < Ky key p (zh (ltK key) (kas_asc p f k) - 1))
  | 0, k, h1, hu, _ => ⟨Nat.le_refl _, Nat.le_refl _, hu, .inl rfl⟩
  | f + 1, k, h1, hu, hN => by
    show k ≤ zh (ltK key) (if ltK key (p.getD k 0) (p.getD (k - 1) 0) = true then .ret k else kas_asc p f (k + 1)) ∧ _
    by_cases c : ltK key (p.getD k 0) (p.getD (k - 1) 0) = true
    · have e : zh (ltK key) (kas_asc p (f + 1) k) = k := by
        show zh (ltK key) (if ltK key (p.getD k 0) (p.getD (k - 1) 0) = true then .ret k else kas_asc p f (k + 1)) = k
        rw [if_pos c]; rfl
      rw [e, if_pos c]
      exact ⟨Nat.le_refl _, by omega, hu, .inr (of_decide_eq_true c)⟩
    · have e : zh (ltK key) (kas_asc p (f + 1) k) = zh (ltK key) (kas_asc p f (k + 1)) := by
        show zh (ltK key) (if ltK key (p.getD k 0) (p.getD (k - 1) 0) = true then .ret k else kas_asc p f (k + 1)) = _
        rw [if_neg c]
      have hlt : Ky key p (k - 1) < Ky key p k := by
        have h2 : ¬ Ky key p k < Ky key p (k - 1) := fun h => c (decide_eq_true h)
        have h3 := hp.ne (key := key) hk (i := k - 1) (j := k) (by omega) (by omega) (by omega)
        omega
      have hu2 : UpTo key p (k + 1) := fun i j hij hj => by
        by_cases q : j = k
        · subst q
          by_cases q2 : i = j - 1
          · subst q2; exact hlt
          · exact Int.lt_trans (hu i (j - 1) (by omega) (by omega)) hlt
        · exact hu i j hij (by omega)
      have ih := zHz hp hk f (k + 1) (by omega) hu2 (by omega)
      rw [e, if_neg c]
      refine ⟨by omega, by omega, ih.2.2.1, ?_⟩
      rcases ih.2.2.2 with h | h
      · exact .inl (by omega)
      · exact .inr h
theorem zIl (hp : PmN N p) (hk : ∀ x y, x < N → y < N → key x = key y → x = y) : ∀ (f k : Nat), 2 ≤ k → DnTo key p k → k + f ≤ N → ∃ k', zh (ltK key) (kas_desc f p k 0) = (p, k', 0) ∧ k ≤ k' ∧ k' ≤ k + f ∧ DnTo key p k'
  | 0, k, _, hd, _ => ⟨k, rfl, Nat.le_refl _, Nat.le_refl _, hd⟩
  | f + 1, k, h2, hd, hN => by
    by_cases c : ltK key (p.getD k 0) (p.getD (k - 1) 0) = true
    · have hd2 : DnTo key p (k + 1) := fun i j hij hj => by
        have hlt : Ky key p k < Ky key p (k - 1) := of_decide_eq_true c
        by_cases q : j = k
        · subst q
          by_cases q2 : i = j - 1
          · subst q2; exact hlt
          · exact Int.lt_trans hlt (hd i (j - 1) (by omega) (by omega))
        · exact hd i j hij (by omega)
      obtain ⟨k', e, a, b, d⟩ := zIl hp hk f (k + 1) (by omega) hd2 (by omega)
      refine ⟨k', ?_, by omega, by omega, d⟩
      show zh (ltK key) (if ltK key (p.getD k 0) (p.getD (k - 1) 0) = true then (if 0 > 0 then _ else kas_desc f p (k + 1) 0) else _) = _
      rw [if_pos c, if_neg (by decide)]; exact e
    · refine ⟨k, ?_, Nat.le_refl _, by omega, hd⟩
      have h3 : ltK key (p.getD (k - 1) 0) (p.getD k 0) = true := by
        have h2 : ¬ Ky key p k < Ky key p (k - 1) := fun h => c (decide_eq_true h)
        have h3 := hp.ne (key := key) hk (i := k - 1) (j := k) (by omega) (by omega) (by omega)
        refine decide_eq_true ?_
        show Ky key p (k - 1) < Ky key p k
        omega
      show zh (ltK key) (if ltK key (p.getD k 0) (p.getD (k - 1) 0) = true then _ else KasT.ask (p.getD (k - 1) 0) (p.getD k 0) fun d => if d = true then .ret (p, k, 0) else kas_desc f p (k + 1) (0 + 1)) = _
      rw [if_neg c]
      show zh (ltK key) (if ltK key (p.getD (k - 1) 0) (p.getD k 0) = true then .ret (p, k, 0) else _) = _
      rw [if_pos h3]; rfl
theorem ky_of {p q : Array Nat} {i j : Nat} (h : q[i]? = p[j]?) : Ky key q i = Ky key p j := by
  unfold Ky
  rw [Array.getD_eq_getD_getElem?, Array.getD_eq_getD_getElem?, h]
theorem PmN.rev (hp : PmN N p) (i j : Nat) : PmN N (kas_rev p i j) := ⟨(mirror_perm _ _ _ _).trans hp.pm⟩
theorem up_rev (hp : PmN N p) {k : Nat} (hk : k ≤ N) (hd : DnTo key p k) : UpTo key (kas_rev p 0 k) k := by
  intro i j hij hj
  have at_ : ∀ x, x < k → Ky key (kas_rev p 0 k) x = Ky key p (k - 1 - x) := fun x hx => ky_of (by
    have h := getElem?_mirror_all (xs := p) (i := 0) (j := k) (by rw [hp.size]; exact hk) x
    rw [if_pos (by omega)] at h
    show (mirror p 0 k ((k - 0) / 2))[x]? = _
    rw [h, Nat.zero_add])
  rw [at_ i (Nat.lt_trans hij hj), at_ j hj]
  exact hd _ _ (Nat.sub_lt_sub_left (Nat.lt_of_lt_of_le hij (Nat.le_sub_one_of_lt hj)) hij) (Nat.lt_of_le_of_lt (Nat.sub_le _ _) (Nat.sub_lt (Nat.zero_lt_of_lt hj) Nat.one_pos))
theorem up_count (hp : PmN N p) (hk : ∀ x y, x < N → y < N → key x = key y → x = y) (hN : 1 ≤ N) : 1 ≤ (zh (ltK key) (kas_count N p)).1 ∧ (zh (ltK key) (kas_count N p)).1 ≤ N ∧ PmN N (zh (ltK key) (kas_count N p)).2 ∧ UpTo key (zh (ltK key) (kas_count N p)).2 (zh (ltK key) (kas_count N p)).1 := by
  unfold kas_count
  rw [zAl]
  obtain ⟨a1, a2, a3, a4⟩ := zHz hp hk (N - 1) 1 (Nat.le_refl _) (fun i j hij hj => by omega) (by omega)
  generalize zh (ltK key) (kas_asc p (N - 1) 1) = m at a1 a2 a3 a4
  by_cases h1 : (m == N) = true
  · have e : m = N := by simpa using h1
    rw [if_pos h1]
    subst e
    exact ⟨a1, Nat.le_refl _, hp, a3⟩
  · rw [if_neg h1]
    have hne : m ≠ N := by simpa using h1
    by_cases h2 : m > 1
    · rw [if_pos h2]
      have c : ltK key (p.getD 0 0) (p.getD (m - 1) 0) = true := decide_eq_true (a3 0 (m - 1) (by omega) (by omega))
      show 1 ≤ (zh (ltK key) (if ltK key (p.getD 0 0) (p.getD (m - 1) 0) = true then .ret (m, p) else kas_descPart m N (kas_rev p 0 m))).1 ∧ _ ≤ N ∧ PmN N (zh (ltK key) (if ltK key (p.getD 0 0) (p.getD (m - 1) 0) = true then .ret (m, p) else kas_descPart m N (kas_rev p 0 m))).2 ∧ _
      have e : zh (ltK key) (.ask (p.getD 0 0) (p.getD (m - 1) 0) fun c => if c = true then .ret (m, p) else kas_descPart m N (kas_rev p 0 m)) = (m, p) := by
        show zh (ltK key) (if ltK key (p.getD 0 0) (p.getD (m - 1) 0) = true then .ret (m, p) else kas_descPart m N (kas_rev p 0 m)) = _
        rw [if_pos c]; rfl
      rw [e, if_pos c]
      exact ⟨a1, by show m ≤ N; omega, hp, a3⟩
    · rw [if_neg h2]
      have hm : m = 1 := by omega
      subst hm
      have hlt : Ky key p 1 < Ky key p 0 := a4.elim (fun h => by omega) id
      unfold kas_descPart
      rw [zAl]
      obtain ⟨k', e, b1, b2, b3⟩ := zIl hp hk (N - (1 + 1)) (1 + 1) (by omega) (fun i j hij hj => by
        have hi : i = 0 := by omega
        have hj : j = 1 := by omega
        subst hi; subst hj; exact hlt) (by omega)
      rw [e]
      dsimp only
      rw [if_neg (by decide)]
      unfold kas_tail3
      rw [zAl]
      have hN2 : 1 + 1 ≤ N := Nat.lt_of_le_of_ne hN hne
      rw [Nat.add_sub_of_le hN2] at b2
      have hr := up_rev (key := key) hp (k := k') b2 b3
      obtain ⟨c1, c2, c3, _⟩ := zHz (hp.rev 0 k') hk (N - k') k' (Nat.le_of_succ_le b1) hr (Nat.le_of_eq (Nat.add_sub_of_le b2))
      rw [Nat.add_sub_of_le b2] at c2
      exact ⟨Nat.le_trans (Nat.le_of_succ_le b1) c1, c2, hp.rev 0 k', c3⟩
theorem zHd {r l f M : Nat} (h : r - l ≤ f + 1) (h2 : l ≤ M) : r - (M + 1) ≤ f :=
  Nat.sub_le_of_le_add (Nat.le_trans (Nat.le_add_of_sub_le h) (by rw [Nat.add_assoc, Nat.add_comm 1 l, Nat.add_comm f, Nat.add_comm f]; exact Nat.add_le_add_right (Nat.succ_le_succ h2) f))
theorem zD1 (hp : PmN N p) (hk : ∀ x y, x < N → y < N → key x = key y → x = y) {k : Nat} (hkN : k < N) (hu : UpTo key p k) : ∀ (f l r : Nat), r - l ≤ f → l ≤ r → r ≤ k → (∀ i < l, Ky key p i < Ky key p k) → (∀ i, r ≤ i → i < k → Ky key p k < Ky key p i) → zh (ltK key) (kas_place p k f l r) ≤ k ∧ (∀ i < zh (ltK key) (kas_place p k f l r), Ky key p i < Ky key p k) ∧ ∀ i, zh (ltK key) (kas_place p k f l r) ≤ i → i < k → Ky key p k < Ky key p i
  | 0, l, r, h1, h2, h3, h4, h5 => ⟨by show l ≤ k; omega, h4, fun i hi => h5 i (by have : l ≤ i := hi; omega)⟩
  | f + 1, l, r, h1, h2, h3, h4, h5 => by
    by_cases hlr : l ≥ r
    · have e : zh (ltK key) (kas_place p k (f + 1) l r) = l := by
        show zh (ltK key) (if l ≥ r then .ret l else _) = l
        rw [if_pos hlr]; rfl
      rw [e]
      exact ⟨by omega, h4, fun i hi => h5 i (by omega)⟩
    · have hm : (l + r) / 2 < r ∧ l ≤ (l + r) / 2 := by omega
      by_cases c : ltK key (p.getD k 0) (p.getD ((l + r) / 2) 0) = true
      · have e : zh (ltK key) (kas_place p k (f + 1) l r) = zh (ltK key) (kas_place p k f l ((l + r) / 2)) := by
          show zh (ltK key) (if l ≥ r then .ret l else .ask (p.getD k 0) (p.getD ((l + r) / 2) 0) fun c => if c = true then kas_place p k f l ((l + r) / 2) else kas_place p k f ((l + r) / 2 + 1) r) = _
          rw [if_neg hlr]
          show zh (ltK key) (if ltK key (p.getD k 0) (p.getD ((l + r) / 2) 0) = true then _ else _) = _
          rw [if_pos c]
        rw [e]
        clear e
        generalize (l + r) / 2 = M at hm c ⊢
        have hlt : Ky key p k < Ky key p M := of_decide_eq_true c
        refine zD1 hp hk hkN hu f l _ (Nat.le_of_lt_succ (Nat.lt_of_lt_of_le (Nat.sub_lt_sub_right hm.2 hm.1) h1)) hm.2 (Nat.le_of_lt (Nat.lt_of_lt_of_le hm.1 h3)) h4 fun i hi hik => ?_
        by_cases q : i = M
        · rw [q]; exact hlt
        · exact Int.lt_trans hlt (hu _ i (by omega) hik)
      · have e : zh (ltK key) (kas_place p k (f + 1) l r) = zh (ltK key) (kas_place p k f ((l + r) / 2 + 1) r) := by
          show zh (ltK key) (if l ≥ r then .ret l else .ask (p.getD k 0) (p.getD ((l + r) / 2) 0) fun c => if c = true then kas_place p k f l ((l + r) / 2) else kas_place p k f ((l + r) / 2 + 1) r) = _
          rw [if_neg hlr]
          show zh (ltK key) (if ltK key (p.getD k 0) (p.getD ((l + r) / 2) 0) = true then _ else _) = _
          rw [if_neg c]
        rw [e]
        clear e
        generalize (l + r) / 2 = M at hm c ⊢
        have hlt : Ky key p M < Ky key p k := by
          have h2 : ¬ Ky key p k < Ky key p M := fun h => c (decide_eq_true h)
          have h3 := hp.ne (key := key) hk (i := M) (j := k) (Nat.lt_trans (Nat.lt_of_lt_of_le hm.1 h3) hkN) hkN (Nat.ne_of_lt (Nat.lt_of_lt_of_le hm.1 h3))
          omega
        refine zD1 hp hk hkN hu f _ r (zHd h1 hm.2) hm.1 h3 (fun i hi => ?_) h5
        by_cases q : i = M
        · rw [q]; exact hlt
        · exact Int.lt_trans (hu i M (Nat.lt_of_le_of_ne (Nat.le_of_lt_succ hi) q) (Nat.lt_of_lt_of_le hm.1 h3)) hlt
theorem bin_ok (hk : ∀ x y, x < N → y < N → key x = key y → x = y) : ∀ (f : Nat) (p : Array Nat) (k : Nat), PmN N p → UpTo key p k → k + f = N → PmN N (zh (ltK key) (kas_bin f p k)) ∧ UpTo key (zh (ltK key) (kas_bin f p k)) N
  | 0, p, k, hp, hu, h => ⟨hp, (show k = N by omega) ▸ hu⟩
  | f + 1, p, k, hp, hu, h => by
    show PmN N (zh (ltK key) ((kas_place p k k 0 k).bind fun l => kas_bin f (bubble p k (k - l)) (k + 1))) ∧ UpTo key (zh (ltK key) ((kas_place p k k 0 k).bind fun l => kas_bin f (bubble p k (k - l)) (k + 1))) N
    rw [zAl]
    obtain ⟨h1, h2, h3⟩ := zD1 hp hk (k := k) (by omega) hu k 0 k (by omega) (Nat.zero_le _) (Nat.le_refl _) (fun i hi => by omega) fun i a b => by omega
    generalize zh (ltK key) (kas_place p k k 0 k) = l at h1 h2 h3
    have hs := hp.size
    have at_ : ∀ x, Ky key (bubble p k (k - l)) x = if x = l then Ky key p k else if l < x ∧ x ≤ k then Ky key p (x - 1) else Ky key p x := fun x => by
      have hb := getElem?_bubble (xs := p) (src := k) (by omega) (k - l) (by omega) x
      have e : k - (k - l) = l := Nat.sub_sub_self h1
      rw [e] at hb
      split
      · rename_i q; rw [if_pos q] at hb; exact ky_of hb
      · rename_i q
        rw [if_neg q] at hb
        split
        · rename_i q2; rw [if_pos q2] at hb; exact ky_of hb
        · rename_i q2; rw [if_neg q2] at hb; exact ky_of hb
    refine bin_ok hk f _ (k + 1) ⟨(bubble_perm _ _ _).trans hp.pm⟩ (fun i j hij hj => ?_) (by omega)
    rw [at_ i, at_ j]
    have hjk := Nat.le_of_lt_succ hj
    have hpred : ∀ {x}, l < x → x ≤ k → l ≤ x - 1 ∧ x - 1 < k := fun h1 h2 => ⟨Nat.le_sub_one_of_lt h1, Nat.lt_of_lt_of_le (Nat.sub_lt (Nat.zero_lt_of_lt h1) Nat.one_pos) h2⟩
    by_cases a : i = l
    · have hlj : l < j := by rw [← a]; exact hij
      rw [if_pos a, if_neg (Nat.ne_of_gt hlj), if_pos ⟨hlj, hjk⟩]
      exact h3 _ (hpred hlj hjk).1 (hpred hlj hjk).2
    · rw [if_neg a]
      by_cases a2 : j = l
      · have hil : i < l := by rw [← a2]; exact hij
        rw [if_pos a2, if_neg (fun h => Nat.lt_asymm h.1 hil)]
        exact h2 _ hil
      · rw [if_neg a2]
        by_cases c1 : l < i
        · rw [if_pos ⟨c1, Nat.le_of_lt (Nat.lt_of_lt_of_le hij hjk)⟩, if_pos ⟨Nat.lt_trans c1 hij, hjk⟩]
          exact hu _ _ (Nat.sub_lt_sub_right (Nat.succ_le_of_lt (Nat.zero_lt_of_lt c1)) hij) (hpred (Nat.lt_trans c1 hij) hjk).2
        · rw [if_neg (fun h => c1 h.1)]
          have hil := Nat.lt_of_le_of_ne (Nat.le_of_not_lt c1) a
          by_cases c2 : l < j
          · rw [if_pos ⟨c2, hjk⟩]
            exact hu _ _ (Nat.lt_of_lt_of_le hil (hpred c2 hjk).1) (hpred c2 hjk).2
          · rw [if_neg (fun h => c2 h.1)]
            exact hu _ _ hij (Nat.lt_of_lt_of_le (Nat.lt_of_le_of_ne (Nat.le_of_not_lt c2) a2) h1)
theorem sort_ok (hk : ∀ x y, x < N → y < N → key x = key y → x = y) (hN : 1 ≤ N) : PmN N (zh (ltK key) (kas_sort N)) ∧ UpTo key (zh (ltK key) (kas_sort N)) N := by
  unfold kas_sort
  rw [zAl]
  obtain ⟨h1, h2, h3, h4⟩ := up_count (key := key) (p := (List.range N).toArray) ⟨Array.Perm.refl _⟩ hk hN
  generalize zh (ltK key) (kas_count N (List.range N).toArray) = r at h1 h2 h3 h4
  by_cases c : r.1 < N
  · rw [if_pos c]
    have e : max r.1 1 = r.1 := by omega
    rw [e]
    exact bin_ok hk _ _ _ h3 h4 (by omega)
  · rw [if_neg c]
    have e : r.1 = N := by omega
    rw [e] at h4
    exact ⟨h3, h4⟩
end
theorem sortL_ok {α : Type} {lt : α → α → Bool} {d : α} {enc : α → Int} {xs : List α} (hlt : ∀ x ∈ xs, ∀ y ∈ xs, lt x y = decide (enc x < enc y)) (hnd : (xs.map enc).Nodup) : (zB5 lt d xs).Perm xs ∧ (zB5 lt d xs).Pairwise fun x y => enc x < enc y := by
  unfold zB5
  by_cases h2 : xs.length < 2
  · rw [if_pos h2]
    refine ⟨List.Perm.refl _, ?_⟩
    match xs, h2 with
    | [], _ => exact .nil
    | [x], _ => exact List.pairwise_singleton _ _
    | _ :: _ :: _, h2 => exact absurd h2 (by simp)
  · rw [if_neg h2]
    have hmem : ∀ i, i < xs.length → xs.getD i d ∈ xs := fun i hi => by
      rw [List.getD_eq_getElem?_getD, List.getElem?_eq_getElem hi]; exact List.getElem_mem hi
    have key_ne : ∀ x y, x < xs.length → y < xs.length → enc (xs.getD x d) = enc (xs.getD y d) → x = y := fun x y hx hy e => by
      rw [List.getD_eq_getElem?_getD, List.getD_eq_getElem?_getD, List.getElem?_eq_getElem hx, List.getElem?_eq_getElem hy] at e
      have hx' : x < (xs.map enc).length := by rw [List.length_map]; exact hx
      have hy' : y < (xs.map enc).length := by rw [List.length_map]; exact hy
      refine zE0 hnd hx' hy' ?_
      rw [List.getElem_map, List.getElem_map]; exact e
    obtain ⟨h3, h4⟩ := sort_ok (key := fun i => enc (xs.getD i d)) key_ne (by omega)
    have same : ∀ {β : Type} {t : KasT β} {R : β → Prop}, zx xs.length t R → zh (fun i j => lt (xs.getD i d) (xs.getD j d)) t = zh (ltK fun i => enc (xs.getD i d)) t := fun {β t R} h => by
      induction h with
      | ret _ => rfl
      | @ask i j k R hi hj _ ih =>
        show zh _ (k (lt (xs.getD i d) (xs.getD j d))) = zh _ (k (ltK (fun i => enc (xs.getD i d)) i j))
        rw [hlt _ (hmem i hi) _ (hmem j hj)]
        exact ih _
    rw [same (zDC (n := xs.length) (by omega))]
    generalize zh (ltK fun i => enc (xs.getD i d)) (kas_sort xs.length) = p at h3 h4
    have hs := h3.size
    have hp : p.toList.Perm (List.range xs.length) := by have := h3.pm; rwa [Array.perm_iff_toList_perm] at this
    constructor
    · have h5 := hp.map (xs.getD · d)
      have e : (List.range xs.length).map (xs.getD · d) = xs := by
        apply List.ext_getElem?
        intro i
        rw [List.getElem?_map]
        by_cases hi : i < xs.length
        · rw [List.getElem?_range hi, Option.map_some, List.getElem?_eq_getElem hi, List.getD_eq_getElem?_getD, List.getElem?_eq_getElem hi]; rfl
        · rw [List.getElem?_eq_none (by simpa using hi), List.getElem?_eq_none (by omega)]; rfl
      rw [e] at h5; exact h5
    · rw [List.pairwise_iff_getElem]
      intro i j hi hj hij
      rw [List.length_map, Array.length_toList] at hi hj
      have := h4 i j hij (by omega)
      unfold Ky at this
      rw [List.getElem_map, List.getElem_map]
      have at_ : ∀ x (hx : x < p.size), p.toList[x]'(by rw [Array.length_toList]; exact hx) = p.getD x 0 := fun x hx => by
        rw [Array.getElem_toList, Array.getD_eq_getD_getElem?, Array.getElem?_eq_getElem hx]; rfl
      rw [at_ i hi, at_ j hj]
      exact this
section
variable {R : Nat → Int} {r : Int} {n : Nat}
noncomputable def mkT (R : Nat → Int) (s i : Nat) : T3 := (R i, s, i)
noncomputable def KA (R : Nat → Int) (r : Int) (s n j : Nat) : List T3 := ((List.range' j (n - j)).filter (kp R r)).map (mkT R s)
theorem zGR {s j : Nat} (hj : j < n) (h : kp R r j = true) : KA R r s n j = mkT R s j :: KA R r s n (j + 1) := by
  unfold KA
  rw [show n - j = (n - (j + 1)) + 1 by omega, List.range'_succ, List.filter_cons_of_pos h]; rfl
theorem KA_no {s j : Nat} (hj : j < n) (h : kp R r j = false) : KA R r s n j = KA R r s n (j + 1) := by
  unfold KA
  rw [show n - j = (n - (j + 1)) + 1 by omega, List.range'_succ, List.filter_cons_of_neg (by rw [h]; decide)]
theorem zEn {s : Nat} : KA R r s n n = [] := by unfold KA; rw [Nat.sub_self]; rfl
theorem zIL {s : Nat} : ∀ (m j : Nat), j + m ≤ n → (∀ i, j ≤ i → i < j + m → kp R r i = false) → KA R r s n j = KA R r s n (j + m)
  | 0, j, _, _ => rfl
  | m + 1, j, h, hk => by
    rw [KA_no (by omega) (hk j (Nat.le_refl _) (by omega)), zIL m (j + 1) (by omega) fun i a b => hk i (by omega) (by omega)]
    rw [show j + 1 + m = j + (m + 1) by omega]
theorem zIG : ∀ (m j : Nat), j + m = n → ∃ k, j ≤ k ∧ k ≤ n ∧ (k = n ∨ (k < n ∧ kp R r k = true)) ∧ ∀ i, j ≤ i → i < k → kp R r i = false
  | 0, j, h => ⟨j, Nat.le_refl _, by omega, .inl (by omega), fun i a b => by omega⟩
  | m + 1, j, h => by
    by_cases q : kp R r j = true
    · exact ⟨j, Nat.le_refl _, by omega, .inr ⟨by omega, q⟩, fun i a b => by omega⟩
    · obtain ⟨k, a, b, c, d⟩ := zIG m (j + 1) (by omega)
      exact ⟨k, by omega, b, c, fun i e f => by
        by_cases z : i = j
        · rw [z]; simpa using q
        · exact d i (by omega) f⟩
theorem gl_at {i m : Nat} (hi : kp R r i = true) (him : i < m) (hno : ∀ z, i < z → z < m → kp R r z = false) : gl R r m = i := by
  obtain ⟨a, b, _, _, e⟩ := zBb (row := R) (r := r) (j := m) (by omega)
  have h1 := e i him hi
  by_cases q : gl R r m = i
  · exact q
  · have := hno (gl R r m) (by omega) a
    rw [b] at this; cases this
theorem zDU {α : Type} {p : α → Bool} {xs : List α} {d : α} : ∀ (m i : Nat), i + m ≤ xs.length → (∀ z, i ≤ z → z < i + m → p (xs.getD z d) = true) → (i + m < xs.length → p (xs.getD (i + m) d) = false) → (xs.drop i).dropWhile p = xs.drop (i + m)
  | 0, i, h, _, h2 => by
    rw [Nat.add_zero] at h2 ⊢
    by_cases q : i < xs.length
    · rw [List.drop_eq_getElem_cons q, List.dropWhile_cons_of_neg]
      have := h2 q
      rw [List.getD_eq_getElem?_getD, List.getElem?_eq_getElem q] at this
      simpa using this
    · rw [List.drop_eq_nil_of_le (by omega)]; rfl
  | m + 1, i, h, h1, h2 => by
    have q : i < xs.length := by omega
    have hp := h1 i (Nat.le_refl _) (by omega)
    rw [List.getD_eq_getElem?_getD, List.getElem?_eq_getElem q] at hp
    replace hp : p xs[i] = true := hp
    rw [List.drop_eq_getElem_cons q, List.dropWhile_cons_of_pos hp]
    have e : i + 1 + m = i + (m + 1) := by omega
    have := zDU (p := p) (xs := xs) (d := d) m (i + 1) (by omega) (fun z a b => h1 z (by omega) (by omega)) (fun hh => by rw [e] at hh ⊢; exact h2 hh)
    rw [this, e]
section
variable {α : Type} {f : α → Int} {d : α} {lt gt eq : α → α → Bool}
theorem abs_le' {r x y : Int} (h : y ≤ x) (n : x - y ≤ r) : zAU (x - y) ≤ r := by
  unfold zAU; rw [if_neg (Int.not_lt.mpr (Int.sub_nonneg_of_le h))]; exact n
theorem abs_gt' {r x y : Int} (hr : 0 ≤ r) (n : r < x - y) : ¬ zAU (x - y) ≤ r := by
  unfold zAU; rw [if_neg (Int.not_lt.mpr (Int.le_of_lt (Int.lt_of_le_of_lt hr n)))]; exact Int.not_le.mpr n
theorem zIX {xs : List α} (hr : 0 ≤ r) (hR : ∀ i, f (xs.getD i d) = R i) (hu : Up R xs.length) (heq : ∀ x y, eq x y = decide (zAU (f x - f y) ≤ r)) {i : Nat} (hi : i < xs.length) (hk : kp R r i = true) : ∃ k, i < k ∧ k ≤ xs.length ∧ (k = xs.length ∨ (k < xs.length ∧ kp R r k = true)) ∧ ((xs.drop (i + 1)).dropWhile fun z => eq z (xs.getD i d)) = xs.drop k ∧ ∀ s, KA R r s xs.length (i + 1) = KA R r s xs.length k := by
  obtain ⟨k, a, b, c, e⟩ := zIG (R := R) (r := r) (n := xs.length) (xs.length - (i + 1)) (i + 1) (by omega)
  refine ⟨k, by omega, b, c, ?_, fun s => ?_⟩
  · have h := zDU (p := fun z => eq z (xs.getD i d)) (xs := xs) (d := d) (k - (i + 1)) (i + 1) (by omega) (fun z h1 h2 => ?_) (fun h => ?_)
    · rw [Nat.add_sub_of_le a] at h; exact h
    · have g := gl_at (R := R) (r := r) hk (m := z) (by omega) (fun y h3 h4 => e y (by omega) (by omega))
      have near := zF6 (e z h1 (by omega))
      rw [g] at near
      have u := hu i z (by omega) (by omega)
      rw [heq, hR, hR]
      exact decide_eq_true (abs_le' u near)
    · rw [Nat.add_sub_of_le a] at h ⊢
      rcases c with c | ⟨_, c⟩
      · omega
      · have g := gl_at (R := R) (r := r) hk (m := k) (by omega) (fun y h3 h4 => e y (by omega) (by omega))
        have gap := zE1 (by omega) c
        rw [g] at gap
        rw [heq, hR, hR]
        exact decide_eq_false (abs_gt' hr gap)
  · have h := zIL (R := R) (r := r) (n := xs.length) (s := s) (k - (i + 1)) (i + 1) (by omega) (fun z h1 h2 => e z h1 (by omega))
    rw [Nat.add_sub_of_le a] at h
    exact h
theorem zGY {xs : List α} {b : Nat} : (zAv xs.length b).map (fun i => xs.getD i d) = xs.drop b := by
  unfold zAv
  rw [List.map_map]
  apply List.ext_getElem?
  intro i
  rw [List.getElem?_map, List.getElem?_drop]
  by_cases h : i < xs.length - b
  · rw [List.getElem?_range h, Option.map_some, List.getElem?_eq_getElem (by omega)]
    show some (xs.getD (b + i) d) = _
    rw [List.getD_eq_getElem?_getD, List.getElem?_eq_getElem (by omega)]; rfl
  · rw [List.getElem?_eq_none (by simpa using h), List.getElem?_eq_none (by omega)]; rfl
theorem sld_sl {R0 R1 : Nat → Int} {xs ys : List α} (hr : 0 ≤ r) (h0 : ∀ i, f (xs.getD i d) = R0 i) (h1 : ∀ i, f (ys.getD i d) = R1 i) (u0 : Up R0 xs.length) (u1 : Up R1 ys.length) (heq : ∀ x y, eq x y = decide (zAU (f x - f y) ≤ r)) (hlt : ∀ x y, lt x y = decide (r < f y - f x)) (hgt : ∀ x y, gt x y = decide (r < f x - f y)) : ∀ (m i j : Nat), (xs.length - i) + (ys.length - j) ≤ m → (i = xs.length ∨ (i < xs.length ∧ kp R0 r i = true)) → (j = ys.length ∨ (j < ys.length ∧ kp R1 r j = true)) →
      sld lt gt eq (xs.drop i) (ys.drop j) = ((sl1 r xs.length (KA R0 r 0 xs.length i) (KA R1 r 1 ys.length j)).map (fun i => xs.getD i d), (sl1 r ys.length (KA R1 r 1 ys.length j) (KA R0 r 0 xs.length i)).map fun i => ys.getD i d) := by
  intro m
  induction m with
  | zero =>
    intro i j hm hi hj
    have ei : i = xs.length := by rcases hi with h | ⟨h, _⟩ <;> omega
    have ej : j = ys.length := by rcases hj with h | ⟨h, _⟩ <;> omega
    subst ei; subst ej
    rw [List.drop_length, List.drop_length, zCH, zEn, zEn, zCF, zCF]; rfl
  | succ m ih =>
    intro i j hm hi hj
    rcases hi with ei | ⟨hi, ki⟩
    · subst ei
      rw [List.drop_length, zCH, zEn, zCF]
      rcases hj with ej | ⟨hj, kj⟩
      · subst ej
        rw [List.drop_length, zEn, zCF]; rfl
      · rw [zGR hj kj, zEC]
        show _ = ([], (zAv ys.length j).map _)
        rw [zGY]
    · rcases hj with ej | ⟨hj, kj⟩
      · subst ej
        rw [List.drop_length, zCZ, zEn, zCF, zGR hi ki, zEC]
        show _ = ((zAv xs.length i).map _, [])
        rw [zGY]
      · obtain ⟨k, a1, a2, a3, a4, a5⟩ := zIX (f := f) (d := d) (eq := eq) (xs := xs) hr h0 u0 heq hi ki
        obtain ⟨l, b1, b2, b3, b4, b5⟩ := zIX (f := f) (d := d) (eq := eq) (xs := ys) hr h1 u1 heq hj kj
        have gx : xs.getD i d = xs[i] := by rw [List.getD_eq_getElem?_getD, List.getElem?_eq_getElem hi]; rfl
        have gy : ys.getD j d = ys[j] := by rw [List.getD_eq_getElem?_getD, List.getElem?_eq_getElem hj]; rfl
        have hx := h0 i
        have hy := h1 j
        rw [gx] at a4 hx
        rw [gy] at b4 hy
        have elt : lt xs[i] ys[j] = decide (r < R1 j - R0 i) := by rw [hlt, hx, hy]
        have egt : gt xs[i] ys[j] = decide (r < R0 i - R1 j) := by rw [hgt, hx, hy]
        have kx := zGR (s := 0) hi ki
        have ky := zGR (s := 1) hj kj
        have d1 := Nat.sub_lt_sub_left hi a1
        have d2 := Nat.sub_lt_sub_left hj b1
        have hex := ih k j (Nat.le_of_lt_succ (Nat.lt_of_lt_of_le (Nat.add_lt_add_right d1 _) hm)) a3 (.inr ⟨hj, kj⟩)
        have hey := ih i l (Nat.le_of_lt_succ (Nat.lt_of_lt_of_le (Nat.add_lt_add_left d2 _) hm)) (.inr ⟨hi, ki⟩) b3
        have hexy := ih k l (Nat.le_of_lt_succ (Nat.lt_of_lt_of_le (Nat.add_lt_add d1 d2) hm)) a3 b3
        rw [← a5 0] at hex hexy
        rw [← b5 1] at hey hexy
        rw [ky] at hex
        rw [kx] at hey
        rw [kx, ky]
        rw [List.drop_eq_getElem_cons hi] at hey ⊢
        rw [List.drop_eq_getElem_cons hj] at hex ⊢
        rw [zCX, a4, b4, elt, egt, zD5, zD5]
        show (if decide (r < R1 j - R0 i) = true then _ else _) = ((if r < R1 j - R0 i then _ else if r < R0 i - R1 j then _ else _ : List Nat).map _, (if r < R0 i - R1 j then _ else if r < R1 j - R0 i then _ else _ : List Nat).map _)
        by_cases c1 : r < R1 j - R0 i
        · rw [if_pos (decide_eq_true c1), if_pos c1, if_neg (by omega), if_pos c1, hex, List.map_cons]
          show (xs[i] :: _, _) = (xs.getD i d :: _, _)
          rw [gx]
        · rw [if_neg (by simpa using c1), if_neg c1]
          by_cases c2 : r < R0 i - R1 j
          · rw [if_pos (decide_eq_true c2), if_pos c2, if_pos c2, hey, List.map_cons]
            show (_, ys[j] :: _) = (_, ys.getD j d :: _)
            rw [gy]
          · rw [if_neg (by simpa using c2), if_neg c2, if_neg c2, if_neg c1, hexy]
end
end
theorem zC6 {α : Type} {k : α → Int} : ∀ {l1 l2 : List α}, l1.Perm l2 → l1.Pairwise (fun a b => k a < k b) → l2.Pairwise (fun a b => k a < k b) → l1 = l2
  | [], l2, h, _, _ => (List.nil_perm.mp h).symm ▸ rfl
  | a :: l1, [], h, _, _ => absurd h.length_eq (by simp)
  | a :: l1, b :: l2, h, h1, h2 => by
    have ha := List.pairwise_cons.mp h1
    have hb := List.pairwise_cons.mp h2
    have e : a = b := by
      rcases List.mem_cons.mp (h.mem_iff.mp (.head _) : a ∈ b :: l2) with q | q
      · exact q
      · rcases List.mem_cons.mp (h.mem_iff.mpr (.head _) : b ∈ a :: l1) with q2 | q2
        · exact q2.symm
        · have := ha.1 b q2
          have := hb.1 a q
          omega
    subst e
    rw [zC6 (List.Perm.cons_inv h) ha.2 hb.2]
noncomputable def enc (t : T3) : Int := t.1 * 4000 + (t.2.1 : Nat) * 1000 + (t.2.2 : Nat)
theorem lt3_enc {x y : T3} (hx : x.2.1 < 2 ∧ x.2.2 < 1000) (hy : y.2.1 < 2 ∧ y.2.2 < 1000) : lt3 x y = decide (enc x < enc y) := by
  unfold lt3 enc
  by_cases e1 : x.1 = y.1
  · rw [if_pos e1, e1]
    by_cases e2 : x.2.1 = y.2.1
    · rw [if_pos e2, e2]; apply decide_eq_decide.mpr; omega
    · rw [if_neg e2]; apply decide_eq_decide.mpr; omega
  · rw [if_neg e1]; apply decide_eq_decide.mpr; omega
section
variable {row : Nat → List Int} {r : Int}
noncomputable abbrev RF (row : Nat → List Int) (s i : Nat) : Int := (row s).getD i 0
noncomputable abbrev LF (row : Nat → List Int) (r : Int) (s : Nat) : List Nat := zU (RF row s) r (row s).length
theorem zAe {s i : Nat} (h : i ∈ LF row r s) : i < (row s).length ∧ kp (RF row s) r i = true := ⟨List.mem_range.mp (List.mem_filter.mp h).1, (List.mem_filter.mp h).2⟩
theorem LF_lt (s : Nat) : (LF row r s).Pairwise (· < ·) := List.Pairwise.filter _ List.pairwise_lt_range
theorem zCe {s i j : Nat} (hu : Up (RF row s) (row s).length) (hi : i ∈ LF row r s) (hj : j ∈ LF row r s) (hij : i < j) : r < RF row s j - RF row s i := by
  obtain ⟨a1, a2⟩ := zAe hi
  obtain ⟨b1, b2⟩ := zAe hj
  have g := zE1 (by omega) b2
  have o := zBb (row := RF row s) (r := r) (j := j) (by omega)
  have := hu i (gl (RF row s) r j) (o.2.2.2.2 i hij a2) (by omega)
  omega
theorem zF0 (s : Nat) : (LF row r s).map (mkT (RF row s) s) = KA (RF row s) r s (row s).length 0 := by
  unfold KA
  show List.map _ (List.filter _ (List.range _)) = _
  rw [List.range_eq_range', Nat.sub_zero]
theorem zAr : zAc row (LF row r) = (LF row r 0).map (mkT (RF row 0) 0) ++ (LF row r 1).map (mkT (RF row 1) 1) := by
  unfold zAc
  show (List.range 2).flatMap _ = _
  have e : List.range 2 = [0, 1] := rfl
  rw [e]
  simp only [List.flatMap_cons, List.flatMap_nil, List.append_nil]
  rfl
theorem enc_up {s : Nat} (hu : Up (RF row s) (row s).length) : ((LF row r s).map (mkT (RF row s) s)).Pairwise fun a b => enc a < enc b := by
  rw [List.pairwise_map]
  refine (LF_lt s).imp_of_mem fun {i j} hi hj hij => ?_
  have := hu i j (by omega) (zAe hj).1
  unfold enc mkT
  dsimp only
  omega
theorem zIU (hu : ∀ s < 2, Up (RF row s) (row s).length) (hn : ∀ s < 2, (row s).length ≤ 900) : (zd row (LF row r)).Perm (zAc row (LF row r)) ∧ (zd row (LF row r)).Pairwise fun a b => enc a < enc b := by
  have mem : ∀ t ∈ zAc row (LF row r), t.2.1 < 2 ∧ t.2.2 < 1000 := fun t ht => by
    rw [zAr] at ht
    rcases List.mem_append.mp ht with h | h
    · obtain ⟨i, hi, rfl⟩ := List.mem_map.mp h
      have := (zAe hi).1
      have := hn 0 (by omega)
      exact ⟨by show 0 < 2; omega, by show i < 1000; omega⟩
    · obtain ⟨i, hi, rfl⟩ := List.mem_map.mp h
      have := (zAe hi).1
      have := hn 1 (by omega)
      exact ⟨by show 1 < 2; omega, by show i < 1000; omega⟩
  refine sortL_ok (fun x hx y hy => lt3_enc (mem x hx) (mem y hy)) ?_
  rw [zAr, List.map_append]
  have nd : ∀ s, s < 2 → (((LF row r s).map (mkT (RF row s) s)).map enc).Nodup := fun s hs => by
    show List.Pairwise (· ≠ ·) _
    rw [List.pairwise_map]
    exact (enc_up (hu s hs)).imp fun h => by omega
  show List.Pairwise (· ≠ ·) _
  refine List.pairwise_append.mpr ⟨nd 0 (by omega), nd 1 (by omega), fun a ha b hb => ?_⟩
  obtain ⟨t, ht, rfl⟩ := List.mem_map.mp ha
  obtain ⟨i, hi, rfl⟩ := List.mem_map.mp ht
  obtain ⟨u, hu', rfl⟩ := List.mem_map.mp hb
  obtain ⟨j, hj, rfl⟩ := List.mem_map.mp hu'
  have h1 := (zAe hi).1
  have h2 := hn 0 (by omega)
  have h3 := (zAe hj).1
  have h4 := hn 1 (by omega)
  unfold enc mkT
  dsimp only
  omega
theorem zGG (hu : ∀ s < 2, Up (RF row s) (row s).length) (hn : ∀ s < 2, (row s).length ≤ 900) {s : Nat} (hs : s < 2) : fs s (zd row (LF row r)) = (LF row r s).map (mkT (RF row s) s) := by
  obtain ⟨h1, h2⟩ := zIU (r := r) hu hn
  refine zC6 (k := enc) ?_ (List.Pairwise.filter _ h2) (enc_up (hu s hs))
  have h3 : (fs s (zd row (LF row r))).Perm (fs s (zAc row (LF row r))) := h1.filter _
  refine h3.trans ?_
  have e : fs s (zAc row (LF row r)) = (LF row r s).map (mkT (RF row s) s) := by
    rw [zAr]
    unfold fs
    rw [List.filter_append]
    have same : ∀ t, ((LF row r t).map (mkT (RF row t) t)).filter (fun x => x.2.1 == s) = if t = s then (LF row r t).map (mkT (RF row t) t) else [] := fun t => by
      by_cases q : t = s
      · rw [if_pos q, List.filter_eq_self]
        intro x hx
        obtain ⟨i, _, rfl⟩ := List.mem_map.mp hx
        show (t == s) = true
        simpa using q
      · rw [if_neg q, List.filter_eq_nil_iff]
        intro x hx
        obtain ⟨i, _, rfl⟩ := List.mem_map.mp hx
        show ¬ (t == s) = true
        simpa using q
    rw [same, same]
    rcases (show s = 0 ∨ s = 1 by omega) with rfl | rfl
    · rw [if_pos rfl, if_neg (by decide), List.append_nil]
    · rw [if_neg (by decide), if_pos rfl, List.nil_append]
  rw [e]
theorem lk_mg (hr : 0 ≤ r) (hu : ∀ s < 2, Up (RF row s) (row s).length) (hn : ∀ s < 2, (row s).length ≤ 900) {s : Nat} (hs : s < 2) : (zAT (zd row (LF row r)) r (zd row (LF row r)).length).2 s = mg1 r (KA (RF row s) r s (row s).length 0) (KA (RF row (1 - s)) r (1 - s) (row (1 - s)).length 0) := by
  obtain ⟨h1, h2⟩ := zIU (r := r) hu hn
  have mem : ∀ t ∈ zd row (LF row r), ∃ z, z < 2 ∧ ∃ i, i ∈ LF row r z ∧ t = mkT (RF row z) z i := fun t ht => by
    have := h1.mem_iff.mp ht
    rw [zAr] at this
    rcases List.mem_append.mp this with h | h
    · obtain ⟨i, hi, rfl⟩ := List.mem_map.mp h
      exact ⟨0, by omega, i, hi, rfl⟩
    · obtain ⟨i, hi, rfl⟩ := List.mem_map.mp h
      exact ⟨1, by omega, i, hi, rfl⟩
  rw [scan_L (zd row (LF row r)).length 0 (by omega), List.drop_zero]
  show [] ++ zBR r s 0 _ = _
  rw [List.nil_append, scan_mg hr hs _ _ 0 (Nat.le_refl _) (by decide) ?_ ?_ ?_, zGG hu hn hs, zGG hu hn (s := 1 - s) (by omega), zF0, zF0]
  · refine h2.imp_of_mem fun {a b} ha hb hab => ?_
    obtain ⟨z, hz, i, hi, rfl⟩ := mem a ha
    obtain ⟨y, hy, j, hj, rfl⟩ := mem b hb
    have h3 := (zAe hi).1
    have h4 := hn z hz
    have h5 := (zAe hj).1
    have h6 := hn y hy
    unfold enc mkT at hab
    unfold mkT
    dsimp only at hab ⊢
    omega
  · refine h2.imp_of_mem fun {a b} ha hb hab e => ?_
    obtain ⟨z, hz, i, hi, rfl⟩ := mem a ha
    obtain ⟨y, hy, j, hj, rfl⟩ := mem b hb
    have e' : z = y := e
    subst e'
    have h3 := (zAe hi).1
    have h4 := hn z hz
    have h5 := (zAe hj).1
    show r < RF row z j - RF row z i
    unfold enc mkT at hab
    dsimp only at hab
    rcases Nat.lt_trichotomy i j with q | q | q
    · exact zCe (hu z hz) hi hj q
    · subst q; omega
    · have := zCe (hu z hz) hj hi q
      omega
  · intro t ht
    obtain ⟨z, hz, i, hi, rfl⟩ := mem t ht
    exact hz
theorem zFj {s : Nat} (h : 0 < (row s).length) : 0 < (LF row r s).length := List.length_pos_of_mem (a := 0) (List.mem_filter.mpr ⟨List.mem_range.mpr h, rfl⟩)
theorem fin_sl (hr : 0 ≤ r) (hu : ∀ s < 2, Up (RF row s) (row s).length) (hn : ∀ s < 2, 0 < (row s).length ∧ (row s).length ≤ 900) {s : Nat} (hs : s < 2) : zAf row (LF row r) (zAT (zd row (LF row r)) r (zd row (LF row r)).length).2 s = sl1 r (row s).length (KA (RF row s) r s (row s).length 0) (KA (RF row (1 - s)) r (1 - s) (row (1 - s)).length 0) := by
  have hs1 : 1 - s < 2 := by omega
  have far : ∀ z, z < 2 → (KA (RF row z) r z (row z).length 0).Pairwise fun a b => r < b.1 - a.1 := fun z hz => by
    rw [← zF0, List.pairwise_map]
    exact (LF_lt z).imp_of_mem fun {i j} hi hj hij => zCe (hu z hz) hi hj hij
  have h := zGO (r := r) (n := (row s).length) (last := zDc row (LF row r) s) (v := RF row s) hr _ (KA (RF row s) r s (row s).length 0) (KA (RF row (1 - s)) r (1 - s) (row (1 - s)).length 0) (Nat.le_refl _)
    (by rw [← zF0, List.pairwise_map]; exact LF_lt s) (far s hs) (far (1 - s) hs1) (fun a ha => by rw [← zF0] at ha; obtain ⟨i, _, rfl⟩ := List.mem_map.mp ha; rfl) (fun e => ?_) (fun b hb => ?_)
  · rw [h, ← lk_mg hr hu (fun z hz => (hn z hz).2) hs]
    rfl
  · have h1 := zFj (r := r) (hn (1 - s) hs1).1
    rw [← zF0] at e
    have := congrArg List.length e
    rw [List.length_map] at this
    simp at this
    rw [this] at h1; simp at h1
  · rw [← zF0] at hb
    have h1 := zFj (r := r) (hn (1 - s) hs1).1
    rw [List.getLast?_eq_getElem?, List.length_map, List.getElem?_map, List.getElem?_eq_getElem (by omega)] at hb
    have := Option.some.inj hb
    rw [← this]
    unfold zDc
    rw [List.getD_eq_getElem?_getD (l := LF row r (1 - s)), List.getElem?_eq_getElem (by omega)]
    rfl
theorem sld_fin {α : Type} {f : α → Int} {d : α} {lt gt eq : α → α → Bool} {xs ys : List α} (hr : 0 ≤ r) (hx : row 0 = xs.map f) (hy : row 1 = ys.map f) (hd : f d = 0) (hu : ∀ s < 2, Up (RF row s) (row s).length) (hn : ∀ s < 2, 0 < (row s).length ∧ (row s).length ≤ 900) (heq : ∀ x y, eq x y = decide (zAU (f x - f y) ≤ r)) (hlt : ∀ x y, lt x y = decide (r < f y - f x)) (hgt : ∀ x y, gt x y = decide (r < f x - f y)) : sld lt gt eq xs ys = ((zAf row (LF row r) (zAT (zd row (LF row r)) r (zd row (LF row r)).length).2 0).map (fun i => xs.getD i d), (zAf row (LF row r) (zAT (zd row (LF row r)) r (zd row (LF row r)).length).2 1).map fun i => ys.getD i d) := by
  rw [fin_sl hr hu hn (by omega), fin_sl hr hu hn (by omega)]
  have get : ∀ (zs : List α) (i : Nat), f (zs.getD i d) = (zs.map f).getD i 0 := fun zs i => by
    rw [List.getD_eq_getElem?_getD, List.getD_eq_getElem?_getD, List.getElem?_map]
    cases zs[i]? with
    | none => exact hd
    | some z => rfl
  have l0 : (row 0).length = xs.length := by rw [hx, List.length_map]
  have l1 : (row 1).length = ys.length := by rw [hy, List.length_map]
  have h := sld_sl (r := r) (R0 := RF row 0) (R1 := RF row 1) (f := f) (d := d) (lt := lt) (gt := gt) (eq := eq) (xs := xs) (ys := ys) hr (fun i => by rw [get]; show _ = (row 0).getD i 0; rw [hx]) (fun i => by rw [get]; show _ = (row 1).getD i 0; rw [hy])
    (by rw [← l0]; exact hu 0 (by omega)) (by rw [← l1]; exact hu 1 (by omega)) heq hlt hgt _ 0 0 (Nat.le_refl _) (.inr ⟨by rw [← l0]; exact (hn 0 (by omega)).1, rfl⟩) (.inr ⟨by rw [← l1]; exact (hn 1 (by omega)).1, rfl⟩)
  rw [List.drop_zero, List.drop_zero, ← l0, ← l1] at h
  exact h
end
section
variable {rest : List Stmt} {Q : Flow → Shared → Prop}
theorem up_of {l : List Int} (h : l.Pairwise (· ≤ ·)) : Up (fun i => l.getD i 0) l.length := by
  intro i j hij hj
  have hi : i < l.length := by omega
  dsimp only
  rw [List.getD_eq_getElem?_getD, List.getD_eq_getElem?_getD, List.getElem?_eq_getElem hi, List.getElem?_eq_getElem hj]
  show l[i] ≤ l[j]
  by_cases q : i = j
  · subst q; exact Int.le_refl _
  · exact List.pairwise_iff_getElem.mp h i j hi hj (by omega)
noncomputable def zFl (ns : List Int) : List (List Int) := [row0 ns, row1 ns]
noncomputable def rw1 (ns : List Int) (s : Nat) : List Int := (zFl ns).getD s []
noncomputable def rch (ns : List Int) : Int := ns.sum.fmod 7
noncomputable def zGv (ns : List Int) : List Int := (rw1 ns 0).reverse.map fun x => -x
noncomputable abbrev lef (ns : List Int) (s : Nat) : List Nat := LF (rw1 ns) (rch ns) s
noncomputable def zHS (ns : List Int) : List Nat := zU (fun i => (zGv ns).getD i 0) (rch ns) (zGv ns).length
noncomputable def ptO (ns : List Int) (s : Nat) : List Int := (lef ns s).map (RF (rw1 ns) s)
theorem zIf (ns : List Int) : 0 ≤ rch ns ∧ rch ns ≤ 6 := by
  unfold rch
  rw [Int.fmod_eq_emod_of_nonneg _ (by decide : (0 : Int) ≤ 7)]
  omega
theorem zFS (l : List Int) : (sortI l).length = l.length := (sortI_perm l).length_eq
theorem zAX (ns : List Int) {s : Nat} (hs : s < 2) : Up (RF (rw1 ns) s) (rw1 ns s).length ∧ 2 ≤ (rw1 ns s).length ∧ (rw1 ns s).length ≤ 9 := by
  have hl : (ns.take 7).length ≤ 7 := by rw [List.length_take]; omega
  have g : ∀ (a b : Int) (p : Int → Bool), 2 ≤ (sortI (zA0 [a, b] p (ns.take 7) (ns.take 7).length)).length ∧ (sortI (zA0 [a, b] p (ns.take 7) (ns.take 7).length)).length ≤ 9 := fun a b p => by
    rw [zFS]
    have := zAG (ini := [a, b]) (p := p) (xs := ns.take 7) (i := (ns.take 7).length)
    simp at this
    refine ⟨?_, by simp; omega⟩
    unfold zA0
    rw [List.length_append]; simp
  rcases (show s = 0 ∨ s = 1 by omega) with rfl | rfl
  · exact ⟨up_of (sortI_rises _), (g 3 20 in0).1, (g 3 20 in0).2⟩
  · exact ⟨up_of (sortI_rises _), (g 5 30 in1).1, (g 5 30 in1).2⟩
theorem zEU {n k : Nat} (h : k < n) : n - 1 - k < n := Nat.lt_of_le_of_lt (Nat.sub_le _ _) (Nat.sub_lt (Nat.zero_lt_of_lt h) Nat.one_pos)
theorem zEX (ns : List Int) {i : Nat} (hi : i < (rw1 ns 0).length) : (zGv ns).getD i 0 = - RF (rw1 ns) 0 ((rw1 ns 0).length - 1 - i) := by
  unfold zGv
  rw [List.getD_eq_getElem?_getD, List.getElem?_map, List.getElem?_reverse hi, List.getElem?_eq_getElem (zEU hi)]
  show - _ = - (rw1 ns 0).getD _ 0
  rw [List.getD_eq_getElem?_getD, List.getElem?_eq_getElem (zEU hi)]; rfl
theorem zIm (ns : List Int) : Up (fun i => (zGv ns).getD i 0) (zGv ns).length ∧ (zGv ns).length = (rw1 ns 0).length := by
  have hl : (zGv ns).length = (rw1 ns 0).length := by unfold zGv; rw [List.length_map, List.length_reverse]
  refine ⟨fun i j hij hj => ?_, hl⟩
  rw [hl] at hj
  dsimp only
  rw [zEX ns (Nat.lt_of_le_of_lt hij hj), zEX ns hj]
  have := (zAX ns (s := 0) (by omega)).1 ((rw1 ns 0).length - 1 - j) ((rw1 ns 0).length - 1 - i) (Nat.sub_le_sub_left hij _) (zEU (Nat.lt_of_le_of_lt hij hj))
  exact Int.neg_le_neg this
theorem zGZ (ns : List Int) : (zHS ns).length = (lef ns 0).length := by
  obtain ⟨u, hl⟩ := zIm ns
  obtain ⟨u0, h2, _⟩ := zAX ns (s := 0) (by omega)
  have hr := (zIf ns).1
  show (zU _ _ _).length = (zU _ _ _).length
  rw [zBL, zBL, hl]
  refine Nat.le_antisymm (rev_le (by omega) u0 hr fun i hi => zEX ns hi) (rev_le (by omega) (by rw [← hl]; exact u) hr fun i hi => ?_)
  rw [zEX ns (zEU hi), Nat.sub_sub_self (Nat.le_sub_one_of_lt hi), Int.neg_neg]
theorem zBU (ns : List Int) {s : Nat} (hs : s < 2) : 0 < (lef ns s).length ∧ (lef ns s).length ≤ 9 ∧ ∀ i ∈ lef ns s, i < (rw1 ns s).length := by
  obtain ⟨_, h2, h9⟩ := zAX ns hs
  refine ⟨zFj (by omega), ?_, fun i hi => (zAe hi).1⟩
  refine Nat.le_trans (List.length_filter_le _ _) ?_
  rw [List.length_range]; exact h9
theorem lefF_le (ns : List Int) : (zHS ns).length ≤ 9 ∧ ∀ i ∈ zHS ns, i < (zGv ns).length := ⟨by rw [zGZ]; exact (zBU ns (s := 0) (by omega)).2.1, fun i hi => List.mem_range.mp (List.mem_filter.mp hi).1⟩
theorem zDs {a : Addr} {pm cd : Value} {row : List Int} {r : Int} (T : zGV φ) (hr : 0 ≤ r) (hu : Up (fun i => row.getD i 0) row.length) (h0 : 0 < row.length) (h9 : row.length ≤ 9) (K : FnK φ a (zA1 (st1 14) "_law_left" [] .none .none .none pm cd .none)) : zj prog w ⟨k + 2, true⟩ φ (.ref a) [zB (row.map vInt), vInt r] (vL (zU (fun i => row.getD i 0) r row.length)) :=
  zIJ (sz := fun i => ((cn (fun i => row.getD i 0) r (i + 1) : Nat) : Int)) T (by omega) h0 (fun i hi => zH5 hu hr hi fun j => rfl) (left_max h0) (fun t ht => zHA ht) (by
    refine Nat.le_trans (List.length_filter_le _ _) ?_
    rw [List.length_range]; omega) K
theorem zHf {a : Addr} {pm cd : Value} {row : List Int} {r : Int} (T : zGV φ) (hr : 0 ≤ r) (hu : Up (fun i => row.getD i 0) row.length) (h9 : row.length ≤ 9) (K : FnK φ a (zA1 (st1 15) "_law_stretches" [] .none .none .none pm cd .none)) : zj prog w ⟨k + 2, true⟩ φ (.ref a) [zB (row.map vInt), vInt r] (vInt ((zU (fun i => row.getD i 0) r row.length).length : Nat)) := by
  rw [zBL]
  exact zDI (cc := fun i => ((cn (fun i => row.getD i 0) r i : Nat) : Int)) T (by omega) hr rfl (fun i hi => zEd hu hr hi fun j => rfl) K
theorem zEr {r : Int} {xs : List zCK} {row : List Int} (hr : 0 ≤ r) (e : xs.map (·.2) = row) (hu : Up (fun i => row.getD i 0) row.length) : ddE (keq r) xs = (zU (fun i => row.getD i 0) r row.length).map fun i => xs.getD i (0, 0) := by
  have hf : (fun i => (xs.getD i ((0 : Addr), (0 : Int))).2) = fun i => row.getD i 0 := by
    funext i
    rw [← e, List.getD_eq_getElem?_getD, List.getD_eq_getElem?_getD, List.getElem?_map]
    cases xs[i]? <;> rfl
  have hl : row.length = xs.length := by rw [← e, List.length_map]
  have h := zID (f := fun p : zCK => p.2) (d := ((0 : Addr), (0 : Int))) (eq := keq r) (xs := xs) hr (zDV hr) (by rw [hf, ← hl]; exact hu)
  rw [hf, ← hl] at h
  exact h
theorem zIO {r : Int} {xs : List zCK} {row : List Int} (hr : 0 ≤ r) (e : xs.map (·.2) = row) (hu : Up (fun i => (row.reverse.map fun x => -x).getD i 0) row.length) : ddE (keq r) xs.reverse = (zU (fun i => (row.reverse.map fun x => -x).getD i 0) r row.length).map fun i => xs.reverse.getD i (0, 0) := by
  have hf : (fun i => -(xs.reverse.getD i ((0 : Addr), (0 : Int))).2) = fun i => (row.reverse.map fun x => -x).getD i 0 := by
    funext i
    rw [← e, ← List.map_reverse, List.map_map, List.getD_eq_getElem?_getD, List.getD_eq_getElem?_getD, List.getElem?_map]
    cases xs.reverse[i]? <;> rfl
  have hl : row.length = xs.reverse.length := by rw [← e, List.length_map, List.length_reverse]
  have h := zID (f := fun p : zCK => -p.2) (d := ((0 : Addr), (0 : Int))) (eq := keq r) (xs := xs.reverse) hr (fun p q => by
    rw [zDV hr]
    apply decide_eq_decide.mpr
    unfold zAU
    constructor <;> (intro h; split at h <;> split <;> omega)) (by rw [hf, ← hl]; exact hu)
  rw [hf, ← hl] at h
  exact h
theorem cao_is {ns : List Int} {xs ys : List zCK} (ex : xs.map (·.2) = rw1 ns 0) (ey : ys.map (·.2) = rw1 ns 1) : zHX (keq (rch ns)) xs ys = zBW (rch ns) (ptO ns 0) (ptO ns 1) ∧ zHX (keq (rch ns)) ys xs = zBW (rch ns) (ptO ns 0) (ptO ns 1) := by
  have hr := (zIf ns).1
  have vals : ∀ {zs : List zCK} {s : Nat}, s < 2 → zs.map (·.2) = rw1 ns s → (ddE (keq (rch ns)) zs).map (·.2) = ptO ns s ∧ (ddE (keq (rch ns)) zs).Pairwise fun a b => rch ns < b.2 - a.2 := fun {zs s} hs ez => by
    have hu := (zAX ns hs).1
    have hk := zEr hr ez hu
    have at_ : ∀ i, (zs.getD i ((0 : Addr), (0 : Int))).2 = RF (rw1 ns) s i := fun i => by
      show _ = (rw1 ns s).getD i 0
      rw [← ez, List.getD_eq_getElem?_getD, List.getD_eq_getElem?_getD, List.getElem?_map]
      cases zs[i]? <;> rfl
    rw [hk]
    constructor
    · rw [List.map_map]
      exact List.map_congr_left fun i _ => at_ i
    · rw [List.pairwise_map]
      refine (LF_lt (row := rw1 ns) (r := rch ns) s).imp_of_mem fun {i j} hi hj hij => ?_
      rw [at_, at_]
      exact zCe hu hi hj hij
  obtain ⟨x1, x2⟩ := vals (s := 0) (by omega) ex
  obtain ⟨y1, y2⟩ := vals (s := 1) (by omega) ey
  have p0 : 0 < (ptO ns 0).length := by show 0 < (List.map _ _).length; rw [List.length_map]; exact (zBU ns (s := 0) (by omega)).1
  rw [zF2 p0]
  constructor
  · have h := zFY (f := fun p : zCK => p.2) hr (zDV hr) x2 y2
    rw [x1, y1] at h
    exact h
  · have h := zFY (f := fun p : zCK => p.2) hr (zDV hr) y2 x2
    rw [x1, y1, zDg] at h
    exact h
end
theorem spec_sld {prog : Program} {w : World} {k : Nat} {φ : PM} {a : Addr} {pm cd : Value} {α : Type} {P : α → VP} {lt gt eq : α → α → Bool} {xs ys : List α} (hIE : BN φ "IndexError" (.type "IndexError")) (hlt : ∀ x y, Op2 prog w ⟨k, false⟩ φ (compareOp .Lt) (P x) (P y) (zN (lt x y))) (hgt : ∀ x y, Op2 prog w ⟨k, false⟩ φ (compareOp .Gt) (P x) (P y) (zN (gt x y))) (heq : ∀ x y, Op2 prog w ⟨k, false⟩ φ (compareOp .Eq) (P x) (P y) (zN (eq x y))) (hx : xs.length ≤ 1000) (hy : ys.length ≤ 1000) (K : FnK φ a (zA1 (st1 9) "sorted_list_difference" [] .none .none .none pm cd .none)) : zj prog w ⟨k + 1, true⟩ φ (.ref a) [zB (xs.map P), zB (ys.map P)] (zCQ [zB ((sld lt gt eq xs ys).1.map P), zB ((sld lt gt eq xs ys).2.map P)]) := by
  refine zl (names := ["expected", "actual"]) K rfl rfl rfl (fun vs h => by obtain ⟨a, b, rfl⟩ := zZ h; rfl) (by rfl) (by rfl) (by rfl) (by rfl) (zBP.ok ?_)
  intro X ψ s E hsc c l hft hdp b
  have T := Top.of c hdp
  have hline : sizeLine = 16777216 := rfl
  have hctx : z7 X.A = .none := by
    unfold z7
    rw [(b.cx c).none rfl]; rfl
  refine zIr b (EI.of c hsc zH) (sto hsc) (sto hsc) fun v0 ψ1 s1 l1 p1 b1 => ?_
  refine zBj b1 (sto hsc) fun a1 s2 ha1 hb1 b2 => ?_
  refine zBj b2 (sto hsc) fun a2 s3 ha2 hb2 b3 => ?_
  have hne : a1 ≠ a2 := fun q => by rw [q, zA] at ha2; cases ha2
  have hne' : a2 ≠ a1 := Ne.symm hne
  have L1 : Le φ ψ1 := l.trans l1
  refine zIK (sldI X φ P lt gt eq xs ys a1 a2) ?_ (xs.length + ys.length) ⟨0, 0, [], [], ψ1, _, by simp, Nat.zero_le _, Nat.zero_le _, Nat.le_refl _, Nat.le_refl _, by simp, L1,
    ⟨[], 0, [], 0, by rw [zC hne]; exact zA _ _ _, .nil, zA _ _ _, .nil⟩, b3.retype fun m t => pk t (pk t (pk t (pk t (pk t (pk t Typ.nil)))))⟩
  rintro nn s4 ⟨i, j, ms, us, ψ4, ω4, rfl, hi, hj, hms, hus, hres, L4, hown, b4⟩
  refine test_I b4 (r := true) (TI.of c hsc (b_v zHo zAF)) fun ψ5 s5 l5 b5 => ?_
  simp only [if_true]
  have L5 := L4.trans l5
  have hown5 := hown.le l5 (Le.refl _)
  refine zEk (φ := φ) (Eb := sldE X φ P lt gt eq xs ys a1 a2) hdp c hsc hIE (by rfl) (by rfl) F.isExc_IndexError F.notTuple_IndexError ?_ ?_
  · -- the try's body
    by_cases hil' : xs.length ≤ i
    · have hie : i = xs.length := by omega
      refine zE5 (cls := "IndexError") hsc b5 c (zH8 v_v v_v (by simp; omega) (by omega)) fun x ψ6 s6 l6 f6 => ?_
      rw [hctx] at f6
      refine ⟨x, i, j, ms, us, ψ6, ω4, .none, rfl, hi, hj, hms, hus, ?_, L5.trans l6, .inl rfl, hown5.le l6 (Le.refl _), .inl f6⟩
      have e1 : xs.drop i = [] := List.drop_eq_nil_of_le (by omega)
      rw [hres, e1, zCH]
    have hil : i < xs.length := by omega
    have dx : xs.drop i = xs[i] :: xs.drop (i + 1) := List.drop_eq_getElem_cons hil
    refine zP (P := P xs[i]) b5 (EI.of c hsc (zG v_v v_v (zY (by omega) (by omega) (by simp [hil])))) (sto hsc) fun v6 ψ6 s6 l6 p6 b6 => ?_
    have L6 := L5.trans l6
    have hown6 := hown5.le l6 (Le.refl _)
    by_cases hjl' : ys.length ≤ j
    · refine zE5 (cls := "IndexError") hsc b6 c (zH8 v_v v_v (by simp; omega) (by omega)) fun x ψ7 s7 l7 f7 => ?_
      rw [hctx] at f7
      refine ⟨x, i, j, ms, us, ψ7, ω4, .none, rfl, hi, hj, hms, hus, ?_, L6.trans l7, .inl rfl, hown6.le l7 (Le.refl _), .inl (f7.retype fun m t => pk t (pk t (pk t (pk t (pk t (pk t Typ.nil))))))⟩
      have e1 : ys.drop j = [] := List.drop_eq_nil_of_le (by omega)
      rw [hres, e1, zCZ]
    have hjl : j < ys.length := by omega
    have dy : ys.drop j = ys[j] :: ys.drop (j + 1) := List.drop_eq_getElem_cons hjl
    refine zP (P := P ys[j]) b6 (EI.of c hsc (zG v_v v_v (zY (by omega) (by omega) (by simp [hjl])))) (sto hsc) fun v7 ψ7 s7 l7 p7 b7 => ?_
    have L7 := L6.trans l7
    have hown7 := hown6.le l7 (Le.refl _)
    refine zDd b7 (r := lt xs[i] ys[j]) (TI.of c hsc (z0 v_v v_v ((hlt _ _).any.le L7))) fun ψ8 s8 l8 b8 => ?_
    have L8 := L7.trans l8
    have hown8 := hown7.le l8 (Le.refl _)
    cases hl : lt xs[i] ys[j] with
    | true =>
      obtain ⟨v1, j1, v2, j2, o1, q1, o2, q2⟩ := hown8
      have hlen1 := q1.length
      rw [List.length_map] at hlen1
      refine zHe hsc b8 o1 (EI.of c hsc v_v) (by omega) fun v9 ψ9 s9 j9 l9 p9 b9 => ?_
      have L9 := L8.trans l9
      refine zFg (P₁ := vInt (i : Nat)) (R := vInt ((i + 1 : Nat) : Int)) hsc b9 c (EI.of c hsc zH) zp (sto hsc) (fun va ψa sa la pa ba => ?_)
      have La := L9.trans la
      have lall := l9.trans la
      have howna : Own2 ψa (put ω4 a1 (lst (v1 ++ [v9]) j9)) a1 a2 ((ms ++ [xs[i]]).map P) (us.map P) :=
        ⟨_, _, v2, j2, zA _ _ _, by rw [List.map_append]; exact (q1.imp fun (P : VP) v x => P.mono lall x).append (.cons ((P xs[i]).mono la p9) .nil), by rw [zC hne']; exact o2, q2.imp fun (P : VP) v x => P.mono lall x⟩
      refine zA9 (P := P) (eq := eq) (xs := xs) (x := xs[i]) (i0 := i + 1) (Γ := [("a", P ys[j]), ("e", P xs[i]), ("j", vInt j), ("i", vInt i), ("unexpected", zT (.ref a2)), ("missing", zT (.ref a1)), ("expected", zB (xs.map P)), ("actual", zB (ys.map P))]) hsc c T heq La (by rfl) (by rfl) (by rfl) (by rfl) (by rfl) (by rfl) (by rfl) (sto hsc) (by rfl) (by rfl) (by rfl) (by omega) hil ba ?_ ?_
      · intro i1 ψb sb hi1 hi2 hdw lb bb
        refine zR (zR (zR ⟨(xs.length - i1) + (ys.length - j), Nat.add_lt_add_right (Nat.sub_lt_sub_left hil hi2) _, i1, j, ms ++ [xs[i]], us, ψb, _, rfl, by omega, hj, by simp; omega, hus, ?_, La.trans lb, howna.le lb (Le.refl _), bb.retype fun m t => pk t (pk t (pk t (pk t (pk t (pk t Typ.nil)))))⟩))
        rw [hres, sld_lt dx dy hl hdw]; simp
      · intro z ψb sb hdw lb fb
        rw [hctx] at fb
        refine ⟨z, xs.length, j, ms ++ [xs[i]], us, ψb, _, .none, rfl, Nat.le_refl _, hj, by simp; omega, hus, ?_, La.trans lb, .inl rfl, howna.le lb (Le.refl _), .inr (.inr (fb.retype fun m t => pk t (pk t (pk t (pk t (pk t (pk t Typ.nil)))))))⟩
        rw [hres, sld_lt dx dy hl hdw, zCH]; simp
    | false =>
      refine zDd b8 (r := gt xs[i] ys[j]) (TI.of c hsc (z0 v_v v_v ((hgt _ _).any.le L8))) fun ψ9 s9 l9 b9 => ?_
      have L9 := L8.trans l9
      have hown9 := hown8.le l9 (Le.refl _)
      cases hg : gt xs[i] ys[j] with
      | true =>
        obtain ⟨v1, j1, v2, j2, o1, q1, o2, q2⟩ := hown9
        have hlen2 := q2.length
        rw [List.length_map] at hlen2
        refine zHe hsc b9 o2 (EI.of c hsc v_v) (by omega) fun va ψa sa ja la pa ba => ?_
        have La := L9.trans la
        refine zFg (P₁ := vInt (j : Nat)) (R := vInt ((j + 1 : Nat) : Int)) hsc ba c (EI.of c hsc zH) zp (sto hsc) (fun vb ψb sb lb pb bb => ?_)
        have Lb := La.trans lb
        have lall := la.trans lb
        have hownb : Own2 ψb (put ω4 a2 (lst (v2 ++ [va]) ja)) a1 a2 (ms.map P) ((us ++ [ys[j]]).map P) :=
          ⟨v1, j1, _, _, by rw [zC hne]; exact o1, q1.imp fun (P : VP) v x => P.mono lall x, zA _ _ _, by rw [List.map_append]; exact (q2.imp fun (P : VP) v x => P.mono lall x).append (.cons ((P ys[j]).mono lb pa) .nil)⟩
        refine zA9 (P := P) (eq := eq) (xs := ys) (x := ys[j]) (i0 := j + 1) (Γ := [("a", P ys[j]), ("e", P xs[i]), ("j", vInt j), ("i", vInt i), ("unexpected", zT (.ref a2)), ("missing", zT (.ref a1)), ("expected", zB (xs.map P)), ("actual", zB (ys.map P))]) hsc c T heq Lb (by rfl) (by rfl) (by rfl) (by rfl) (by rfl) (by rfl) (by rfl) (sto hsc) (by rfl) (by rfl) (by rfl) (by omega) hjl bb ?_ ?_
        · intro i1 ψc sc hi1 hi2 hdw lc bc
          refine zR (zR (zR (zR ⟨(xs.length - i) + (ys.length - i1), Nat.add_lt_add_left (Nat.sub_lt_sub_left hjl hi2) _, i, i1, ms, us ++ [ys[j]], ψc, _, rfl, hi, by omega, hms, by simp; omega, ?_, Lb.trans lc, hownb.le lc (Le.refl _), bc.retype fun m t => pk t (pk t (pk t (pk t (pk t (pk t Typ.nil)))))⟩)))
          rw [hres, sld_gt dx dy hl hg hdw]; simp
        · intro z ψc sc hdw lc fc
          rw [hctx] at fc
          refine ⟨z, i, ys.length, ms, us ++ [ys[j]], ψc, _, .none, rfl, hi, Nat.le_refl _, hms, by simp; omega, ?_, Lb.trans lc, .inl rfl, hownb.le lc (Le.refl _), .inr (.inr (fc.retype fun m t => pk t (pk t (pk t (pk t (pk t (pk t Typ.nil)))))))⟩
          rw [hres, sld_gt dx dy hl hg hdw, zCZ]; simp
      | false =>
        refine zFg (P₁ := vInt (i : Nat)) (R := vInt ((i + 1 : Nat) : Int)) hsc b9 c (EI.of c hsc zH) zp (sto hsc) (fun va ψa sa la pa ba => ?_)
        have La := L9.trans la
        have howna := hown9.le la (Le.refl _)
        refine y_final (Eb := fun e s => ∃ x ψb, e = .ref x ∧ Le ψa ψb ∧ ((xs.drop (i + 1)).dropWhile fun z => eq z xs[i]) = [] ∧ FlT X [("i", vInt (xs.length : Nat)), ("a", P ys[j]), ("e", P xs[i]), ("j", vInt j), ("i", vInt i), ("unexpected", zT (.ref a2)), ("missing", zT (.ref a1)), ("expected", zB (xs.map P)), ("actual", zB (ys.map P))] ψb ω4 "IndexError" .none x (here X) s) hdp c ?_ ?_
        · refine zA9 (P := P) (eq := eq) (xs := xs) (x := xs[i]) (i0 := i + 1) (Γ := [("a", P ys[j]), ("e", P xs[i]), ("j", vInt j), ("i", vInt i), ("unexpected", zT (.ref a2)), ("missing", zT (.ref a1)), ("expected", zB (xs.map P)), ("actual", zB (ys.map P))]) hsc c T heq La (by rfl) (by rfl) (by rfl) (by rfl) (by rfl) (by rfl) (by rfl) (sto hsc) (by rfl) (by rfl) (by rfl) (by omega) hil ba ?_ ?_
          · intro i1 ψb sb hi1 hi2 hdw lb bb
            have Lb := La.trans lb
            refine zR ⟨rfl, ?_⟩
            refine zFg (P₁ := vInt (j : Nat)) (R := vInt ((j + 1 : Nat) : Int)) hsc bb c (EI.of c hsc zH) zp (sto hsc) (fun vc ψc sc' lc pc bc => ?_)
            have Lc := Lb.trans lc
            refine zA9 (P := P) (eq := eq) (xs := ys) (x := ys[j]) (i0 := j + 1) (Γ := [("i", vInt (i1 : Nat)), ("a", P ys[j]), ("e", P xs[i]), ("j", vInt j), ("i", vInt i), ("unexpected", zT (.ref a2)), ("missing", zT (.ref a1)), ("expected", zB (xs.map P)), ("actual", zB (ys.map P))]) hsc c T heq Lc (by rfl) (by rfl) (by rfl) (by rfl) (by rfl) (by rfl) (by rfl) (sto hsc) (by rfl) (by rfl) (by rfl) (by omega) hjl bc ?_ ?_
            · intro j1 ψd sd hj1 hj2 hdw2 ld bd
              refine zR (zR (zR (zR (zR ⟨(xs.length - i1) + (ys.length - j1), Nat.add_lt_add (Nat.sub_lt_sub_left hil hi2) (Nat.sub_lt_sub_left hjl hj2), i1, j1, ms, us, ψd, _, rfl, by omega, by omega, by omega, by omega, ?_, Lc.trans ld, howna.le (lb.trans (lc.trans ld)) (Le.refl _), bd.retype fun m t => pk t (pk t (pk t (pk t (pk t (pk t Typ.nil)))))⟩))))
              rw [hres, zGL dx dy hl hg hdw hdw2]
            · intro z ψd sd hdw2 ld fd
              rw [hctx] at fd
              refine Fl.forE (.inr (.inr fd)) c T fun se fe => ?_
              refine ⟨z, i1, ys.length, ms, us, ψd, _, .none, rfl, by omega, Nat.le_refl _, by omega, by omega, ?_, Lc.trans ld, .inl rfl, howna.le (lb.trans (lc.trans ld)) (Le.refl _), .inr (.inr (fe.retype fun m t => pk t (pk t (pk t (pk t (pk t (pk t Typ.nil)))))))⟩
              rw [hres, zGL dx dy hl hg hdw hdw2, zCZ]; simp
          · intro z ψb sb hdw lb fb
            rw [hctx] at fb
            exact ⟨z, ψb, rfl, lb, hdw, fb⟩
        · rintro e sb ⟨x, ψb, rfl, lb, hdw, fb⟩
          have Lb := La.trans lb
          refine ⟨x, _, ψb, ω4, _, _, rfl, .inl rfl, .inr (.inr fb), fun sc' ψc lc hc => ?_⟩
          obtain ⟨ω', t, y, hle, hn, hny, hxy, hq, hex, ht, bc⟩ := hc
          have Lc := Lb.trans lc
          refine zFg (X := X.mk' x) (P₁ := vInt (j : Nat)) (R := vInt ((j + 1 : Nat) : Int)) hsc bc c.mk2 (EI.of c.mk2 hsc zH) zp (sto hsc) (fun vd ψd sd ld pd bd => ?_)
          have Ld := Lc.trans ld
          refine zA9 (X := X.mk' x) (P := P) (eq := eq) (xs := ys) (x := ys[j]) (i0 := j + 1) (Γ := [("i", vInt (xs.length : Nat)), ("a", P ys[j]), ("e", P xs[i]), ("j", vInt j), ("i", vInt i), ("unexpected", zT (.ref a2)), ("missing", zT (.ref a1)), ("expected", zB (xs.map P)), ("actual", zB (ys.map P))]) hsc c.mk2 T.mk' heq Ld (by rfl) (by rfl) (by rfl) (by rfl) (by rfl) (by rfl) (by rfl) (sto hsc) (by rfl) (by rfl) (by rfl) (by omega) hjl bd ?_ ?_
          · intro j1 ψe se hj1 hj2 hdw2 le be
            refine zR ⟨rfl, _, ψe, ω4, ⟨ω', t, y, hle, hn, hny, hxy, hq, le _ _ (ld _ _ hex), ht, be⟩, fun sf ff => ?_⟩
            refine ⟨x, xs.length, j1, ms, us, ψe, ω4, .none, rfl, Nat.le_refl _, by omega, by omega, by omega, ?_, Ld.trans le, .inl rfl, howna.le (lb.trans (lc.trans (ld.trans le))) (Le.refl _), .inr (.inr (ff.retype fun m t => pk t (pk t (pk t (pk t (pk t (pk t Typ.nil)))))))⟩
            rw [hres, zGL dx dy hl hg hdw hdw2, zCH]; simp
          · intro z ψe se hdw2 le fe
            refine Fl.forH (.inr (.inr fe)) hdp c fun sf ff => ?_
            have hzx : ω4 z = none := by
              obtain ⟨_, _, _, h1, h2, _⟩ := ff
              cases q : ω4 z with
              | none => rfl
              | some o => rw [hle z o q] at h2; cases h2
            refine ⟨z, xs.length, ys.length, ms, us, ψe, ω', _, rfl, Nat.le_refl _, Nat.le_refl _, by omega, by omega, ?_, Ld.trans le, ?_, howna.le (lb.trans (lc.trans (ld.trans le))) hle, .inr (.inr (ff.retype fun m t => pk t (pk t (pk t (pk t (pk t (pk t Typ.nil)))))))⟩
            · rw [hres, zGL dx dy hl hg hdw hdw2, zCH]; simp
            · exact .inr ⟨x, _, _, rfl, le _ _ (ld _ _ hex), rfl, rfl⟩
  · -- except IndexError
    rintro e s6 ⟨x, i1, j1, ms1, us1, ψ6, ω6, ctx, rfl, hi1, hj1, hms1, hus1, hres1, L6, hc6, hown6, f6⟩
    refine ⟨x, _, ψ6, ω6, "IndexError", ctx, rfl, L6, F.self_IndexError, hc6, f6, fun s7 ψ7 l7 h7 => ?_⟩
    have b7 := h7.plain
    obtain ⟨v1, k1, v2, k2, o1, q1, o2, q2⟩ := hown6.le l7 (Le.refl _)
    have hlen1 := q1.length
    have hlen2 := q2.length
    rw [List.length_map] at hlen1 hlen2
    refine y_ext (X := X.mk' x) (ps := (xs.drop i1).map P) hsc b7 o1 (EI.of c.mk2 hsc (zG v_v (zDB (zEq v_v) evp0 evp0) (zGT (by omega)))) (by simp; omega) fun u1 ψ8 s8 k8 l8 r8 b8 => ?_
    refine y_ext (X := X.mk' x) (ps := (ys.drop j1).map P) (a := a2) (vs := v2) (j := k2) hsc b8 (by rw [zC hne']; exact o2) (EI.of c.mk2 hsc (zG v_v (zDB (zEq v_v) evp0 evp0) (zGT (by omega)))) (by simp; omega) fun u2 ψ9 s9 k9 l9 r9 b9 => ?_
    refine x_break ?_
    show Ex prog w X _ _ _ s9
    have ba := b9.unmark hdp
    have L9 := L6.trans (l7.trans (l8.trans l9))
    have f1 := ba.freeze (zA _ _ _)
    have f2 := f1.freeze (a := a1) (o := lst (v1 ++ u1) k8) (by simp [hne, put])
    have g2 := ba.ownNone (a := a2) (zA _ _ _)
    have g1 := f1.ownNone (a := a1) (o := lst (v1 ++ u1) k8) (by simp [hne, put])
    have lz : Le ψ9 (put (put ψ9 a2 (lst (v2 ++ u2) k9)) a1 (lst (v1 ++ u1) k8)) := (zL g2).trans (zL g1)
    have q1' : zO (fun (Q : VP) v => Q.p (put (put ψ9 a2 (lst (v2 ++ u2) k9)) a1 (lst (v1 ++ u1) k8)) v) ((sld lt gt eq xs ys).1.map P) (v1 ++ u1) := by
      rw [hres1, List.map_append]
      exact (q1.imp fun (Q : VP) v x => Q.mono ((l8.trans l9).trans lz) x).append (r8.imp fun (Q : VP) v x => Q.mono (l9.trans lz) x)
    have q2' : zO (fun (Q : VP) v => Q.p (put (put ψ9 a2 (lst (v2 ++ u2) k9)) a1 (lst (v1 ++ u1) k8)) v) ((sld lt gt eq xs ys).2.map P) (v2 ++ u2) := by
      rw [hres1, List.map_append]
      exact (q2.imp fun (Q : VP) v x => Q.mono ((l8.trans l9).trans lz) x).append (r9.imp fun (Q : VP) v x => Q.mono lz x)
    have bz := (f2.view (x := "missing") (v := .ref a1) (P := zB ((sld lt gt eq xs ys).1.map P)) (by rfl) ⟨a1, v1 ++ u1, k8, rfl, zA _ _ _, q1'⟩).view (x := "unexpected") (v := .ref a2) (P := zB ((sld lt gt eq xs ys).2.map P)) (by rfl) ⟨a2, v2 ++ u2, k9, rfl, by rw [zC hne']; exact zA _ _ _, q2'⟩
    exact zDL bz (EI.of c hsc (v_tup (e2 v_v v_v) (by show 2 ≤ sizeLine; decide)))
section
variable {rest : List Stmt} {Q : Flow → Shared → Prop}
theorem zFy {X : Fix} {sc : Scope} {elt : Expr} {gs : List Comprehension} {scope : Scope} {p pos : Pos} {t : Str} {line : Nat} (hsc : X.env.scope = sc) (hf : sc.kind = .function) (hk : sc.names.lookup t = some .local) (hl : (pos.line == p.line) = true) (hs : (scope.names.any fun (n, k) => n == t && (k == .local || k == .cell)) = false) : swapsWith (.ListComp elt gs scope p) (some (.Name t pos)) line X.env = pure true := by
  have e : X.env.kindOf t = some .local := by show X.env.scope.names.lookup t = _; rw [hsc]; exact hk
  show (pure (X.env.blockKind == .function && X.env.kindOf t == some .local && pos.line == p.line && !(scope.names.any fun (n, k) => n == t && (k == .local || k == .cell))) : Sem Bool) = pure true
  have e2 : X.env.blockKind = .function := by
    unfold Env.blockKind
    rw [hsc, hf]; rfl
  rw [e, e2, hl, hs]
  rfl
theorem zIs {f : Nat → VP} {P0 P1 : VP} (h0 : f 0 = P0) (h1 : f 1 = P1) : ((List.range 2).filter fun _ => true).map f = [P0, P1] := by rw [zCt]; show [f 0, f 1] = _; rw [h0, h1]
theorem zHy {a clw Plaw Pkey Pctk : Addr} {ns : List Int} {sv : Value} {Q : Value → Shared → Prop} (T : Law1 φ a clw Plaw Pkey Pctk) (hns : ns.length ≤ 63) (c0 : Cx ⟨k + 61, true⟩ A ψ s) (l0 : Le φ ψ) (hsv : (zB (ns.map vInt)).p ψ sv) (hn1 : Plaw ≠ Pkey) (hn2 : Plaw ≠ Pctk) (hn3 : Pkey ≠ Pctk) (h1 : s.heap.get? Plaw = some (tabObj #[]) ∧ ψ Plaw = none ∧ Plaw ∉ frs A) (h2 : s.heap.get? Pkey = some (tabObj #[]) ∧ ψ Pkey = none ∧ Pkey ∉ frs A) (h3 : s.heap.get? Pctk = some (tabObj #[]) ∧ ψ Pctk = none ∧ Pctk ∉ frs A) (hq : ∀ ψ' s', zQ (Plaw :: Pkey :: Pctk :: frs A) ψ s ψ' s' → Q (.bool true) s') : wpAny (model prog w) A (call (.ref a) [sv]) Q E s := by
  obtain ⟨pm, K⟩ := T.law
  refine zo (k := k + 60) (tb := [(Plaw, tabObj #[]), (Pkey, tabObj #[]), (Pctk, tabObj #[])]) (binds := [("script", sv)]) (fun p hp => ?_) c0 (K.le l0) rfl rfl (BindsTo.of_eq (by rfl)) (by rfl) (by rfl) (by rfl) fun env s' he hcd x' => ?_
  · rcases List.mem_cons.mp hp with rfl | hp
    · exact h1
    · rcases List.mem_cons.mp hp with rfl | hp
      · exact h2
      · rw [List.mem_singleton.mp hp]; exact h3
  have hcx : CX ⟨k + 60, true⟩ ⟨A, A.deeper env, ψ, s, env.locals :: env.cells.map (·.2), env, none, [(Plaw, tabObj #[]), (Pkey, tabObj #[]), (Pctk, tabObj #[])]⟩ := CX.of c0 rfl
  have hft : ∀ c ∈ env.cells.map (·.2), c ∈ env.locals :: env.cells.map (·.2) := fun c hc => List.mem_cons_of_mem _ hc
  have hX : ∃ X : Fix, X = ⟨A, A.deeper env, ψ, s, env.locals :: env.cells.map (·.2), env, none, [(Plaw, tabObj #[]), (Pkey, tabObj #[]), (Pctk, tabObj #[])]⟩ := ⟨_, rfl⟩
  obtain ⟨X, hX⟩ := hX
  have eA : A.deeper env = X.A := by rw [hX]
  have eenv : env = X.env := by rw [hX]
  rw [← hX] at hcx x'
  have c : CX ⟨k + 60, true⟩ X := hcx
  have hsc : X.env.scope = (zA1 (st1 21) "law" [] .none .none .none pm (.ref clw) .none).scope := by rw [← eenv]; exact he
  have hcode : X.env.code = .ref clw := by rw [← eenv]; exact hcd.1
  have hft' : ∀ c ∈ X.env.cells.map (·.2), c ∈ X.ft := by rw [hX]; exact hft
  have htb : X.tb = [(Plaw, tabObj #[]), (Pkey, tabObj #[]), (Pctk, tabObj #[])] := by rw [hX]
  have hF : X.F = Plaw :: Pkey :: Pctk :: frs A := by rw [hX]; rfl
  have hψ0 : X.ψ₀ = ψ := by rw [hX]
  have hs0 : X.s₀ = s := by rw [hX]
  rw [eA, eenv]
  have b : B X [("script", zB (ns.map vInt))] ψ (fun _ => none) s' := ⟨_, x', fun x P hx => by
    by_cases q : x = ("script" : Str)
    · subst q; cases hx; exact ⟨sv, by simp, hsv⟩
    · have : List.lookup x [(("script" : Str), zB (ns.map vInt))] = none := by simp [List.lookup_cons, beq_eq_false_iff_ne.mpr q]
      rw [this] at hx; cases hx⟩
  clear hX hcx x' he hcd hft eA
  have hfin : ∀ ψ' s2, zQ X.F X.ψ₀ X.s₀ ψ' s2 → Q (.bool true) s2 := fun ψ' s2 g => by rw [hF, hψ0, hs0] at g; exact hq ψ' s2 g
  clear hq hF hψ0 hs0
  generalize zCq prog w A X.env E = E'
  refine (?_ : Ex prog w X (fbody (st1 21)) (fun fl s2 => Q (zC1 fl) s2) E' s').go
  obtain ⟨aro, pmro, cdro, gro, Kro⟩ := T.rows
  obtain ⟨ake, cke, pmke, gke, Kke, Cke⟩ := T.key
  obtain ⟨ale, pmle, cdle, gle, Kle⟩ := T.left
  obtain ⟨ast, pmst, cdst, gst, Kst⟩ := T.stretches
  obtain ⟨ala, pmla, cdla, gla, Kla⟩ := T.lacking
  obtain ⟨asa, pmsa, cdsa, gsa, Ksa⟩ := T.same
  obtain ⟨asi, pmsi, cdsi, gsi, Ksi⟩ := T.sign
  obtain ⟨arf, pmrf, cdrf, grf, Krf⟩ := T.refused
  obtain ⟨awe, pmwe, cdwe, gwe, Kwe⟩ := T.weeded
  obtain ⟨add, kdd, pmdd, cddd, gdd, Kdd, hkd⟩ := T.dd
  obtain ⟨adu, pmdu, cddu, gdu, Kdu⟩ := T.ddu
  obtain ⟨aca, pmca, cdca, gca, Kca⟩ := T.cao
  obtain ⟨asl, pmsl, cdsl, gsl, Ksl⟩ := T.sld
  obtain ⟨ath, pmth, cdth, gth, Kth⟩ := T.three
  obtain ⟨act, cct, pmct, gct, Kct, Cct⟩ := T.ctk
  obtain ⟨are, Tt, im, oT, nT, oim, pmre, cdre, gre, Kre, hTt, hTd, gim, him, hicl⟩ := T.reduce
  have TT := T.T
  have hline : sizeLine = 16777216 := rfl
  have hr := zIf ns
  have hr0 := hr.1
  have ok0 := zAX ns (s := 0) (by omega)
  have ok1 := zAX ns (s := 1) (by omega)
  refine zP (P := zCQ [zB ((rw1 ns 0).map vInt), zB ((rw1 ns 1).map vInt)]) b (EI.of c hsc (zCV (zD.le gro l0) (Kro.le l0) (e1 v_v) ((zIp (k := k + 58) TT hns Kro).le l0))) (stoC hsc hft') fun v1 ψ1 s1 l1 p1 b1 => ?_
  have L1 := l0.trans l1
  refine zP (P := vInt (rch ns)) b1 (EI.of c hsc (zAI (zB4 (TT.le L1).sum (e1 v_v) (call_sum (k := k + 59) (zW rfl))) zH (zAP (by decide)))) (stoC hsc hft') fun v2 ψ2 s2 l2 p2 b2 => ?_
  have L2 := L1.trans l2
  refine y_callT2 (f := "_law_key") (P1 := Pkey) (P2 := Pctk) hsc b2 c (v_g (zD.le gke L2)) (Kke.le L2).keepOk (e1 v_v) ((spec_key (k := k + 34) (kk := 0) (r := rch ns) Kke Cke gct Kct Cct T.obj T.bc T.any T.mods T.mkT TT.abs gth Kth hn3).le L2) hn3 (by rw [htb]; exact .tail _ (.head _)) (by rw [htb]; exact .tail _ (.tail _ (.head _))) (stoC hsc hft') fun ψ3 s3 t1 t2 l3 b3 => ?_
  have L3 := L2.trans l3
  have hPl : (Plaw, tabObj #[]) ∈ ((X.setTb Pkey (tabObj t1)).setTb Pctk (tabObj t2)).tb := by
    refine List.mem_map.mpr ⟨(Plaw, tabObj #[]), List.mem_map.mpr ⟨(Plaw, tabObj #[]), by rw [htb]; exact .head _, ?_⟩, ?_⟩
    · show (if Plaw = Pkey then _ else _) = _; rw [if_neg hn1]
    · show (if Plaw = Pctk then _ else _) = _; rw [if_neg hn2]
  have hfin2 : ∀ ψ' s2, zQ ((X.setTb Pkey (tabObj t1)).setTb Pctk (tabObj t2)).F ((X.setTb Pkey (tabObj t1)).setTb Pctk (tabObj t2)).ψ₀ ((X.setTb Pkey (tabObj t1)).setTb Pctk (tabObj t2)).s₀ ψ' s2 → Q (.bool true) s2 := fun ψ' s2 g => by rw [zAi, zAi] at g; exact hfin ψ' s2 g
  have c2 : CX ⟨k + 60, true⟩ ((X.setTb Pkey (tabObj t1)).setTb Pctk (tabObj t2)) := c.tb2.tb2
  have hsc2 : ((X.setTb Pkey (tabObj t1)).setTb Pctk (tabObj t2)).env.scope = (zA1 (st1 21) "law" [] .none .none .none pm (.ref clw) .none).scope := hsc
  have hcode2 : ((X.setTb Pkey (tabObj t1)).setTb Pctk (tabObj t2)).env.code = .ref clw := hcode
  have hft2 : ∀ c ∈ ((X.setTb Pkey (tabObj t1)).setTb Pctk (tabObj t2)).env.cells.map (·.2), c ∈ ((X.setTb Pkey (tabObj t1)).setTb Pctk (tabObj t2)).ft := hft'
  clear hfin c hsc hcode hft' htb b b1 b2
  generalize (X.setTb Pkey (tabObj t1)).setTb Pctk (tabObj t2) = X2 at hPl hfin2 c2 hsc2 hcode2 hft2 b3
  obtain ⟨vk, ⟨Kc, cc, oc, fv, rfl, hK, hcc, hod, hpf⟩, b4⟩ := b3.pin (x := "key") (by rfl)
  have b5 : B X2 ([("key", zT (.ref Kc)), ("reach", vInt (rch ns)), ("rows", zCQ [zB ((rw1 ns 0).map vInt), zB ((rw1 ns 1).map vInt)]), ("script", zB (ns.map vInt))] : List (Str × VP)) ψ3 (fun _ => none) s3 := b4.retype fun m t => pk t (pk t (pk t (pk t Typ.nil)))
  refine zP (P := zB [zB ((rw1 ns 0).map fun x => vKat Kc ds1 (PFr prog w (rch ns)) (vInt x)), zB ((rw1 ns 1).map fun x => vKat Kc ds1 (PFr prog w (rch ns)) (vInt x))]) b5 (EI.of c2 hsc2 (EV.conv (zAM (nn := 2) (keep := fun _ => true) (R := fun i => zB ((rw1 ns i).map fun x => vKat Kc ds1 (PFr prog w (rch ns)) (vInt x))) (k := k + 59) v_v (zv (f := fun l : List Int => zB (l.map vInt)) (d := []) (ns := zFl ns) (zHn rfl)) (by rfl) (fun i hi => zEZ) (fun i hi => zBy)
    (fun i hi _ => EV.conv (zAM (nn := (rw1 ns i).length) (keep := fun _ => true) (R := fun j => vKat Kc ds1 (PFr prog w (rch ns)) (vInt ((rw1 ns i).getD j 0))) (k := k + 58) v_v (zGb (zW rfl)) (by rfl) (fun i hi => zEZ) (fun i hi => zBy) (fun j hj _ => v_call v_v (keep_cls hK) (e1 v_v) (K1_make (k := k + 52) hK hcc hod hpf (T.lim.le L3))) (by have := (zAX ns hi).2.2; omega)) (congrArg zB (zAw (f := fun x => vKat Kc ds1 (PFr prog w (rch ns)) (vInt x)) (d := 0) (rw1 ns i)))) (by decide)) (congrArg zB (zIs rfl rfl)))) (stoC hsc2 hft2) (fun v6 ψ6 s6 l6 p6 b6 => ?_) (zCC hsc2 (by rfl))
  have L6 := L3.trans l6
  obtain ⟨vks, ⟨ak, us, jk, rfl, hok, hallk⟩, b7⟩ := b6.pin (x := "keys") (by rfl)
  obtain ⟨u0, u1, rfl, ⟨a0, us0, j0, rfl, ho0, hal0⟩, ⟨a1, us1, j1, rfl, ho1, hal1⟩⟩ := zEA hallk
  obtain ⟨xs, ex, hx⟩ := zII hal0
  obtain ⟨ys, ey, hy⟩ := zII hal1
  have b8 := b7.view (x := "keys") (P := zB [zB (xs.map (zAA prog w (rch ns))), zB (ys.map (zAA prog w (rch ns)))]) (by rfl) ⟨ak, _, jk, rfl, hok, .cons ⟨a0, us0, j0, rfl, ho0, hx⟩ (.cons ⟨a1, us1, j1, rfl, ho1, hy⟩ .nil)⟩
  have b9 : B X2 ([("keys", zB [zB (xs.map (zAA prog w (rch ns))), zB (ys.map (zAA prog w (rch ns)))]), ("reach", vInt (rch ns)), ("rows", zCQ [zB ((rw1 ns 0).map vInt), zB ((rw1 ns 1).map vInt)])] : List (Str × VP)) ψ6 (fun _ => none) s6 := b8.retype fun m t => pk t (pk t (pk t Typ.nil))
  clear b3 b4 b5 b6 b7 b8 hallk hal0 hal1 hx hy ho0 ho1 hok
  have lx : xs.length = (rw1 ns 0).length := by rw [← ex, List.length_map]
  have ly : ys.length = (rw1 ns 1).length := by rw [← ey, List.length_map]
  have hlim := T.lim
  have hopE : ∀ {ψ' : PM}, Le φ ψ' → ∀ k', 4 ≤ k' → ∀ x y, zDG prog w ⟨k', false⟩ ψ' (zAA prog w (rch ns) x) (zAA prog w (rch ns) y) (keq (rch ns) x y) := fun {ψ'} l k' hk x y => key_opEq hr0 (hlim.le l) hk x y
  have grow : ∀ s < 2, ∀ (ψ' : PM) μ, Op2 prog w μ ψ' getItem (zCQ [zB ((rw1 ns 0).map vInt), zB ((rw1 ns 1).map vInt)]) (vInt (s : Nat)) (zB ((rw1 ns s).map vInt)) := fun s hs ψ' μ => zBG (by omega) (by rcases (show s = 0 ∨ s = 1 by omega) with rfl | rfl <;> rfl)
  have glf : ∀ s < 2, ∀ (ψ' : PM) μ, Op2 prog w μ ψ' getItem (zB [vL (lef ns 0), vL (lef ns 1)]) (vInt (s : Nat)) (vL (lef ns s)) := fun s hs ψ' μ => zY (by omega) (by omega) (by rcases (show s = 0 ∨ s = 1 by omega) with rfl | rfl <;> rfl)
  have gpo : ∀ s < 2, ∀ (ψ' : PM) μ, Op2 prog w μ ψ' getItem (zB [zB ((ptO ns 0).map vInt), zB ((ptO ns 1).map vInt)]) (vInt (s : Nat)) (zB ((ptO ns s).map vInt)) := fun s hs ψ' μ => zY (by omega) (by omega) (by rcases (show s = 0 ∨ s = 1 by omega) with rfl | rfl <;> rfl)
  have gke' : ∀ s < 2, ∀ (ψ' : PM) μ, Op2 prog w μ ψ' getItem (zB [zB (xs.map (zAA prog w (rch ns))), zB (ys.map (zAA prog w (rch ns)))]) (vInt (s : Nat)) (zB ((two xs ys s).map (zAA prog w (rch ns)))) := fun s hs ψ' μ => zY (by omega) (by omega) (by rcases (show s = 0 ∨ s = 1 by omega) with rfl | rfl <;> rfl)
  have lt2 : ∀ s < 2, (two xs ys s).length = (rw1 ns s).length ∧ (two xs ys s).map (·.2) = rw1 ns s := fun s hs => by
    rcases (show s = 0 ∨ s = 1 by omega) with rfl | rfl
    · exact ⟨lx, ex⟩
    · exact ⟨ly, ey⟩
  have lf0 := zBU ns (s := 0) (by omega)
  have lf1 := zBU ns (s := 1) (by omega)
  have r9 : ∀ s, s < 2 → (rw1 ns s).length ≤ 9 := fun s hs => (zAX ns hs).2.2
  refine zP (P := zB [vL (lef ns 0), vL (lef ns 1)]) b9 (EI.of c2 hsc2 (EV.conv (zAM (nn := 2) (keep := fun _ => true) (R := fun i => vL (lef ns i)) (k := k + 59) v_v (zv (f := fun l : List Int => zB (l.map vInt)) (d := []) (ns := zFl ns) (zHn rfl)) (by rfl) (fun i hi => zEZ) (fun i hi => zBy)
    (fun i hi _ => zCV (zD.le gle L6) (Kle.le L6) (e2 v_v v_v) ((zDs (k := k + 57) (row := rw1 ns i) TT hr0 (zAX ns hi).1 (by have := (zAX ns hi).2.1; omega) (r9 i hi) Kle).le L6)) (by decide)) (congrArg zB (zIs rfl rfl)))) (stoC hsc2 hft2) (fun v10 ψ10 s10 l10 p10 b10 => ?_) (zCC hsc2 (by rfl))
  have L10 := L6.trans l10
  refine y_comp (nn := 2) (keep := fun _ => true) (R := fun i => zB ((ptO ns i).map vInt)) hsc2 b10 (k := k + 59) c2 (sto hsc2) (zFN (TT.le L10).range (e1 zH) zi) (zAp rfl (by rfl) (by rfl)) (by rfl) (fun i hi => zEZ) (fun i hi => zBy)
    (fun i hi _ => EV.conv (zAM (nn := (lef ns i).length) (keep := fun _ => true) (R := fun j => vInt (RF (rw1 ns) i ((lef ns i).getD j 0))) (k := k + 58) (zG v_v v_v (glf i hi _ _)) (zv (f := vN) (d := 0) (zW rfl)) (by rfl) (fun i hi => zEZ) (fun i hi => zBy) (fun j hj _ => zG (zAq v_v v_v (grow i hi _ _)) v_v (zAh (f := vInt) (d := 0) ((zBU ns hi).2.2 _ (zAH hj)) (by have := r9 i hi; omega))) (by have := (zBU ns hi).2.1; omega)) (congrArg zB ((zAw (f := fun j => vInt (RF (rw1 ns) i j)) (d := 0) (lef ns i)).trans (by show _ = List.map vInt (List.map _ _); rw [List.map_map]; rfl)))) (by decide) (fun v11 ψ11 s11 l11 p11 b11 => ?_) (zFy hsc2 (by rfl) (by rfl) (by rfl) (by rfl))
  rw [zIs (P0 := zB ((ptO ns 0).map vInt)) (P1 := zB ((ptO ns 1).map vInt)) rfl rfl] at b11
  have L11 := L10.trans l11
  refine zP (P := zB (xs.reverse.map (zAA prog w (rch ns)))) b11 (EI.of c2 hsc2 (zG (zG v_v zH (gke' 0 (by omega) _ _)) (zDB evp0 evp0 (zEq (v_un zH zAO))) (zGD (by show xs.length ≤ _; omega)))) (stoC hsc2 hft2) fun v12 ψ12 s12 l12 p12 b12 => ?_
  have L12 := L11.trans l12
  have okF := zIm ns
  have lF := lefF_le ns
  have hrev : (rw1 ns 0).reverse.length ≤ 9 := by rw [List.length_reverse]; exact r9 0 (by omega)
  refine zP (P := vL (zHS ns)) b12 (EI.of c2 hsc2 (zCV (zD.le gle L12) (Kle.le L12) (e2 (EV.conv (zAM (nn := (rw1 ns 0).reverse.length) (keep := fun _ => true) (R := fun j => vInt (-((rw1 ns 0).reverse.getD j 0))) (k := k + 59) (zG (zAq v_v zH (grow 0 (by omega) _ _)) (zDB evp0 evp0 (zEq (v_un zH zAO))) (zGD (by have := r9 0 (by omega); omega))) (zGb (zW rfl)) (by rfl) (fun i hi => zEZ) (fun i hi => zBy) (fun j hj _ => v_un v_v zAO) (by omega)) (congrArg zB ((zAw (f := fun x : Int => vInt (-x)) (d := 0) (rw1 ns 0).reverse).trans (by show _ = List.map vInt (zGv ns); unfold zGv; rw [List.map_map]; rfl)))) v_v) ((zDs (k := k + 58) (row := zGv ns) TT hr0 okF.1 (by rw [okF.2]; omega) (by rw [okF.2]; exact r9 0 (by omega)) Kle).le L12))) (sto hsc2) fun v13 ψ13 s13 l13 p13 b13 => ?_
  have L13 := L12.trans l13
  have ddF : ddE (keq (rch ns)) xs.reverse = (zHS ns).map fun i => xs.reverse.getD i (0, 0) := by
    have h := zIO (r := rch ns) (xs := xs) (row := rw1 ns 0) hr0 ex (by have := okF.1; rw [okF.2] at this; exact this)
    rw [h]
    unfold zHS
    rw [okF.2]; rfl
  have hxr : xs.reverse.length = (rw1 ns 0).length := by rw [List.length_reverse]; exact lx
  refine zDd b13 (r := (((zHS ns).length : Int) != ((lef ns 0).length : Int)) || ((!true) || false)) (TI.of c2 hsc2 (zGE (z0 (zB4 (TT.le L13).len (e1 v_v) (zBe (by omega))) (zB4 (TT.le L13).len (e1 (zG v_v zH (glf 0 (by omega) _ _))) (zBe (by omega))) zAJ) fun _ => zGE (zEf (b_v (zCV (zD.le gwe L13) (Kwe.le L13) (e2 v_v (EV.conv (zAM (nn := (zHS ns).length) (keep := fun _ => true) (R := fun j => zAA prog w (rch ns) (xs.reverse.getD ((zHS ns).getD j 0) (0, 0))) (k := k + 59) v_v (zv (f := vN) (d := 0) (zW rfl)) (by rfl) (fun i hi => zEZ) (fun i hi => zBy) (fun j hj _ => zG v_v v_v (zAh (f := zAA prog w (rch ns)) (d := (0, 0)) (by rw [hxr, ← okF.2]; exact lF.2 _ (zAH hj)) (by omega))) (by omega)) (congrArg zB ((zAw (f := fun i => zAA prog w (rch ns) (xs.reverse.getD i (0, 0))) (d := 0) (zHS ns)).trans (by show _ = List.map _ (List.map _ _); rw [List.map_map]; rfl)))))
    ((zC3 (k := k + 55) (k0 := 4) (xs := xs.reverse) (ys := (zHS ns).map fun i => xs.reverse.getD i (0, 0)) (eq := keq (rch ns)) (d := (0, 0)) (P := zAA prog w (rch ns)) (adr := fun p => p.1) (ds := ds1) (PF := PFr prog w (rch ns)) TT T.dict T.te hkd (by omega) (by omega) key_vK zEs (by omega) (fun k' hk x y => hopE (Le.refl _) k' hk x y) ddF gdd Kdd gsa Ksa grf Krf gdu Kdu Kwe).le L13)) zAF)) fun _ => zFc)) fun ψ14 s14 l14 b14 => ?_
  have e14 : ((((zHS ns).length : Int) != ((lef ns 0).length : Int)) || ((!true) || false)) = false := by rw [zGZ]; simp
  rw [e14]
  refine zR ?_
  show Ex prog w X2 _ _ _ s14
  have L14 := L13.trans l14
  have ddK : ∀ s < 2, ddE (keq (rch ns)) (two xs ys s) = (lef ns s).map fun i => (two xs ys s).getD i (0, 0) := fun s hs => zEr hr0 (lt2 s hs).2 (zAX ns hs).1
  have kmap : ∀ (zs : List zCK) (l : List Nat), ((List.range l.length).filter fun _ => true).map (fun j => zAA prog w (rch ns) (zs.getD (l.getD j 0) (0, 0))) = (l.map fun i => zs.getD i (0, 0)).map (zAA prog w (rch ns)) := fun zs l => (zAw (f := fun i => zAA prog w (rch ns) (zs.getD i (0, 0))) (d := 0) l).trans (by rw [List.map_map]; rfl)
  refine zFT hsc2 b14 c2 (zFN (TT.le L14).range (e1 zH) zi) (zAp rfl (nn := 2) (by rfl) (by rfl)) (fun i Γ' ψ' ω' => Γ' = ([("fallen", vL (zHS ns)), ("falling", zB (xs.reverse.map (zAA prog w (rch ns)))), ("points", zB [zB ((ptO ns 0).map vInt), zB ((ptO ns 1).map vInt)]), ("left", zB [vL (lef ns 0), vL (lef ns 1)]), ("keys", zB [zB (xs.map (zAA prog w (rch ns))), zB (ys.map (zAA prog w (rch ns)))]), ("reach", vInt (rch ns)), ("rows", zCQ [zB ((rw1 ns 0).map vInt), zB ((rw1 ns 1).map vInt)])] : List (Str × VP))) (fun i hi => stoCT hsc2 hft2) (fun i Γ' ψ' ω₁ ω₂ h _ => h) (fun ψ' l' => rfl) ?_ ?_
  · rintro i Γi ψi ωi si hi rfl li bi
    have Li := L14.trans li
    have h2i := lt2 i hi
    have h9i := r9 i hi
    have hlfi := zBU ns hi
    refine zDd bi (r := !true) (TI.of c2 hsc2 (zEf (b_v (zCV (zD.le gwe Li) (Kwe.le Li) (e2 (zG v_v v_v (gke' i hi _ _)) (EV.conv (zAM (nn := (lef ns i).length) (keep := fun _ => true) (R := fun j => zAA prog w (rch ns) ((two xs ys i).getD ((lef ns i).getD j 0) (0, 0))) (k := k + 59) (zG v_v v_v (glf i hi _ _)) (zv (f := vN) (d := 0) (zW rfl)) (by rfl) (fun i hi => zEZ) (fun i hi => zBy) (fun j hj _ => zG (zG v_v v_v (gke' i hi _ _)) v_v (zAh (f := zAA prog w (rch ns)) (d := (0, 0)) (by rw [h2i.1]; exact hlfi.2.2 _ (zAH hj)) (by omega))) (by omega)) (congrArg zB (kmap (two xs ys i) (lef ns i)))))
      ((zC3 (k := k + 55) (k0 := 4) (xs := two xs ys i) (ys := (lef ns i).map fun j => (two xs ys i).getD j (0, 0)) (eq := keq (rch ns)) (d := (0, 0)) (P := zAA prog w (rch ns)) (adr := fun p => p.1) (ds := ds1) (PF := PFr prog w (rch ns)) TT T.dict T.te hkd (by have := (zAX ns hi).2.1; omega) (by omega) key_vK zEs (by omega) (fun k' hk x y => hopE (Le.refl _) k' hk x y) (ddK i hi) gdd Kdd gsa Ksa grf Krf gdu Kdu Kwe).le Li)) zAF))) fun ψj sj lj bj => ?_
    refine zR ?_
    show Ex prog w X2 _ _ _ sj
    have Lj := Li.trans lj
    refine zDd bj (r := (((lef ns i).length : Int) != ((lef ns i).length : Int))) (TI.of c2 hsc2 (z0 (zB4 (TT.le Lj).len (e1 (zG v_v v_v (glf i hi _ _))) (zBe (by omega))) (zCV (zD.le gst Lj) (Kst.le Lj) (e2 (zAq v_v v_v (grow i hi _ _)) v_v) ((zHf (k := k + 58) (row := rw1 ns i) TT hr0 (zAX ns hi).1 h9i Kst).le Lj)) zAJ)) fun ψl sl ll bl => ?_
    have e : (((lef ns i).length : Int) != ((lef ns i).length : Int)) = false := by simp
    rw [e]
    refine zR ?_
    show Ex prog w X2 _ _ _ sl
    exact zR ⟨_, ψl, ωi, rfl, lj.trans ll, bl.retype fun m t => pk t (pk t (pk t (pk t (pk t (pk t (pk t Typ.nil)))))), fun a o h _ => h⟩
  · rintro Γ' ψ15 ω' s15 rfl l15 b15
    have L15 := L14.trans l15
    have hge : X2.env.globals = mainGlobals := by obtain ⟨m, Y, _⟩ := b15; exact Y.fram.gl
    have hfl : ∀ i, (zCW (fun kept one => ddE (keq (rch ns)) (kept ++ [one])) [] xs i).length ≤ 9 := fun i => by
      unfold zCW
      rw [zIb]
      refine Nat.le_trans (zAm _) ?_
      rw [List.length_take]
      have := r9 0 (by omega)
      omega
    refine zIT (f := "reduce") (P := Plaw) (Ps := [zB (xs.map (zAA prog w (rch ns))), zB (([] : List zCK).map (zAA prog w (rch ns)))]) (R := zB ((ddE (keq (rch ns)) xs).map (zAA prog w (rch ns)))) hsc2 b15 c2 (v_g (zD.le gre L15)) (Kre.le L15).keepOk (e2 (zG v_v zH (gke' 0 (by omega) _ _)) (zEm e0 (by show 0 ≤ sizeLine; decide))) (by rfl) (zCi (by rfl)) (T.mkT.le L15) hge hcode2 (T.lawC.le L15) hPl (fun ψ' l ct pm' c' lf hf hc => ?_) (sto hsc2) fun ψ16 s16 t3 l16 b16 => ?_
    · have LL := L15.trans lf
      have FN : FnK ψ' l (fnD "<lambda>" (X2.env.qual ++ "<lambda>") _ (.expr _) _ [] pm' (.ref c') ct) := ⟨⟨_, hf, rfl⟩, rfl, rfl, by rfl, by rfl, by rfl, hc, T.lim.le LL⟩
      have h := zGA (prog := prog) (w := w) (k := k + 59) (fv := .ref l) (Bv := fun x => zB (x.map (zAA prog w (rch ns)))) (P := zAA prog w (rch ns)) (step := fun kept one => ddE (keq (rch ns)) (kept ++ [one])) (b0 := []) (xs := xs) (d := (0, 0)) (φ := ψ') ⟨T.iter.1.le LL, T.iter.2.le LL⟩ (zD.le gim LL) (LL _ _ him) hicl (fun ψ u ⟨a, vs, n, e, ho, _⟩ => ⟨a, _, e, ho, rfl⟩) (zEM hf rfl) (fun i hi => ?_) (LL _ _ hTt) hTd (Kre.le LL)
      · rw [zIb] at h
        exact h
      · have hlen := hfl i
        generalize zCW (fun kept one => ddE (keq (rch ns)) (kept ++ [one])) [] xs i = kept at hlen
        refine spec_lam (k := k + 58) (names := ["kept", "one"]) FN rfl rfl rfl (fun vs h => by obtain ⟨a, b, rfl⟩ := zZ h; rfl) (by decide +kernel) (by rfl) (by rfl) (by rfl) ?_
        refine zCV (zD.le gdu LL) (Kdu.le LL) (e1 (EV.conv (zAI v_v (zEm (Ps := [zAA prog w (rch ns) (xs.getD i (0, 0))]) (e1 v_v) (by show 1 ≤ sizeLine; decide)) (zC8 (by rw [List.length_map]; show _ + 1 ≤ _; omega))) ?_)) ((zBl (k := k + 56) (P := zAA prog w (rch ns)) (xs := kept ++ [xs.getD i (0, 0)]) (d := (0, 0)) (eq := keq (rch ns)) (Pp := zB ((kept ++ [xs.getD i (0, 0)]).map (zAA prog w (rch ns)))) (fun ψ => zW rfl) (fun x y A ψ s u v cc => hopE (Le.refl _) (k + 56) (by omega) x y A ψ s u v cc.any) (by rw [List.length_append]; show _ + 1 ≤ _; omega) Kdu).le LL)
        rw [List.map_append]; rfl
    · have L16 := L15.trans l16
      have hfin3 : ∀ ψ' s2, zQ (X2.setTb Plaw (tabObj t3)).F (X2.setTb Plaw (tabObj t3)).ψ₀ (X2.setTb Plaw (tabObj t3)).s₀ ψ' s2 → Q (.bool true) s2 := fun ψ' s2 g => by rw [zAi] at g; exact hfin2 ψ' s2 g
      have c3 : CX ⟨k + 60, true⟩ (X2.setTb Plaw (tabObj t3)) := c2.tb2
      have hsc3 : (X2.setTb Plaw (tabObj t3)).env.scope = (zA1 (st1 21) "law" [] .none .none .none pm (.ref clw) .none).scope := hsc2
      have hft3 : ∀ c ∈ (X2.setTb Plaw (tabObj t3)).env.cells.map (·.2), c ∈ (X2.setTb Plaw (tabObj t3)).ft := hft2
      clear hfin2 c2 hsc2 hft2 hcode2 hge hPl
      generalize X2.setTb Plaw (tabObj t3) = X3 at hfin3 c3 hsc3 hft3 b16
      have dd0 : ddE (keq (rch ns)) xs = (lef ns 0).map fun i => xs.getD i (0, 0) := ddK 0 (by omega)
      rw [dd0] at b16
      have pickK : ∀ (s : Nat), s < 2 → ∀ (l : List Nat), (∀ i ∈ l, i < (rw1 ns s).length) → ∀ j, j < l.length → ∀ (ψ' : PM) μ, Op2 prog w μ ψ' getItem (zB ((two xs ys s).map (zAA prog w (rch ns)))) (vN (l.getD j 0)) (zAA prog w (rch ns) ((two xs ys s).getD (l.getD j 0) (0, 0))) := fun s hs l hl j hj ψ' μ => zAh (f := zAA prog w (rch ns)) (d := (0, 0)) (by rw [(lt2 s hs).1]; exact hl _ (zAH hj)) (by rw [(lt2 s hs).1]; have := r9 s hs; omega)
      refine zDd b16 (r := !true) (TI.of c3 hsc3 (zEf (b_v (zCV (zD.le gsa L16) (Ksa.le L16) (e2 v_v (EV.conv (zAM (nn := (lef ns 0).length) (keep := fun _ => true) (R := fun j => zAA prog w (rch ns) (xs.getD ((lef ns 0).getD j 0) (0, 0))) (k := k + 59) (zG v_v zH (glf 0 (by omega) _ _)) (zv (f := vN) (d := 0) (zW rfl)) (by rfl) (fun i hi => zEZ) (fun i hi => zBy) (fun j hj _ => zG (zG v_v zH (gke' 0 (by omega) _ _)) v_v (pickK 0 (by omega) _ lf0.2.2 j hj _ _)) (by omega)) (congrArg zB (kmap xs (lef ns 0)))))
        ((zAo (k := k + 58) (P := zAA prog w (rch ns)) (ad := fun p => p.1) (xs := (lef ns 0).map fun i => xs.getD i (0, 0)) (d := (0, 0)) TT zEs (by rw [List.length_map]; omega) Ksa).le L16)) zAF))) fun ψ17 s17 l17 b17 => ?_
      refine zR ?_
      show Ex prog w X3 _ _ _ s17
      have L17 := L16.trans l17
      have lp : ∀ s, s < 2 → 0 < (ptO ns s).length ∧ (ptO ns s).length ≤ 9 := fun s hs => by
        have h : (ptO ns s).length = (lef ns s).length := List.length_map _
        rw [h]; exact ⟨(zBU ns hs).1, (zBU ns hs).2.1⟩
      have lp0 := lp 0 (by omega)
      have lp1 := lp 1 (by omega)
      refine zP (P := zN (zBW (rch ns) (ptO ns 0) (ptO ns 1))) b17 (EI.of c3 hsc3 (EV.conv (v_and (a := ((ptO ns 0).length : Int) == ((ptO ns 1).length : Int)) (b := decide (maxL ((List.range (min (ptO ns 0).length (ptO ns 1).length)).map fun i => zAU ((ptO ns 0).getD i 0 - (ptO ns 1).getD i 0)) ≤ rch ns))
        (zF7 (zB4 (TT.le L17).len (e1 (zG v_v zH (gpo 0 (by omega) _ _))) (zBe (by omega))) (zB4 (TT.le L17).len (e1 (zG v_v zH (gpo 1 (by omega) _ _))) (zBe (by omega))) zAn)
        fun _ => zF7 (zB4 (TT.le L17).max (e1 (EV.conv (v_compE (nn := min (ptO ns 0).length (ptO ns 1).length) (keep := fun _ => true) (R := fun i => vInt (zAU ((ptO ns 0).getD i 0 - (ptO ns 1).getD i 0))) (k := k + 59) (zH4 (nn := min (ptO ns 0).length (ptO ns 1).length) (ps := (ptO ns 0).map vInt) (qs := (ptO ns 1).map vInt) rfl (TT.le L17).zip (zG v_v zH (gpo 0 (by omega) _ _)) (zG v_v zH (gpo 1 (by omega) _ _)) (by rw [List.length_map, List.length_map])) (by rfl) (fun i hi p hp => ?_) (fun i hi => zBy) (fun i hi _ => ?_) (by omega)) ?_)) (zD8 (ns := (List.range (min (ptO ns 0).length (ptO ns 1).length)).map fun i => zAU ((ptO ns 0).getD i 0 - (ptO ns 1).getD i 0)) rfl (by rw [List.length_map, List.length_range]; omega))) v_v zCu) ?_)) (sto hsc3) fun v18 ψ18 s18 l18 p18 b18 => ?_
      · rcases List.mem_cons.mp hp with rfl | hp
        · rfl
        · rw [List.mem_singleton.mp hp]; rfl
      · have ga : ∀ s, s < 2 → i < (ptO ns s).length → ((ptO ns s).map vInt).getD i zCT = vInt ((ptO ns s).getD i 0) := fun s hs hi => by
          rw [List.getD_eq_getElem?_getD, List.getD_eq_getElem?_getD, List.getElem?_map, List.getElem?_eq_getElem hi]; rfl
        show EV prog w ⟨k + 59, true⟩ _ ([(Str.ofString "b", ((ptO ns 1).map vInt).getD i zCT), (Str.ofString "a", ((ptO ns 0).map vInt).getD i zCT)] ++ _) ψ17 _ _
        rw [ga 0 (by omega) (by omega), ga 1 (by omega) (by omega)]
        exact zB4 (TT.le L17).abs (e1 (zAI v_v v_v z8)) zGF
      · rw [zCt]
        show zB _ = zB _
        rw [List.map_map]; rfl
      · unfold zBW
        congr 2
        rw [Bool.eq_iff_iff]
        simp only [beq_iff_eq, decide_eq_true_eq]
        omega
      have L18 := L17.trans l18
      have hcao := cao_is (ns := ns) ex ey
      have scao : ∀ (zs us : List zCK), zs.length ≤ 1000 → us.length ≤ 1000 → zj prog w ⟨k + 60, true⟩ ψ18 (.ref aca) [zB (zs.map (zAA prog w (rch ns))), zB (us.map (zAA prog w (rch ns)))] (zN (zHX (keq (rch ns)) zs us)) := fun zs us hz hu => (spec_cao (k := k + 57) (k0 := 4) (P := zAA prog w (rch ns)) (eq := keq (rch ns)) (xs := zs) (ys := us) (d := (0, 0)) TT.list T.ve (fun ψ => zW rfl) (fun ψ => zW rfl) (by omega) (fun k' hk x y => hopE (Le.refl _) k' hk x y) (by omega) (by omega) gdu Kdu Kca).le L18
      refine zDd b18 (r := ((zHX (keq (rch ns)) xs ys) != (zBW (rch ns) (ptO ns 0) (ptO ns 1))) || (((zHX (keq (rch ns)) ys xs) != (zBW (rch ns) (ptO ns 0) (ptO ns 1))) || false)) (TI.of c3 hsc3 (zGE (z0 (zCV (zD.le gca L18) (Kca.le L18) (e2 (zG v_v zH (gke' 0 (by omega) _ _)) (zG v_v zH (gke' 1 (by omega) _ _))) (scao xs ys (by omega) (by omega))) v_v zBq) fun _ => zGE (z0 (zCV (zD.le gca L18) (Kca.le L18) (e2 (zG v_v zH (gke' 1 (by omega) _ _)) (zG v_v zH (gke' 0 (by omega) _ _))) (scao ys xs (by omega) (by omega))) v_v zBq) fun _ => zFc)) fun ψ19 s19 l19 b19 => ?_
      have e19 : (((zHX (keq (rch ns)) xs ys) != (zBW (rch ns) (ptO ns 0) (ptO ns 1))) || (((zHX (keq (rch ns)) ys xs) != (zBW (rch ns) (ptO ns 0) (ptO ns 1))) || false)) = false := by rw [hcao.1, hcao.2]; simp
      rw [e19]
      refine zR ?_
      show Ex prog w X3 _ _ _ s19
      have L19 := L18.trans l19
      have ordG : Op2 prog w ⟨k + 59, true⟩ φ (compareOp .Gt) (zB ((ptO ns 0).map vInt)) (zB ((ptO ns 1).map vInt)) (zN (zGQ (fun x y : Int => x == y) (fun x y => decide (y < x)) (decide ((ptO ns 1).length < (ptO ns 0).length)) (ptO ns 0) (ptO ns 1))) := zHr (d := false) (k := k + 58) (fun x y => zFs zAn (fun ψ v h1 h2 => by obtain ⟨t, rfl⟩ := h1; obtain ⟨u, e⟩ := h2; cases e; simp) (fun ψ v h => by obtain ⟨t, rfl⟩ := h; rfl)) (fun x y => zAW)
      have ordL : Op2 prog w ⟨k + 59, true⟩ φ (compareOp .Lt) (zB ((ptO ns 0).map vInt)) (zB ((ptO ns 1).map vInt)) (zN (zGQ (fun x y : Int => x == y) (fun x y => decide (x < y)) (decide ((ptO ns 0).length < (ptO ns 1).length)) (ptO ns 0) (ptO ns 1))) := zHr (d := true) (k := k + 58) (fun x y => zFs zAn (fun ψ v h1 h2 => by obtain ⟨t, rfl⟩ := h1; obtain ⟨u, e⟩ := h2; cases e; simp) (fun ψ v h => by obtain ⟨t, rfl⟩ := h; rfl)) (fun x y => zAk)
      have hsign := zGW (ptO ns 0) (ptO ns 1)
      refine zP (P := vInt (zAK (ptO ns 0) (ptO ns 1))) b19 (EI.of c3 hsc3 (EV.conv (zCV (zD.le gth L19) (Kth.le L19) (e2 (zG v_v zH (gpo 0 (by omega) _ _)) (zG v_v zH (gpo 1 (by omega) _ _))) ((zDD (k := k + 59) Kth ordG ordL).le L19)) (congrArg vInt hsign.symm))) (sto hsc3) fun v20 ψ20 s20 l20 p20 b20 => ?_
      have L20 := L19.trans l20
      refine zDd b20 (r := false || ((zAK (ptO ns 0) (ptO ns 1) != zAK (ptO ns 0) (ptO ns 1)) || false)) (TI.of c3 hsc3 (zGE (z0 (zFN (TT.le L20).type (e1 v_v) zGp) (v_b (TT.le L20).int) zAy) fun _ => zGE (z0 v_v (zCV (zD.le gsi L20) (Ksi.le L20) (e2 (zG v_v zH (gpo 0 (by omega) _ _)) (zG v_v zH (gpo 1 (by omega) _ _))) ((zIj (k := k + 58) TT (by omega) (by omega) Ksi).le L20)) zAJ) fun _ => zFc)) fun ψ21 s21 l21 b21 => ?_
      have e21 : (false || ((zAK (ptO ns 0) (ptO ns 1) != zAK (ptO ns 0) (ptO ns 1)) || false)) = false := by simp
      rw [e21]
      refine zR ?_
      show Ex prog w X3 _ _ _ s21
      have L21 := L20.trans l21
      have hU : ∀ s < 2, Up (RF (rw1 ns) s) (rw1 ns s).length := fun s hs => (zAX ns hs).1
      have hN : ∀ s < 2, 0 < (rw1 ns s).length ∧ (rw1 ns s).length ≤ 900 := fun s hs => by have := zAX ns hs; omega
      have hpm : ∀ t ∈ zd (rw1 ns) (lef ns), t ∈ zAc (rw1 ns) (lef ns) := fun t ht => (zIU (r := rch ns) hU fun s hs => (hN s hs).2).1.mem_iff.mp ht
      have hsld := sld_fin (r := rch ns) (row := rw1 ns) (f := fun p : zCK => p.2) (d := ((0 : Addr), (0 : Int))) (lt := klt (rch ns)) (gt := kgt (rch ns)) (eq := keq (rch ns)) (xs := xs) (ys := ys) hr0 ex.symm ey.symm rfl hU hN (zDV hr0) (klt_is hr0) (kgt_is hr0)
      have finm : ∀ s, s < 2 → ∀ i ∈ zAf (rw1 ns) (lef ns) (zAT (zd (rw1 ns) (lef ns)) (rch ns) (zd (rw1 ns) (lef ns)).length).2 s, i < (rw1 ns s).length := fun s hs i hi => by
        have hlk : ∀ i ∈ (zAT (zd (rw1 ns) (lef ns)) (rch ns) (zd (rw1 ns) (lef ns)).length).2 s, i < (rw1 ns s).length := fun i hi => by
          obtain ⟨v, hv⟩ := zEW _ (Nat.le_refl _) i hi
          have h := hpm _ hv
          rw [zAr] at h
          rcases List.mem_append.mp h with h | h
          · obtain ⟨j, hj, e⟩ := List.mem_map.mp h
            have e2 : s = 0 ∧ i = j := by unfold mkT at e; simp only [Prod.mk.injEq] at e; omega
            rw [e2.1, e2.2]; exact (zAe hj).1
          · obtain ⟨j, hj, e⟩ := List.mem_map.mp h
            have e2 : s = 1 ∧ i = j := by unfold mkT at e; simp only [Prod.mk.injEq] at e; omega
            rw [e2.1, e2.2]; exact (zAe hj).1
        unfold zAf at hi
        split at hi
        · exact hlk i hi
        · rcases List.mem_append.mp hi with hi | hi
          · exact hlk i (List.mem_filter.mp hi).1
          · obtain ⟨j, hj, rfl⟩ := List.mem_map.mp hi
            have := List.mem_range.mp hj
            omega
      have finl : ∀ s, s < 2 → (zAf (rw1 ns) (lef ns) (zAT (zd (rw1 ns) (lef ns)) (rch ns) (zd (rw1 ns) (lef ns)).length).2 s).length ≤ 100 := fun s hs => by
        have h1 := zCd (pts := zd (rw1 ns) (lef ns)) (r := rch ns) (s := s) (zd (rw1 ns) (lef ns)).length
        have h2 : (zd (rw1 ns) (lef ns)).length ≤ 20 := by
          show (zB5 _ _ _).length ≤ _
          rw [zCP, zAr, List.length_append, List.length_map, List.length_map]
          have := lf0.2.1
          have := lf1.2.1
          show (lef ns 0).length + (lef ns 1).length ≤ 20
          omega
        have h3 := r9 s hs
        unfold zAf
        split
        · omega
        · rw [List.length_append, List.length_map, List.length_range]
          rename_i b0 _ _
          have := List.length_filter_le (fun i => decide (i < b0)) ((zAT (zd (rw1 ns) (lef ns)) (rch ns) (zd (rw1 ns) (lef ns)).length).2 s)
          omega
      have hlack := (zEb (prog := prog) (w := w) (k := k + 48) (row := rw1 ns) (lf := lef ns) (r := rch ns) TT (fun s hs => by have := r9 s hs; omega) (fun s hs => by have := zBU ns hs; exact ⟨this.1, by omega, this.2.2⟩) hpm Kla).le L21
      generalize zAf (rw1 ns) (lef ns) (zAT (zd (rw1 ns) (lef ns)) (rch ns) (zd (rw1 ns) (lef ns)).length).2 = fin at hsld finm finl hlack
      refine zP (P := zB [vL (fin 0), vL (fin 1)]) b21 (EI.of c3 hsc3 (zCV (zD.le gla L21) (Kla.le L21) (e3 v_v v_v v_v) hlack)) (sto hsc3) fun v22 ψ22 s22 l22 p22 b22 => ?_
      have L22 := L21.trans l22
      have gfi : ∀ s < 2, ∀ (ψ' : PM) μ, Op2 prog w μ ψ' getItem (zB [vL (fin 0), vL (fin 1)]) (vInt (s : Nat)) (vL (fin s)) := fun s hs ψ' μ => zY (by omega) (by omega) (by rcases (show s = 0 ∨ s = 1 by omega) with rfl | rfl <;> rfl)
      have stold := (spec_sld (k := k + 59) (P := zAA prog w (rch ns)) (lt := klt (rch ns)) (gt := kgt (rch ns)) (eq := keq (rch ns)) (xs := xs) (ys := ys) T.ie (fun x y => key_lt hlim (by omega) x y) (fun x y => key_gt hlim (by omega) x y) (fun x y => key_eq hlim (by omega) x y) (by omega) (by omega) Ksl).le L22
      rw [hsld] at stold
      refine zP b22 (EI.of c3 hsc3 (zCV (zD.le gsl L22) (Ksl.le L22) (e2 (zG v_v zH (gke' 0 (by omega) _ _)) (zG v_v zH (gke' 1 (by omega) _ _))) stold)) (sto hsc3) fun v23 ψ23 s23 l23 p23 b23 => ?_
      have L23 := L22.trans l23
      dsimp only at b23
      refine zDd b23 (r := false || (((2 : Int) != 2) || false)) (TI.of c3 hsc3 (zGE (z0 (zFN (TT.le L23).type (e1 v_v) zHH) (v_b (TT.le L23).tuple) zAy) fun _ => zGE (z0 (zB4 (TT.le L23).len (e1 v_v) (zHT (by show (2 : Int) < _; decide))) zH zAJ) fun _ => zFc)) fun ψ24 s24 l24 b24 => ?_
      refine zR ?_
      show Ex prog w X3 _ _ _ s24
      have L24 := L23.trans l24
      have f0 := finm 0 (by omega)
      have f1 := finm 1 (by omega)
      have g0 := finl 0 (by omega)
      have g1 := finl 1 (by omega)
      refine zBm b24 (P := zN true) (EI.of c3 hsc3 (v_and (a := true) (b := true)
        (zCV (zD.le gsa L24) (Ksa.le L24) (e2 (zAq v_v zH (zBG (i := 0) (by decide) rfl)) (EV.conv (zAM (nn := (fin 0).length) (keep := fun _ => true) (R := fun j => zAA prog w (rch ns) (xs.getD ((fin 0).getD j 0) (0, 0))) (k := k + 59) (zG v_v zH (gfi 0 (by omega) _ _)) (zv (f := vN) (d := 0) (zW rfl)) (by rfl) (fun i hi => zEZ) (fun i hi => zBy) (fun j hj _ => zG (zG v_v zH (gke' 0 (by omega) _ _)) v_v (pickK 0 (by omega) _ f0 j hj _ _)) (by omega)) (congrArg zB (kmap xs (fin 0)))))
          ((zAo (k := k + 58) (P := zAA prog w (rch ns)) (ad := fun p => p.1) (xs := (fin 0).map fun i => xs.getD i (0, 0)) (d := (0, 0)) TT zEs (by rw [List.length_map]; omega) Ksa).le L24))
        fun _ => zCV (zD.le gsa L24) (Ksa.le L24) (e2 (zAq v_v zH (zBG (i := 1) (by decide) rfl)) (EV.conv (zAM (nn := (fin 1).length) (keep := fun _ => true) (R := fun j => zAA prog w (rch ns) (ys.getD ((fin 1).getD j 0) (0, 0))) (k := k + 59) (zG v_v zH (gfi 1 (by omega) _ _)) (zv (f := vN) (d := 0) (zW rfl)) (by rfl) (fun i hi => zEZ) (fun i hi => zBy) (fun j hj _ => zG (zG v_v zH (gke' 1 (by omega) _ _)) v_v (pickK 1 (by omega) _ f1 j hj _ _)) (by omega)) (congrArg zB (kmap ys (fin 1)))))
          ((zAo (k := k + 58) (P := zAA prog w (rch ns)) (ad := fun p => p.1) (xs := (fin 1).map fun i => ys.getD i (0, 0)) (d := (0, 0)) TT zEs (by rw [List.length_map]; omega) Ksa).le L24))) fun v ψ' s' l p b' => ?_
      cases p
      exact hfin3 ψ' s' b'.toGrow
end
theorem zCM {P : Params} {h : Heap} {ψ : PM} : ∀ {ns : List Int} {vs : List Value}, PySem.W.WellAll P h vs (ofPys (ns.map PyData.int)) → zO (fun (P : VP) v => P.p ψ v) (ns.map vInt) vs
  | [], _, h => by
    simp only [List.map_nil, ofPys] at h
    cases h; exact .nil
  | n :: ns, _, h => by
    simp only [List.map_cons, ofPys, ofPy] at h
    cases h with
    | cons a t =>
      cases a
      exact .cons ⟨_, rfl⟩ (zCM t)
noncomputable def zDF (P Q R : Addr) (h : Heap) : PM := fun a => if a = P ∨ a = Q ∨ a = R then none else h.get? a
theorem phi3_sub {P Q R : Addr} {h : Heap} : Sub (zDF P Q R h) h := fun b o e => by
  unfold zDF at e
  split at e
  · cases e
  · exact e
noncomputable def offC (P Q R a : Addr) : Bool := !(Nat.beq a P || (Nat.beq a Q || Nat.beq a R))
theorem zGK {P Q R : Addr} {h : Heap} {a : Addr} (h1 : offC P Q R a = true) : zDF P Q R h a = h.get? a := by
  unfold zDF
  rw [if_neg]
  have h2 := (Bool.or_eq_false_iff.mp ((Bool.not_eq_true' _).mp h1))
  have h3 := Bool.or_eq_false_iff.mp h2.2
  rintro (q | q | q)
  · exact Nat.ne_of_beq_eq_false h2.1 q
  · exact Nat.ne_of_beq_eq_false h3.1 q
  · exact Nat.ne_of_beq_eq_false h3.2 q
section
variable {P Q R : Addr} {h : Heap} {as : List Addr} {os : List (Option Obj)} {nl : List (Addr × Str)} {vs : List (Option Value)} {es : List Addr}
theorem zBT.at3 (K : zBT h as os nl vs es) {a : Addr} {o : Obj} (h1 : offC P Q R a = true) (e : objT as os a = some o) : zDF P Q R h a = some o := (zGK h1).trans (K.obj e)
theorem zBT.ns3 (K : zBT h as os nl vs es) {a : Addr} {x : Str} {r : Option Value} (h1 : offC P Q R a = true) (ha : es.any (Nat.beq a) = true) (e : nsT nl vs a x = some r) : zD (zDF P Q R h) a x r := by
  obtain ⟨o, ds, ep, ho, hd, hk, hf⟩ := K.nsv ha e
  exact ⟨o, ds, ep, (zGK h1).trans ho, hd, hk, hf⟩
noncomputable def fdC (P Q R a c : Addr) (fd : FuncData) : Bool := (offC P Q R a && offC P Q R c) && (Nat.beq fd.globals mainGlobals && Nat.beq fd.builtins builtinsNs && (isFn fd.scope.kind && (!fd.scope.isCoroutine && !fd.scope.isGenerator)))
theorem zBT.fn3 (K : zBT h as os nl vs es) {a c : Addr} {fd : FuncData} {cs : List Value} {tq : Tok} (lim : zD (zDF P Q R h) cStatics "sys.recursionlimit" none) (e : objT as os a = some (fnO fd)) (hcode : fd.code = .ref c) (ec : objT as os c = some (zAj cs)) (hq : cs[1]? = some (.str fd.qualname tq)) (hb : fdC P Q R a c fd = true) : FnK (zDF P Q R h) a fd := by
  have h1 := Bool.and_eq_true_iff.mp hb
  have h3 := Bool.and_eq_true_iff.mp h1.1
  have h4 := Bool.and_eq_true_iff.mp h1.2
  have h5 := Bool.and_eq_true_iff.mp h4.1
  have h6 := Bool.and_eq_true_iff.mp h4.2
  have h7 := Bool.and_eq_true_iff.mp h6.2
  exact ⟨⟨_, K.at3 h3.1 e, rfl⟩, Nat.eq_of_beq_eq_true h5.1, Nat.eq_of_beq_eq_true h5.2, isFn_eq h6.1, (Bool.not_eq_true' _).mp h7.1, (Bool.not_eq_true' _).mp h7.2, ⟨c, _, _, tq, hcode, K.at3 h3.2 ec, rfl, by rw [List.getElem?_toArray]; exact hq⟩, lim⟩
theorem zBT.codeHd3 (K : zBT h as os nl vs es) {c T : Addr} {cs : List Value} {file : Str} {tf tg tt : Tok} {flags text : Int} {inF : Bool} (h1 : offC P Q R c = true) (e : objT as os c = some (zAj cs)) (e1 : cs[11]? = some (.ref T)) (e2 : cs[18]? = some (.str file tf)) (e3 : cs[7]? = some (.int flags tg)) (e4 : cs[9]? = some (.bool inF)) (e5 : cs[10]? = some (.int text tt)) (hne : c ≠ T) : zX (zDF P Q R h) c T := by
  have g : ∀ {i : Nat} {v : Value}, cs[i]? = some v → cs.toArray.getD i .none = v := fun {i v} q => by
    rw [Array.getD_eq_getD_getElem?, List.getElem?_toArray, q]; rfl
  exact ⟨_, _, file, tf, flags, tg, inF, text, tt, K.at3 h1 e, rfl, rfl, by rw [List.getElem?_toArray]; exact e1, g e1, g e2, g e3, g e4, g e5, hne⟩
end
theorem law1_end {prog : Program} {w : World} {c : ClaimW} {cl : Str → Option Addr} {mean : ExcName → Option Value} {args : List WData} {s₁ : Shared} {ns : List Int} {a clw Plaw Pkey Pctk sv : Addr} {Pr : Params} {E : Value → Shared → Prop} (T : Law1 (zDF Plaw Pkey Pctk s₁.heap) a clw Plaw Pkey Pctk) (hns : ns.length ≤ 63) (W : PySem.W.Well Pr s₁.heap (.ref sv) (ofPy (PyData.list (ns.map PyData.int)))) (e1 : s₁.heap.get? Plaw = some (tabObj #[])) (e2 : s₁.heap.get? Pkey = some (tabObj #[])) (e3 : s₁.heap.get? Pctk = some (tabObj #[])) (hn1 : Plaw ≠ Pkey) (hn2 : Plaw ≠ Pctk) (hn3 : Pkey ≠ Pctk) (i1 : isCodeTable s₁.heap Plaw) (i2 : isCodeTable s₁.heap Pkey) (i3 : isCodeTable s₁.heap Pctk) (hr : ∀ cls, c.raises args cls = false) (hp : c.post args (.bool true) args = true) (hg : s₁.gens = #[]) : wpAny (model prog w) callerA (call (.ref a) [.ref sv]) (fun v s' => GoodWG c cl mean args s₁ (.ok (.ret v)) s') E s₁ := by
  have hsub := phi3_sub (P := Plaw) (Q := Pkey) (R := Pctk) (h := s₁.heap)
  have hfr : frs callerA = [] := rfl
  have c0 : Cx ⟨61, true⟩ callerA (zDF Plaw Pkey Pctk s₁.heap) s₁ := ⟨by decide, by decide, fun _ => rfl, .inl rfl, ⟨[], rfl, fun _ h => nomatch h⟩, (fun b hb => by rw [hfr] at hb; cases hb), hsub⟩
  have hsv : (zB (ns.map vInt)).p (zDF Plaw Pkey Pctk s₁.heap) (.ref sv) := by
    simp only [ofPy] at W
    cases W with
    | @list _ vs _ hget hall =>
      refine ⟨sv, vs, 0, rfl, ?_, zCM hall⟩
      unfold zDF
      rw [if_neg, hget]
      rintro (q | q | q)
      · subst q; rw [e1] at hget; cases hget
      · subst q; rw [e2] at hget; cases hget
      · subst q; rw [e3] at hget; cases hget
  have off : ∀ P, P ∉ frs callerA := fun P => by rw [hfr]; exact List.not_mem_nil
  refine zHy (k := 0) T hns c0 (Le.refl _) hsv hn1 hn2 hn3 ⟨e1, if_pos (.inl rfl), off _⟩ ⟨e2, if_pos (.inr (.inl rfl)), off _⟩ ⟨e3, if_pos (.inr (.inr rfl)), off _⟩ fun ψ' s' g => ?_
  obtain ⟨h', tk, hs'⟩ := g.ext.rest
  have hF : ∀ b, b ∈ Plaw :: Pkey :: Pctk :: frs callerA → isCodeTable s₁.heap b ∧ s₁.heap.get? b = some (tabObj #[]) := fun b hb => by
    rcases List.mem_cons.mp hb with rfl | hb
    · exact ⟨i1, e1⟩
    rcases List.mem_cons.mp hb with rfl | hb
    · exact ⟨i2, e2⟩
    rcases List.mem_cons.mp hb with rfl | hb
    · exact ⟨i3, e3⟩
    · rw [hfr] at hb; cases hb
  have hold : ∀ b o, s₁.heap.get? b = some o → asItWas s₁.heap s'.heap b o := fun b o e => by
    rcases g.ext.kept b o e with ⟨sl, hh, hs⟩ | ⟨hb, hc, vs, more, hd, hh⟩
    · rcases hs with hs | ⟨hb, hn⟩
      · subst hs; exact .inl hh
      · have := (hF b hb).2
        rw [e] at this; cases this
        exact absurd rfl (hn #[])
    · exact .inr (.inl ⟨(hF b hb).1, hc, vs, more, hd, hh⟩)
  refine ⟨.inl ⟨_, _, [], rfl, hr, ReadsW.bool true, hp, fun _ => ⟨List.nodup_nil, fun _ hm => (nomatch hm)⟩⟩, ⟨hold, fun b o e => ?_⟩, by rw [hs'], by rw [hs']; show AllBare s₁.gens; rw [hg]; exact AllBare.empty⟩
  rcases g.ext.kept b o e with ⟨sl, hh, _⟩ | ⟨_, _, vs, more, _, hh⟩
  · exact ⟨_, hh⟩
  · exact ⟨_, hh⟩
noncomputable def nq (a : Addr) (x : Str) : Addr × Str := (a, x)
noncomputable def fn1 (i : Nat) (q : Str) (dV kV pm : Value) (c : Addr) : Obj := fnO (zA1 (st1 i) q [] dV kV .none pm (.ref c) .none)
noncomputable def cv1_21 : List Value := [.str "_deduplicate" 190, .str "_deduplicate" 191, .str "/claim/cut.py" 192, .int (2) 0, .int (1) 0, .int (0) 0, .int (1) 0, .int (3) 0, .ref 16, .bool true, .int (181) 0, .ref 17, .none, .ref 18, .ref 19, .ref 20, .int (195) 0, .int (2) 0, .str "/claim/cut.py" 196]
noncomputable def cv1_28 : List Value := [.str "_deduplicate_unhashable" 198, .str "_deduplicate_unhashable" 199, .str "/claim/cut.py" 200, .int (9) 0, .int (1) 0, .int (0) 0, .int (0) 0, .int (3) 0, .ref 23, .bool true, .int (181) 0, .ref 24, .none, .ref 25, .ref 26, .ref 27, .int (204) 0, .int (9) 0, .str "/claim/cut.py" 205]
noncomputable def cv1_35 : List Value := [.str "_compare_args_orderless" 207, .str "_compare_args_orderless" 208, .str "/claim/cut.py" 209, .int (15) 0, .int (2) 0, .int (0) 0, .int (0) 0, .int (3) 0, .ref 30, .bool true, .int (181) 0, .ref 31, .none, .ref 32, .ref 33, .ref 34, .int (216) 0, .int (15) 0, .str "/claim/cut.py" 217]
noncomputable def zIk : List Value := [.str "cmp_to_key" 221, .str "cmp_to_key" 222, .str "/claim/cut.py" 223, .int (26) 0, .int (1) 0, .int (0) 0, .int (0) 0, .int (3) 0, .ref 37, .bool true, .int (181) 0, .ref 38, .none, .ref 39, .ref 40, .ref 41, .int (227) 0, .int (26) 0, .str "/claim/cut.py" 228]
noncomputable def cv1_51 : List Value := [.str "reduce" 231, .str "reduce" 232, .str "/claim/cut.py" 233, .int (52) 0, .int (3) 0, .int (0) 0, .int (0) 0, .int (3) 0, .ref 46, .bool true, .int (181) 0, .ref 47, .none, .ref 48, .ref 49, .ref 50, .int (240) 0, .int (52) 0, .str "/claim/cut.py" 241]
noncomputable def cv1_58 : List Value := [.str "sorted_list_difference" 245, .str "sorted_list_difference" 246, .str "/claim/cut.py" 247, .int (65) 0, .int (2) 0, .int (0) 0, .int (0) 0, .int (3) 0, .ref 53, .bool true, .int (181) 0, .ref 54, .none, .ref 55, .ref 56, .ref 57, .int (256) 0, .int (65) 0, .str "/claim/cut.py" 257]
noncomputable def cv1_65 : List Value := [.str "three_way_cmp" 259, .str "three_way_cmp" 260, .str "/claim/cut.py" 261, .int (97) 0, .int (2) 0, .int (0) 0, .int (0) 0, .int (3) 0, .ref 60, .bool true, .int (181) 0, .ref 61, .none, .ref 62, .ref 63, .ref 64, .int (264) 0, .int (97) 0, .str "/claim/cut.py" 265]
noncomputable def cv1_72 : List Value := [.str "_law_rows" 269, .str "_law_rows" 270, .str "/claim/cut.py" 271, .int (100) 0, .int (1) 0, .int (0) 0, .int (0) 0, .int (3) 0, .ref 67, .bool true, .int (181) 0, .ref 68, .none, .ref 69, .ref 70, .ref 71, .int (275) 0, .int (100) 0, .str "/claim/cut.py" 276]
noncomputable def zHm : List Value := [.str "_law_key" 278, .str "_law_key" 279, .str "/claim/cut.py" 280, .int (108) 0, .int (1) 0, .int (0) 0, .int (0) 0, .int (3) 0, .ref 74, .bool true, .int (181) 0, .ref 75, .none, .ref 76, .ref 77, .ref 78, .int (283) 0, .int (108) 0, .str "/claim/cut.py" 284]
noncomputable def cv1_84 : List Value := [.str "_law_left" 286, .str "_law_left" 287, .str "/claim/cut.py" 288, .int (110) 0, .int (2) 0, .int (0) 0, .int (0) 0, .int (3) 0, .ref 81, .bool true, .int (181) 0, .ref 82, .none, .none, .none, .ref 83, .int (289) 0, .int (110) 0, .str "/claim/cut.py" 290]
noncomputable def cv1_89 : List Value := [.str "_law_stretches" 292, .str "_law_stretches" 293, .str "/claim/cut.py" 294, .int (115) 0, .int (2) 0, .int (0) 0, .int (0) 0, .int (3) 0, .ref 86, .bool true, .int (181) 0, .ref 87, .none, .none, .none, .ref 88, .int (295) 0, .int (115) 0, .str "/claim/cut.py" 296]
noncomputable def cv1_94 : List Value := [.str "_law_lacking" 298, .str "_law_lacking" 299, .str "/claim/cut.py" 300, .int (120) 0, .int (3) 0, .int (0) 0, .int (0) 0, .int (3) 0, .ref 91, .bool true, .int (181) 0, .ref 92, .none, .none, .none, .ref 93, .int (301) 0, .int (120) 0, .str "/claim/cut.py" 302]
noncomputable def cv1_99 : List Value := [.str "_law_same" 304, .str "_law_same" 305, .str "/claim/cut.py" 306, .int (136) 0, .int (2) 0, .int (0) 0, .int (0) 0, .int (3) 0, .ref 96, .bool true, .int (181) 0, .ref 97, .none, .none, .none, .ref 98, .int (307) 0, .int (136) 0, .str "/claim/cut.py" 308]
noncomputable def cv1_106 : List Value := [.str "_law_sign" 310, .str "_law_sign" 311, .str "/claim/cut.py" 312, .int (140) 0, .int (2) 0, .int (0) 0, .int (0) 0, .int (3) 0, .ref 101, .bool true, .int (181) 0, .ref 102, .none, .ref 103, .ref 104, .ref 105, .int (317) 0, .int (140) 0, .str "/claim/cut.py" 318]
noncomputable def cv1_113 : List Value := [.str "_law_refused" 320, .str "_law_refused" 321, .str "/claim/cut.py" 322, .int (145) 0, .int (1) 0, .int (0) 0, .int (0) 0, .int (3) 0, .ref 108, .bool true, .int (181) 0, .ref 109, .none, .ref 110, .ref 111, .ref 112, .int (324) 0, .int (145) 0, .str "/claim/cut.py" 325]
noncomputable def cv1_120 : List Value := [.str "_law_weeded" 327, .str "_law_weeded" 328, .str "/claim/cut.py" 329, .int (151) 0, .int (2) 0, .int (0) 0, .int (0) 0, .int (3) 0, .ref 115, .bool true, .int (181) 0, .ref 116, .none, .ref 117, .ref 118, .ref 119, .int (333) 0, .int (151) 0, .str "/claim/cut.py" 334]
noncomputable def zFr : List Value := [.str "law" 336, .str "law" 337, .str "/claim/cut.py" 338, .int (158) 0, .int (1) 0, .int (0) 0, .int (0) 0, .int (3) 0, .ref 122, .bool true, .int (181) 0, .ref 123, .none, .none, .none, .ref 124, .int (339) 0, .int (158) 0, .str "/claim/cut.py" 340]
noncomputable def as1 : List Addr := [22, 29, 36, 43, 52, 59, 66, 73, 80, 85, 90, 95, 100, 107, 114, 121, 126, 21, 28, 35, 42, 51, 58, 65, 72, 79, 84, 89, 94, 99, 106, 113, 120, 125, 45, 44, 123, 75, 38, 4]
noncomputable def os1 : List (Option Obj) := [
  some (fn1 1 "_deduplicate" (.none) (.ref 15) (.str "cpy313.typing" 187) 21),
  some (fn1 2 "_deduplicate_unhashable" (.none) (.none) (.str "cpy313.typing" 187) 28),
  some (fn1 3 "_compare_args_orderless" (.none) (.none) (.str "cpy313.typing" 187) 35),
  some (fn1 5 "cmp_to_key" (.none) (.none) (.str "cpy313.functools" 219) 42),
  some (fn1 7 "reduce" (.ref 45) (.none) (.str "cpy313.functools" 219) 51),
  some (fn1 9 "sorted_list_difference" (.none) (.none) (.str "cpy313.unittest.util" 243) 58),
  some (fn1 10 "three_way_cmp" (.none) (.none) (.str "cpy313.unittest.util" 243) 65),
  some (fn1 12 "_law_rows" (.none) (.none) (.str "law_op0045_01" 267) 72),
  some (fn1 13 "_law_key" (.none) (.none) (.str "law_op0045_01" 267) 79),
  some (fn1 14 "_law_left" (.none) (.none) (.str "law_op0045_01" 267) 84),
  some (fn1 15 "_law_stretches" (.none) (.none) (.str "law_op0045_01" 267) 89),
  some (fn1 16 "_law_lacking" (.none) (.none) (.str "law_op0045_01" 267) 94),
  some (fn1 17 "_law_same" (.none) (.none) (.str "law_op0045_01" 267) 99),
  some (fn1 18 "_law_sign" (.none) (.none) (.str "law_op0045_01" 267) 106),
  some (fn1 19 "_law_refused" (.none) (.none) (.str "law_op0045_01" 267) 113),
  some (fn1 20 "_law_weeded" (.none) (.none) (.str "law_op0045_01" 267) 120),
  some (fn1 21 "law" (.none) (.none) (.str "law_op0045_01" 267) 125),
  some (zAj cv1_21),
  some (zAj cv1_28),
  some (zAj cv1_35),
  some (zAj zIk),
  some (zAj cv1_51),
  some (zAj cv1_58),
  some (zAj cv1_65),
  some (zAj cv1_72),
  some (zAj zHm),
  some (zAj cv1_84),
  some (zAj cv1_89),
  some (zAj cv1_94),
  some (zAj cv1_99),
  some (zAj cv1_106),
  some (zAj cv1_113),
  some (zAj cv1_120),
  some (zAj zFr),
  some (zFW [.ref 44]),
  some ({ cls := .type "object" }),
  some (tabObj #[]),
  some (tabObj #[]),
  some (tabObj #[]),
  some ({ cls := .type "module", dict := some 0 })]
noncomputable def ns1 : List (Addr × Str) := [nq 3 "_deduplicate", nq 3 "_deduplicate_unhashable", nq 3 "_compare_args_orderless", nq 3 "cmp_to_key", nq 3 "reduce", nq 3 "sorted_list_difference", nq 3 "three_way_cmp", nq 3 "_law_rows", nq 3 "_law_key", nq 3 "_law_left", nq 3 "_law_stretches", nq 3 "_law_lacking", nq 3 "_law_same", nq 3 "_law_sign", nq 3 "_law_refused", nq 3 "_law_weeded", nq 3 "law", nq 3 "range", nq 0 "range", nq 3 "list", nq 0 "list", nq 3 "type", nq 0 "type", nq 3 "zip", nq 0 "zip", nq 3 "tuple", nq 0 "tuple", nq 3 "int", nq 0 "int", nq 3 "dict", nq 0 "dict", nq 3 "TypeError", nq 0 "TypeError", nq 3 "ValueError", nq 0 "ValueError", nq 3 "IndexError", nq 0 "IndexError", nq 3 "object", nq 0 "object", nq 3 "len", nq 0 "len", nq 3 "max", nq 0 "max", nq 3 "min", nq 0 "min", nq 3 "sorted", nq 0 "sorted", nq 3 "abs", nq 0 "abs", nq 3 "sum", nq 0 "sum", nq 3 "iter", nq 0 "iter", nq 0 "__build_class__", nq 2 "thirdparty.any", nq 2 "sys.recursionlimit", nq 3 "_initial_missing", nq 3 "__name__", nq 3 "__builtins__", nq 15 "unhashable_fallback", nq 1 "zz"]
noncomputable def vs1 : List (Option Value) := [some (.ref 22), some (.ref 29), some (.ref 36), some (.ref 43), some (.ref 52), some (.ref 59), some (.ref 66), some (.ref 73), some (.ref 80), some (.ref 85), some (.ref 90), some (.ref 95), some (.ref 100), some (.ref 107), some (.ref 114), some (.ref 121), some (.ref 126), none, some (.type "range"), none, some (.type "list"), none, some (.type "type"), none, some (.type "zip"), none, some (.type "tuple"), none, some (.type "int"), none, some (.type "dict"), none, some (.type "TypeError"), none, some (.type "ValueError"), none, some (.type "IndexError"), none, some (.type "object"), none, some (.builtin "len"), none, some (.builtin "max"), none, some (.builtin "min"), none, some (.builtin "sorted"), none, some (.builtin "abs"), none, some (.builtin "sum"), none, some (.builtin "iter"), some (.builtin "__build_class__"), none, none, some (.ref 44), some (.str "law_op0045_01" 267), some (.ref 4), some (.bool false), none]
noncomputable def es1 : List Addr := [0, 1, 2, 3, 15]
noncomputable def PP1 : Program := PySem.Challenge.rw_op0045_01.row.prog
noncomputable def QQ1 : Program := view PP1 [2, 3, 5, 9, 10, 11, 12, 13, 14, 15, 16, 17, 18, 19, 20, 21]
noncomputable def LL1 : List Str := ["_initial_missing", "reduce", "_deduplicate"]
theorem left1 : LeftO PP1 QQ1 LL1 (fun s => xlAt QQ1 [] s && recOk (RowW.records PySem.Challenge.rw_op0045_01.row.toRowW) s) (lookH as1 ns1 es1) (fun _ => (os1, vs1, true)) 1120 := fun w => by
  kernel_rfl
section
open PySem.W.X
theorem zG7 {h : Heap} (K : zBT h as1 os1 ns1 vs1 es1) : Law1 (zDF 123 75 38 h) 126 125 123 75 38 := by
  have lim : zD (zDF 123 75 38 h) cStatics "sys.recursionlimit" none := K.ns3 (by rfl) (by rfl) (by kernel_rfl)
  have bn : ∀ {x : Str} {v : Value}, nsT ns1 vs1 mainGlobals x = some none → nsT ns1 vs1 builtinsNs x = some (some v) → BN (zDF 123 75 38 h) x v := fun e1 e2 => ⟨K.ns3 (by rfl) (by rfl) e1, K.ns3 (by rfl) (by rfl) e2⟩
  have gn : ∀ {x : Str} {v : Value}, nsT ns1 vs1 mainGlobals x = some (some v) → GN (zDF 123 75 38 h) x v := fun e1 => K.ns3 (by rfl) (by rfl) e1
  have cd : ∀ {a c : Addr} {i : Nat} {q : Str} {dV kV pm : Value} {vs : List Value} {tq : Tok}, objT as1 os1 a = some (fn1 i q dV kV pm c) → objT as1 os1 c = some (zAj vs) → vs[1]? = some (.str q tq) → fdC 123 75 38 a c (zA1 (st1 i) q [] dV kV .none pm (.ref c) .none) = true → FnK (zDF 123 75 38 h) a (zA1 (st1 i) q [] dV kV .none pm (.ref c) .none) := fun e ec hq hb => K.fn3 lim e rfl ec hq hb
  have mods : ∃ o, zDF 123 75 38 h sysModules = some o := by
    obtain ⟨o, _, _, h1, _, _, _⟩ : zD (zDF 123 75 38 h) sysModules "zz" none := K.ns3 (by rfl) (by rfl) (by kernel_rfl)
    exact ⟨o, h1⟩
  have T1 : zGV (zDF 123 75 38 h) := ⟨bn (by kernel_rfl) (by kernel_rfl), bn (by kernel_rfl) (by kernel_rfl), bn (by kernel_rfl) (by kernel_rfl), bn (by kernel_rfl) (by kernel_rfl), bn (by kernel_rfl) (by kernel_rfl), bn (by kernel_rfl) (by kernel_rfl), bn (by kernel_rfl) (by kernel_rfl), bn (by kernel_rfl) (by kernel_rfl), bn (by kernel_rfl) (by kernel_rfl), bn (by kernel_rfl) (by kernel_rfl), bn (by kernel_rfl) (by kernel_rfl), bn (by kernel_rfl) (by kernel_rfl)⟩
  exact ⟨T1, ⟨_, cd (by rfl) (by rfl) (by rfl) (by kernel_rfl)⟩, K.codeHd3 (cs := zFr) (by rfl) (by kernel_rfl) (by rfl) (by rfl) (by rfl) (by rfl) (by rfl) (by decide),
    ⟨73, _, _, gn (by kernel_rfl), cd (by rfl) (by rfl) (by rfl) (by kernel_rfl)⟩, ⟨80, 79, _, gn (by kernel_rfl), cd (by rfl) (by rfl) (by rfl) (by kernel_rfl), K.codeHd3 (cs := zHm) (by rfl) (by kernel_rfl) (by rfl) (by rfl) (by rfl) (by rfl) (by rfl) (by decide)⟩, ⟨85, _, _, gn (by kernel_rfl), cd (by rfl) (by rfl) (by rfl) (by kernel_rfl)⟩, ⟨90, _, _, gn (by kernel_rfl), cd (by rfl) (by rfl) (by rfl) (by kernel_rfl)⟩, ⟨95, _, _, gn (by kernel_rfl), cd (by rfl) (by rfl) (by rfl) (by kernel_rfl)⟩, ⟨100, _, _, gn (by kernel_rfl), cd (by rfl) (by rfl) (by rfl) (by kernel_rfl)⟩, ⟨107, _, _, gn (by kernel_rfl), cd (by rfl) (by rfl) (by rfl) (by kernel_rfl)⟩, ⟨114, _, _, gn (by kernel_rfl), cd (by rfl) (by rfl) (by rfl) (by kernel_rfl)⟩, ⟨121, _, _, gn (by kernel_rfl), cd (by rfl) (by rfl) (by rfl) (by kernel_rfl)⟩,
    ⟨22, 15, _, _, gn (by kernel_rfl), cd (by rfl) (by rfl) (by rfl) (by kernel_rfl), K.ns3 (by rfl) (by rfl) (by kernel_rfl)⟩, ⟨29, _, _, gn (by kernel_rfl), cd (by rfl) (by rfl) (by rfl) (by kernel_rfl)⟩, ⟨36, _, _, gn (by kernel_rfl), cd (by rfl) (by rfl) (by rfl) (by kernel_rfl)⟩, ⟨59, _, _, gn (by kernel_rfl), cd (by rfl) (by rfl) (by rfl) (by kernel_rfl)⟩, ⟨66, _, _, gn (by kernel_rfl), cd (by rfl) (by rfl) (by rfl) (by kernel_rfl)⟩,
    ⟨43, 42, _, gn (by kernel_rfl), cd (by rfl) (by rfl) (by rfl) (by kernel_rfl), K.codeHd3 (cs := zIk) (by rfl) (by kernel_rfl) (by rfl) (by rfl) (by rfl) (by rfl) (by rfl) (by decide)⟩,
    ⟨52, 45, 44, _, _, _, _, _, gn (by kernel_rfl), cd (by rfl) (by rfl) (by rfl) (by kernel_rfl), K.at3 (o := zFW [.ref 44]) (by rfl) (by kernel_rfl), by rfl, gn (by kernel_rfl), K.at3 (o := { cls := .type "object" }) (by rfl) (by kernel_rfl), by rfl⟩,
    bn (by kernel_rfl) (by kernel_rfl), bn (by kernel_rfl) (by kernel_rfl), bn (by kernel_rfl) (by kernel_rfl), bn (by kernel_rfl) (by kernel_rfl), bn (by kernel_rfl) (by kernel_rfl), bn (by kernel_rfl) (by kernel_rfl), K.ns3 (by rfl) (by rfl) (by kernel_rfl), K.ns3 (by rfl) (by rfl) (by kernel_rfl), mods,
    ⟨⟨.str "law_op0045_01" 267, K.ns3 (by rfl) (by rfl) (by kernel_rfl)⟩, ⟨4, _, K.ns3 (by rfl) (by rfl) (by kernel_rfl), by decide, K.at3 (o := { cls := .type "module", dict := some 0 }) (by rfl) (by kernel_rfl), by rfl, by rfl, by rfl⟩⟩, lim⟩
end
end Mine
open PySem.W.X PySem.W.ZRun Mine
set_option maxHeartbeats 0 in
theorem PySem.Challenge.cw_op0045_01_holds : PySem.Challenge.rw_op0045_01.Holds := by
  w_on
  refine holds_law (by kernel_rfl) fun said => ?_
  refine holds_openX (q := QQ1) (loose := LL1) (Xt := fun s => xlAt QQ1 [] s && recOk (RowW.records PySem.Challenge.rw_op0045_01.row.toRowW) s) (XP := XL QQ1 []) (Yf := lookH as1 ns1 es1) (Ya := fun _ => (os1, vs1, true)) (N := 1120) left1 (fun s e => xl_of s (Bool.and_eq_true_iff.mp e).1) XL.keeps (by rfl) (by rfl) (by rfl) (fun s e => recFacts_of (Bool.and_eq_true_iff.mp e).2) (by rfl) (by first | assumption | decide +kernel) (by decide +kernel) ⟨rfl, rfl, rfl, rfl, rfl, by decide +kernel⟩ ?hw ?hc
  (case hw => exact ⟨[ofPy (PyData.list [])], by decide +kernel, by decide +kernel⟩)
  intro w s₀ s₁ mg mb G y fa o pm cd doc dV kV ho hd hcd hD hmg hg args vals as L hpre hlay hrd hwl hlo
  have K := zBT.of y L.keeps
  refine Ground.open G ?_
  intro T B D TE TW
  wrow_args hpre hlay hrd hwl hlo
  have hfa : fa = 126 := by
    have e := K.val T.g (x := "law") (r := some (.ref 126)) (by rfl) (by kernel_rfl)
    have e2 : some (Value.ref fa) = some (.ref 126) := hmg.symm.trans e
    cases e2; rfl
  subst hfa
  clear hd hD hmg ho hcd
  have hkey : ∀ (ns : List Int) (sv : Addr), ¬ ((63 : Nat) : Int) < ((ns.length : Nat) : Int) → PySem.W.Well w.params s₁.heap (Value.ref sv) (ofPy (PyData.list (List.map PyData.int ns))) → wpAny (model PySem.Challenge.rw_op0045_01.row.prog w) callerA (call (.ref 126) [.ref sv]) (fun v s' => GoodWG PySem.Challenge.rw_op0045_01.row.claim (classAt s₀.heap) (ExcName.means s₀.heap) [ofPy (PyData.list (List.map PyData.int ns))] s₁ (.ok (.ret v)) s') (fun e s' => GoodWG PySem.Challenge.rw_op0045_01.row.claim (classAt s₀.heap) (ExcName.means s₀.heap) [ofPy (PyData.list (List.map PyData.int ns))] s₁ (.error e) s') s₁ := fun ns sv hn hW =>
    law1_end (zG7 K) (by omega) hW (K.obj (by kernel_rfl)) (K.obj (by kernel_rfl)) (K.obj (by kernel_rfl)) (by decide) (by decide) (by decide) (K.table (c := 125) (cs := zFr) (by kernel_rfl) (by rfl)) (K.table (c := 79) (cs := zHm) (by kernel_rfl) (by rfl)) (K.table (c := 42) (cs := zIk) (by kernel_rfl) (by rfl)) (fun _ => rfl) (by first | rfl | wrow_post) hg
  exact hkey _ _ (by assumption) (by assumption)
